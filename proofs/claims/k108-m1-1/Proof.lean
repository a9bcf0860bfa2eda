import JvmDerived
import JvmDerived.Pilot.@@N@@Statement
import JvmDerived.Pilot.@@N@@Code
set_option linter.unusedVariables false
set_option linter.unusedSimpArgs false
namespace Jvm.Pilot.@@N@@
open Jvm Jvm.ClassFile Sem Op Lib Jvm.Free Jvm.Stand Jvm.LawKit Jvm.RoadKit Bundle Jvm.Pilot.@@N@@.Jvm.D
section Own
variable {p : Program} {l : Launch} {e : Env} {R : Room} {s : State} {m : MethodId} {args : Array Value} {below : List Frame} {meth : Method} {c : Code} {T T' : State} {locs : List Loc} {cells slots : Nat} {Z : State} {h h' : Heap} {P : Option Value → Heap → List Loc → Prop} {cm sm : Nat} {g g' : JFrame}
/-- from where the walk stands the body comes to its end, and P says what it leaves -/
def own_Go (p : Program) (e : Env) (below : List Frame) (s : State) (P : Option Value → Heap → List Loc → Prop) (cm sm : Nat) (T : State) (g : JFrame) : Prop :=
  ∃ s₂ o, Steps p.tables e below (T.setTop g) s₂ ∧ s₂.status = .running ∧ Ended s₂ below o ∧ ∃ v L, o = .returned v ∧ P v s₂.heap L ∧ FrameEnd s o s₂ L cm sm
theorem own_st (st : ∀ t, Steps p.tables e below (T'.setTop g') t → Steps p.tables e below (T.setTop g) t) (k : own_Go p e below s P cm sm T' g') : own_Go p e below s P cm sm T g := by
  obtain ⟨s₂, o, h1, h2⟩ := k; exact ⟨s₂, o, st _ h1, h2⟩
theorem own_tr (st : Steps p.tables e below (T.setTop g) (T'.setTop g')) (k : own_Go p e below s P cm sm T' g') : own_Go p e below s P cm sm T g := own_st (fun _ q => st.trans q) k
theorem own_out (X : Stand p l e R s m args below meth c T locs cells slots) {v : Option Value} (hv : meth.sig.returnType = none → v = none) (hlk : meth.locks = false) (eT : T.heap = h)
    (hret : ∀ fs, (∀ (f : JFrame) (acts : List Action), f.method = m → f.locked = none → f.entered = [] → (doReturn e (T.setTop f) acts v).1 = T.setFrames fs) → Steps p.tables e below (T.setTop g) (T.setFrames fs))
    (hP : P v h locs) (hc : cells ≤ cm) (hs : slots ≤ sm) : own_Go p e below s P cm sm T g := by
  obtain ⟨fs, hr, hrun, hended, hW, hsame⟩ := X.leave hv hlk
  subst eT
  exact ⟨_, _, hret fs hr, hrun, hended, v, locs, rfl, hP, ⟨_, rfl⟩, hW, hsame.mono hc hs⟩
theorem own_retI (X : Stand p l e R s m args below meth c T locs cells slots) (hx : p.tables.exec = Jvm.exec) (hret : meth.sig.returnType = some .int) (hlk : meth.locks = false) (eT : T.heap = h) {pc : Nat} {Ls : Array Slot} {z : Int32} {rest : List Value} (hd : decode c.code pc = .ok (.ireturn, 1))
    (hP : P (some (.int z)) h locs) (hc : cells ≤ cm) (hs : slots ≤ sm) : own_Go p e below s P cm sm T (mkF m pc Ls (.int z :: rest)) :=
  own_out X (fun q => by rw [hret] at q; cases q) hlk eT (fun fs hr => retOut X hx hret rfl (Or.inl ⟨rfl, Or.inl rfl, z, rfl⟩) hd hr) hP hc hs
theorem own_retN (X : Stand p l e R s m args below meth c T locs cells slots) (hx : p.tables.exec = Jvm.exec) {t : FieldType} (hret : meth.sig.returnType = some t) (hlk : meth.locks = false) (eT : T.heap = h) (ht : t = .boolean ∨ t = .byte ∨ t = .char ∨ t = .short) {pc : Nat} {Ls : Array Slot} {z : Int32} {rest : List Value} (hd : decode c.code pc = .ok (.ireturn, 1))
    (hP : P (some (.int (nar t z))) h locs) (hc : cells ≤ cm) (hs : slots ≤ sm) : own_Go p e below s P cm sm T (mkF m pc Ls (.int z :: rest)) :=
  own_out X (fun q => by rw [hret] at q; cases q) hlk eT (fun fs hr => retN X hx hret ht hd hr) hP hc hs
theorem own_retJ (X : Stand p l e R s m args below meth c T locs cells slots) (hx : p.tables.exec = Jvm.exec) (hret : meth.sig.returnType = some .long) (hlk : meth.locks = false) (eT : T.heap = h) {pc : Nat} {Ls : Array Slot} {z : Int64} {rest : List Value} (hd : decode c.code pc = .ok (.lreturn, 1))
    (hP : P (some (.long z)) h locs) (hc : cells ≤ cm) (hs : slots ≤ sm) : own_Go p e below s P cm sm T (mkF m pc Ls (.long z :: rest)) :=
  own_out X (fun q => by rw [hret] at q; cases q) hlk eT (fun fs hr => retOut X hx hret rfl (Or.inr (Or.inl ⟨rfl, rfl, z, rfl⟩)) hd hr) hP hc hs
theorem own_retR (X : Stand p l e R s m args below meth c T locs cells slots) (hx : p.tables.exec = Jvm.exec) {t : FieldType} (hret : meth.sig.returnType = some t) (hlk : meth.locks = false) (eT : T.heap = h) (ht : t.isReference = true) {pc : Nat} {Ls : Array Slot} {w : Value} (hw : w.isRef = true) {rest : List Value} (hd : decode c.code pc = .ok (.areturn, 1))
    (hP : P (some w) h locs) (hc : cells ≤ cm) (hs : slots ≤ sm) : own_Go p e below s P cm sm T (mkF m pc Ls (w :: rest)) :=
  own_out X (fun q => by rw [hret] at q; cases q) hlk eT (fun fs hr => retOut X hx hret (by cases t <;> cases w <;> first | rfl | (simp [Value.isRef] at hw; done) | (simp [FieldType.isReference] at ht; done)) (Or.inr (Or.inr (Or.inr (Or.inr ⟨rfl, ht, hw⟩)))) hd hr) hP hc hs
theorem own_ret0 (X : Stand p l e R s m args below meth c T locs cells slots) (hx : p.tables.exec = Jvm.exec) (hret : meth.sig.returnType = none) (hlk : meth.locks = false) (eT : T.heap = h) {pc : Nat} {Ls : Array Slot} (hd : decode c.code pc = .ok (.return_, 1))
    (hP : P none h locs) (hc : cells ≤ cm) (hs : slots ≤ sm) : own_Go p e below s P cm sm T (mkF m pc Ls []) :=
  own_out X (fun _ => rfl) hlk eT (fun fs hr => X.returnOut hx hret hd hr) hP hc hs
/-- an array by its length and what each place holds -/
def own_Av (Z : State) (h : Heap) (a : Addr) (k : ClassId) (ty : FieldType) (n : Nat) (f : Nat → Value) : Prop := ∃ cl : Cell, Arr Z h a cl ty ∧ cl.cls = k ∧ cl.slots.size = n ∧ ∀ j, j < n → cl.slots[j]? = some (f j)
variable {a b : Addr} {k : ClassId} {ty : FieldType} {n i sl : Nat} {f : Nat → Value} {v w : Value} {ws : List Addr} {z j x : Int32} {rest : List Value}
theorem own_Av.lt (F : own_Av Z h a k ty n f) : a < h.size := by obtain ⟨cl, A, -⟩ := F; exact A.lt
theorem own_Av.ext (F : own_Av Z h a k ty n f) (E : Ext h h') : own_Av Z h' a k ty n f := by obtain ⟨cl, A, r⟩ := F; exact ⟨cl, A.ext E, r⟩
theorem own_Av.other (F : own_Av Z h b k ty n f) (W : Wr h h' a sl v) (q : b ≠ a) : own_Av Z h' b k ty n f := by obtain ⟨cl, A, r⟩ := F; exact ⟨cl, A.other W q, r⟩
theorem own_Av.keep (F : own_Av Z h a k ty n f) (K : Keep h h' ws) (q : a ∉ ws) : own_Av Z h' a k ty n f := by obtain ⟨cl, A, r⟩ := F; exact ⟨cl, ⟨K.2.1 a cl A.1 q, A.2⟩, r⟩
theorem own_Av.new (A : Arr Z h a (newA k ty z) ty) (hz : z.toNatClampNeg = n) : own_Av Z h a k ty n (fun _ => defaultValue ty) := ⟨_, A, rfl, (sz_new _ _ _).trans hz, fun q hq => by
  subst hz; simp [newA, hq]⟩
theorem own_Av.set (F : own_Av Z h a k ty n f) (W : Wr h h' a i v) (hi : i < n) : own_Av Z h' a k ty n (fun q => if q = i then v else f q) := by
  obtain ⟨cl, A, r1, r2, r3⟩ := F
  refine ⟨_, A.same W, r1, by rw [sz_set]; exact r2, fun q hq => ?_⟩
  by_cases u : q = i
  · subst u; simp [Cell.setSlot, r2, hi]
  · have := r3 q hq; simp only [Cell.setSlot, u, if_false]; rw [Array.getElem?_setIfInBounds_ne (Ne.symm u)]; exact this
theorem own_Av.to {f' : Nat → Value} (F : own_Av Z h a k ty n f) (q : ∀ j, j < n → f j = f' j) : own_Av Z h a k ty n f' := by
  obtain ⟨cl, A, r1, r2, r3⟩ := F; exact ⟨cl, A, r1, r2, fun j hj => by rw [← q j hj]; exact r3 j hj⟩
theorem own_idx (hj : j.toInt = i) : j.toNatClampNeg = i := by simp [Int32.toNatClampNeg, hj]
theorem own_inb {cl : Cell} (hj : j.toInt = i) (hs : cl.slots.size = n) (hi : i < n) : ¬ (j < 0 ∨ cl.slots.size ≤ j.toNatClampNeg) := by
  rw [own_idx hj, hs, Int32.lt_iff_toInt_lt, hj]; have : (0 : Int32).toInt = 0 := rfl; omega
theorem own_stC (X : Stand p l e R s m args below meth c T locs cells slots) (hx : p.tables.exec = Jvm.exec) (hZ : Z.Warmed39 s.vm) (eT : T.heap = h) (F : own_Av Z h a k .char n f) (hj : j.toInt = i) (hi : i < n) (hg : g.method = m) (hs : g.stack = .int x :: .int j :: .ref a :: rest) (hd : decode c.code g.pc = .ok (.castore, 1)) :
    ∃ T' h', Stand p l e R s m args below meth c T' (locs ++ [⟨a, i⟩]) cells slots ∧ T'.heap = h' ∧ Wr h h' a i (.int (nar .char x)) ∧ own_Av Z h' a k .char n (fun q => if q = i then .int (nar .char x) else f q) ∧ ∀ target, Steps p.tables e below (T'.setTop { g with pc := g.pc + 1, stack := rest }) target → Steps p.tables e below (T.setTop g) target := by
  obtain ⟨cl, A, r1, r2, r3⟩ := F
  obtain ⟨T', h', X', e', W, st⟩ := stC X hx hZ eT A (own_inb hj r2 hi) hg hs hd
  rw [own_idx hj] at X' W
  exact ⟨T', h', X', e', W, own_Av.set ⟨cl, A, r1, r2, r3⟩ W hi, st⟩
theorem own_stB (X : Stand p l e R s m args below meth c T locs cells slots) (hx : p.tables.exec = Jvm.exec) (hZ : Z.Warmed39 s.vm) (eT : T.heap = h) (F : own_Av Z h a k .byte n f) (hj : j.toInt = i) (hi : i < n) (hg : g.method = m) (hs : g.stack = .int x :: .int j :: .ref a :: rest) (hd : decode c.code g.pc = .ok (.bastore, 1)) :
    ∃ T' h', Stand p l e R s m args below meth c T' (locs ++ [⟨a, i⟩]) cells slots ∧ T'.heap = h' ∧ Wr h h' a i (.int (nar .byte x)) ∧ own_Av Z h' a k .byte n (fun q => if q = i then .int (nar .byte x) else f q) ∧ ∀ target, Steps p.tables e below (T'.setTop { g with pc := g.pc + 1, stack := rest }) target → Steps p.tables e below (T.setTop g) target := by
  obtain ⟨cl, A, r1, r2, r3⟩ := F
  obtain ⟨T', h', X', e', W, st⟩ := stB X hx hZ eT A (own_inb hj r2 hi) hg hs hd
  rw [own_idx hj] at X' W
  exact ⟨T', h', X', e', W, own_Av.set ⟨cl, A, r1, r2, r3⟩ W hi, st⟩
theorem own_stI (X : Stand p l e R s m args below meth c T locs cells slots) (hx : p.tables.exec = Jvm.exec) (hZ : Z.Warmed39 s.vm) (eT : T.heap = h) (F : own_Av Z h a k .int n f) (hj : j.toInt = i) (hi : i < n) (hg : g.method = m) (hs : g.stack = .int x :: .int j :: .ref a :: rest) (hd : decode c.code g.pc = .ok (.iastore, 1)) :
    ∃ T' h', Stand p l e R s m args below meth c T' (locs ++ [⟨a, i⟩]) cells slots ∧ T'.heap = h' ∧ Wr h h' a i (.int x) ∧ own_Av Z h' a k .int n (fun q => if q = i then .int x else f q) ∧ ∀ target, Steps p.tables e below (T'.setTop { g with pc := g.pc + 1, stack := rest }) target → Steps p.tables e below (T.setTop g) target := by
  obtain ⟨cl, A, r1, r2, r3⟩ := F
  obtain ⟨T', h', X', e', W, st⟩ := stI X hx hZ eT A (own_inb hj r2 hi) hg hs hd
  rw [own_idx hj] at X' W
  exact ⟨T', h', X', e', W, own_Av.set ⟨cl, A, r1, r2, r3⟩ W hi, st⟩
theorem own_stJ {y : Int64} (X : Stand p l e R s m args below meth c T locs cells slots) (hx : p.tables.exec = Jvm.exec) (hZ : Z.Warmed39 s.vm) (eT : T.heap = h) (F : own_Av Z h a k .long n f) (hj : j.toInt = i) (hi : i < n) (hg : g.method = m) (hs : g.stack = .long y :: .int j :: .ref a :: rest) (hd : decode c.code g.pc = .ok (.lastore, 1)) :
    ∃ T' h', Stand p l e R s m args below meth c T' (locs ++ [⟨a, i⟩]) cells slots ∧ T'.heap = h' ∧ Wr h h' a i (.long y) ∧ own_Av Z h' a k .long n (fun q => if q = i then .long y else f q) ∧ ∀ target, Steps p.tables e below (T'.setTop { g with pc := g.pc + 1, stack := rest }) target → Steps p.tables e below (T.setTop g) target := by
  obtain ⟨cl, A, r1, r2, r3⟩ := F
  obtain ⟨T', h', X', e', W, st⟩ := stJ X hx hZ eT A (own_inb hj r2 hi) hg hs hd
  rw [own_idx hj] at X' W
  exact ⟨T', h', X', e', W, own_Av.set ⟨cl, A, r1, r2, r3⟩ W hi, st⟩
theorem own_stR {C : String} (X : Stand p l e R s m args below meth c T locs cells slots) (hx : p.tables.exec = Jvm.exec) (hZ : Z.Warmed39 s.vm) (eT : T.heap = h) (F : own_Av Z h a k (.object C) n f) (O : Ovr Z k C) (I : v = .null ∨ ∃ y, v = .ref y ∧ Ins Z h y C true) (hj : j.toInt = i) (hi : i < n) (hg : g.method = m) (hs : g.stack = v :: .int j :: .ref a :: rest) (hd : decode c.code g.pc = .ok (.aastore, 1)) :
    ∃ T' h', Stand p l e R s m args below meth c T' (locs ++ [⟨a, i⟩]) cells slots ∧ T'.heap = h' ∧ Wr h h' a i v ∧ own_Av Z h' a k (.object C) n (fun q => if q = i then v else f q) ∧ ∀ target, Steps p.tables e below (T'.setTop { g with pc := g.pc + 1, stack := rest }) target → Steps p.tables e below (T.setTop g) target := by
  obtain ⟨cl, A, r1, r2, r3⟩ := F
  have St : Sto Z h a v := by
    rcases I with rfl | ⟨y, rfl, I⟩
    · exact Or.inl rfl
    · exact Sto.ofV A r1 O I
  obtain ⟨T', h', X', e', W, st⟩ := stR X hx hZ eT A (own_inb hj r2 hi) rfl St hg hs hd
  rw [own_idx hj] at X' W
  exact ⟨T', h', X', e', W, own_Av.set ⟨cl, A, r1, r2, r3⟩ W hi, st⟩
theorem own_ldC (X : Stand p l e R s m args below meth c T locs cells slots) (hx : p.tables.exec = Jvm.exec) (hZ : Z.Warmed39 s.vm) (eT : T.heap = h) (F : own_Av Z h a k .char n f) (hj : j.toInt = i) (hi : i < n) (hv : f i = v) (hg : g.method = m) (hs : g.stack = .int j :: .ref a :: rest) (hd : decode c.code g.pc = .ok (.caload, 1)) (target : State)
    (hr : Steps p.tables e below (T.setTop { g with pc := g.pc + 1, stack := v :: rest }) target) : Steps p.tables e below (T.setTop g) target := by
  obtain ⟨cl, A, r1, r2, r3⟩ := F
  exact X.caload hx (by rw [eT]; exact A.1) (State.isArrayOf_alike hZ.alike A.2.1) A.2.2 (own_inb hj r2 hi) (by rw [own_idx hj, r3 i hi, hv]) hg hs hd target hr
theorem own_ldB (X : Stand p l e R s m args below meth c T locs cells slots) (hx : p.tables.exec = Jvm.exec) (hZ : Z.Warmed39 s.vm) (eT : T.heap = h) (F : own_Av Z h a k .byte n f) (hj : j.toInt = i) (hi : i < n) (hv : f i = v) (hg : g.method = m) (hs : g.stack = .int j :: .ref a :: rest) (hd : decode c.code g.pc = .ok (.baload, 1)) (target : State)
    (hr : Steps p.tables e below (T.setTop { g with pc := g.pc + 1, stack := v :: rest }) target) : Steps p.tables e below (T.setTop g) target := by
  obtain ⟨cl, A, r1, r2, r3⟩ := F
  exact X.baloadBytes hx (by rw [eT]; exact A.1) (State.isArrayOf_alike hZ.alike A.2.1) A.2.2 (own_inb hj r2 hi) (by rw [own_idx hj, r3 i hi, hv]) hg hs hd target hr
theorem own_ldI (X : Stand p l e R s m args below meth c T locs cells slots) (hx : p.tables.exec = Jvm.exec) (hZ : Z.Warmed39 s.vm) (eT : T.heap = h) (F : own_Av Z h a k .int n f) (hj : j.toInt = i) (hi : i < n) (hv : f i = v) (hg : g.method = m) (hs : g.stack = .int j :: .ref a :: rest) (hd : decode c.code g.pc = .ok (.iaload, 1)) (target : State)
    (hr : Steps p.tables e below (T.setTop { g with pc := g.pc + 1, stack := v :: rest }) target) : Steps p.tables e below (T.setTop g) target := by
  obtain ⟨cl, A, r1, r2, r3⟩ := F
  exact X.iaload hx (by rw [eT]; exact A.1) (State.isArrayOf_alike hZ.alike A.2.1) A.2.2 (own_inb hj r2 hi) (by rw [own_idx hj, r3 i hi, hv]) hg hs hd target hr
theorem own_ldR (X : Stand p l e R s m args below meth c T locs cells slots) (hx : p.tables.exec = Jvm.exec) (hZ : Z.Warmed39 s.vm) (eT : T.heap = h) (F : own_Av Z h a k ty n f) (hty : ty.isReference = true) (hj : j.toInt = i) (hi : i < n) (hv : f i = v) (hg : g.method = m) (hs : g.stack = .int j :: .ref a :: rest) (hd : decode c.code g.pc = .ok (.aaload, 1)) (target : State)
    (hr : Steps p.tables e below (T.setTop { g with pc := g.pc + 1, stack := v :: rest }) target) : Steps p.tables e below (T.setTop g) target := by
  obtain ⟨cl, A, r1, r2, r3⟩ := F
  exact X.aaload hx (by rw [eT]; exact A.1) (State.isArrayOf_alike hZ.alike A.2.1) hty A.2.2 (own_inb hj r2 hi) (by rw [own_idx hj, r3 i hi, hv]) hg hs hd target hr
theorem own_len (X : Stand p l e R s m args below meth c T locs cells slots) (hx : p.tables.exec = Jvm.exec) (hZ : Z.Warmed39 s.vm) (eT : T.heap = h) (F : own_Av Z h a k ty n f) (hz : n.toInt32 = z) (hg : g.method = m) (hs : g.stack = .ref a :: rest) (hd : decode c.code g.pc = .ok (.arraylength, 1)) (target : State)
    (hr : Steps p.tables e below (T.setTop { g with pc := g.pc + 1, stack := .int z :: rest }) target) : Steps p.tables e below (T.setTop g) target := by
  obtain ⟨cl, A, r1, r2, r3⟩ := F
  exact X.arraylength hx (by rw [eT]; exact A.1) (State.isArrayOf_alike hZ.alike A.2.1) hg hs hd target (by rw [r2, hz]; exact hr)
theorem own_ne (q : a < h.size) (r : b = h.size) : a ≠ b := Nat.ne_of_lt (Nat.lt_of_lt_of_le q (Nat.le_of_eq r.symm))
theorem own_ne2 (q : a < h.size) (r : h.size ≤ b) : a ≠ b := Nat.ne_of_lt (Nat.lt_of_lt_of_le q r)
theorem own_ge {n0 : Nat} (q : n0 ≤ h.size) (r : b = h.size) : n0 ≤ b := Nat.le_trans q (Nat.le_of_eq r.symm)
theorem own_store1 {L : Array Slot} {o : Slot} (hv : v.isRef = true) (hold : L[i]? = some o) (ho : o = .unset ∨ ∃ w, o = .val w ∧ w.category = 1) : storeLocals L i v = some (L.setIfInBounds i (.val v)) := XS.store1 hold ho (Jvm.Free.XT.cat1 hv)
theorem own_nref (ht : ty.isReference = true) (hv : v.isRef = true) : narrow ty v = v := by cases ty <;> cases v <;> first | rfl | (simp [Value.isRef] at hv; done) | (simp [FieldType.isReference] at ht; done)
theorem own_fref (ht : ty.isReference = true) (hv : v.isRef = true) : fits ty v = true := by cases ty <;> cases v <;> first | rfl | (simp [Value.isRef] at hv; done) | (simp [FieldType.isReference] at ht; done)
theorem own_fldI {t : Term} {C nm d : String} (ev : t.eval args s none [] s = some (.ref a)) (hq : (Cond.eq (Term.field t C nm d) (Term.int z)).value args s none s [] = some true) : Fld s s.heap a C nm d (.int z) := by
  obtain ⟨x, y, hx, hy, -, -⟩ := cmp_v (Or.inl hq)
  obtain rfl : y = .int z := (Option.some.inj hy).symm
  have : x = .int z := by simp only [Cond.value, hx, hy] at hq; cases x <;> simp at hq ⊢; exact hq
  rw [fld_at ev] at hx
  exact Fld.start (this ▸ hx)
theorem own_fldJ {t : Term} {C nm d : String} {z : Int64} (ev : t.eval args s none [] s = some (.ref a)) (hq : (Cond.eq (Term.field t C nm d) (Term.long z)).value args s none s [] = some true) : Fld s s.heap a C nm d (.long z) := by
  obtain ⟨x, y, hx, hy, -, -⟩ := cmp_v (Or.inl hq)
  obtain rfl : y = .long z := (Option.some.inj hy).symm
  have : x = .long z := by simp only [Cond.value, hx, hy] at hq; cases x <;> simp at hq ⊢; exact hq
  rw [fld_at ev] at hx
  exact Fld.start (this ▸ hx)
theorem own_fldN {t : Term} {C nm d : String} (ev : t.eval args s none [] s = some (.ref a)) (hq : (Cond.eq (Term.field t C nm d) Term.null).value args s none s [] = some true) : Fld s s.heap a C nm d .null := by
  have hx := null_v hq
  rw [fld_at ev] at hx
  exact Fld.start hx
theorem own_selP {y : MethodName} {nn : Nat} {a0 : Array Value} (hZ : Z.Warmed39 s.vm) (wi : (Cond.instantiable y.cls nn).before a0 Z = true) (wp : (Cond.privateMethod y).before a0 Z = true) (wm : (Cond.instanceMethod y).before a0 Z = true) (hy : y.cls ≠ "java/lang/invoke/MethodHandle" ∧ y.cls ≠ "java/lang/invoke/VarHandle") : (Cond.selects y.cls y y).before args s = true := by
  obtain ⟨c', k', h1, h2, -, h4, -⟩ := Cond.instantiable_spec (mv (args := args) hZ wi : (Cond.instantiable y.cls nn).before args s = true)
  exact selects_self_of_private h1 h2 (by simp at h4; exact h4.1) (Cond.privateMethod_at (mvP hZ wp (args := args))) (mv hZ wm) hy
end Own
def own_in (ct mn mx : Int32) : Int32 := if ct < mn then 0 else if mx < ct then 0 else 1
theorem own_sub (x y : Int32) : (x.toInt64 - y.toInt64).toInt = x.toInt - y.toInt := by
  have h1 := x.toInt_lt; have h2 := x.le_toInt; have h3 := y.toInt_lt; have h4 := y.le_toInt
  rw [Jvm.Free.XT.sub64 ⟨by rw [c_i2l, c_i2l]; omega, by rw [c_i2l, c_i2l]; omega⟩, c_i2l, c_i2l]
theorem own_exp (ct mn mx : Int32) : (if (ct.toInt64 - mn.toInt64) < (0 : Int64) then (0 : Int32) else if (mx.toInt64 - mn.toInt64) < (ct.toInt64 - mn.toInt64) then 0 else 1) = own_in ct mn mx := by
  have e0 : (0 : Int64).toInt = 0 := rfl
  have q1 : ((ct.toInt64 - mn.toInt64) < (0 : Int64)) ↔ ct < mn := by rw [Int64.lt_iff_toInt_lt, own_sub, Int32.lt_iff_toInt_lt, e0]; omega
  have q2 : ((mx.toInt64 - mn.toInt64) < (ct.toInt64 - mn.toInt64)) ↔ mx < ct := by rw [Int64.lt_iff_toInt_lt, own_sub, own_sub, Int32.lt_iff_toInt_lt]; omega
  simp only [own_in, q1, q2]
theorem own_mx (mn sp : Int32) (h : 1 ≤ mn.toInt) : ∃ y : Int64, y = (((2147483647 : Int64) - mn.toInt64) + (1 : Int64)) ∧ 1 ≤ y.toInt ∧ y.toInt = 2147483648 - mn.toInt ∧
    mn.toInt ≤ (mn + ((sp.toInt64 &&& (4294967295 : Int64)) - ((sp.toInt64 &&& (4294967295 : Int64)) / y) * y).toInt32).toInt := by
  have h1 := mn.toInt_lt
  have e1 : (2147483647 : Int64).toInt = 2147483647 := rfl
  have e2 : (1 : Int64).toInt = 1 := rfl
  have s1 : ((2147483647 : Int64) - mn.toInt64).toInt = 2147483647 - mn.toInt := by rw [Jvm.Free.XT.sub64 ⟨by rw [c_i2l]; omega, by rw [c_i2l]; omega⟩, c_i2l, e1]
  have s2 : (((2147483647 : Int64) - mn.toInt64) + (1 : Int64)).toInt = 2147483648 - mn.toInt := by rw [Jvm.Free.XT.add64 ⟨by omega, by omega⟩]; omega
  refine ⟨_, rfl, by omega, s2, ?_⟩
  generalize hy : (((2147483647 : Int64) - mn.toInt64) + (1 : Int64)) = y at s2 ⊢
  have m1 := c_maskL sp.toInt64 (4294967295 : Int64) 32 (by decide) (by decide)
  generalize hx : (sp.toInt64 &&& (4294967295 : Int64)) = x at m1 ⊢
  have x0 : 0 ≤ x.toInt := by omega
  have r1 := (c_lrem x y y.toInt rfl).1 x0
  have r2 := Int.emod_lt_of_pos x.toInt (show 0 < y.toInt by omega)
  have r3 := Int.emod_nonneg x.toInt (show y.toInt ≠ 0 by omega)
  generalize hz : (x - (x / y) * y) = z at r1 ⊢
  have n1 : z.toInt32.toInt = z.toInt := Jvm.Free.XT.narrowInt ⟨by omega, by omega⟩
  rw [Jvm.Free.XT.add32 ⟨by omega, by omega⟩]; omega
theorem own_div (mn mx : Int32) (h : mn.toInt ≤ mx.toInt) : ¬ ((mx.toInt64 - mn.toInt64) + (1 : Int64)) = (0 : Int64) := by
  have h1 := mx.toInt_lt; have h2 := mn.le_toInt; have h3 := mx.le_toInt; have h4 := mn.toInt_lt
  have e2 : (1 : Int64).toInt = 1 := rfl
  have s := own_sub mx mn
  have s2 : ((mx.toInt64 - mn.toInt64) + (1 : Int64)).toInt = (mx.toInt - mn.toInt) + 1 := by rw [Jvm.Free.XT.add64 ⟨by omega, by omega⟩]; omega
  intro q; rw [q] at s2; have : (0 : Int64).toInt = 0 := rfl; omega
theorem own_share (s : Int32) : ∃ u v : UInt64, FP.i2d ((s &&& (3 : Int32)) + (1 : Int32)) = u ∧ FP.ddiv u (4616189618054758400 : UInt64) = v ∧ Jvm.Free.Fl.NoNaN64 (FP.ddiv u (4616189618054758400 : UInt64)) ∧ (0 : Int32) < cmpValue (FP.dcmp v FP.dconst0) .l ∧ ¬ (0 : Int32) < cmpValue (FP.dcmp v FP.dconst1) .g := by
  have h := c_and s (3 : Int32) (by decide)
  have e3 : (3 : Int32).toInt = 3 := rfl
  have hc : (s &&& (3 : Int32)) = 0 ∨ (s &&& (3 : Int32)) = 1 ∨ (s &&& (3 : Int32)) = 2 ∨ (s &&& (3 : Int32)) = 3 := by
    rcases (by omega : (s &&& (3 : Int32)).toInt = 0 ∨ (s &&& (3 : Int32)).toInt = 1 ∨ (s &&& (3 : Int32)).toInt = 2 ∨ (s &&& (3 : Int32)).toInt = 3) with q | q | q | q
    · exact Or.inl (Int32.toInt_inj.mp q)
    · exact Or.inr (Or.inl (Int32.toInt_inj.mp q))
    · exact Or.inr (Or.inr (Or.inl (Int32.toInt_inj.mp q)))
    · exact Or.inr (Or.inr (Or.inr (Int32.toInt_inj.mp q)))
  rcases hc with q | q | q | q <;> rw [q] <;> exact ⟨_, _, rfl, rfl, by decide +kernel, by decide +kernel, by decide +kernel⟩
theorem d1_0 : decode jdk_29_method_65_code 0 = .ok (.iload_n 0, 1) := by decide +kernel
theorem d1_1 : decode jdk_29_method_65_code 1 = .ok (.iload_n 1, 1) := by decide +kernel
theorem d1_2 : decode jdk_29_method_65_code 2 = .ok (.if_icmp .lt 7, 3) := by decide +kernel
theorem d1_5 : decode jdk_29_method_65_code 5 = .ok (.iload_n 0, 1) := by decide +kernel
theorem d1_6 : decode jdk_29_method_65_code 6 = .ok (.goto 4, 3) := by decide +kernel
theorem d1_9 : decode jdk_29_method_65_code 9 = .ok (.iload_n 1, 1) := by decide +kernel
theorem d1_10 : decode jdk_29_method_65_code 10 = .ok (.ireturn, 1) := by decide +kernel
def own_max_Q (Z : State) (u : Int32) (w : Int32) (h0 : Heap) (n0 : Nat) (v : Option Value) (h : Heap) (L : List Loc) : Prop := v = some (.int (if u < w then w else u)) ∧ Fr n0 L ∧ h = h0
set_option maxRecDepth 65536 in
set_option maxHeartbeats 40000000 in
theorem own_max (l : Launch) (Z : State) (a0 : Array Value) (hw : ∀ d ∈ tables_1, d.before a0 Z = true) (ws : List Jvm.Cond) (u : Int32) (w : Int32) (h0 : Heap) (n0 : Nat) (Z0 : n0 ≤ h0.size) :
    MetFree l (⟨"java/lang/Math", "max", "(II)I"⟩ : MethodName) (head1 (Jvm.Cond.code (⟨"java/lang/Math", "max", "(II)I"⟩ : MethodName) jdk_29_method_65_code 2 (some .int) :: ws) ({ frames := 0, cells := 0, slots := 0, locals := 0 } : Room)) (fun aa U0 => aa = #[(.int u), (.int w)] ∧ Z.Warmed39 U0.vm ∧ U0.heap = h0) (fun _ _ _ _ _ => True) (fun _ U0 o0 U1 => ∃ v0 L0, o0 = .returned v0 ∧ own_max_Q Z u w h0 n0 v0 U1.heap L0 ∧ FrameEnd U0 o0 U1 L0 ({ frames := 0, cells := 0, slots := 0, locals := 0 } : Room).cells ({ frames := 0, cells := 0, slots := 0, locals := 0 } : Room).slots) := by
  refine MetFree.of_bodySF (Jvm.Free.JP.mathPlain rfl (by decide +kernel)) hisR ?_
  intro p e s m args below meth c s₁ Bd hml0 hP hK
  obtain ⟨rfl, hZ, hh⟩ := hP
  have hx := Bd.exec
  have hby := Bd.bytes
  have hml : c.maxLocals = 2 := hml0
  have hown : s.vm.findClass "java/lang/Math" = some m.cls := findClass_of_methodNamed Bd.named
  have hnm := (name_of_methodNamed Bd.named Bd.method).1
  have X0 : Stand p l e ({ frames := 0, cells := 0, slots := 0, locals := 0 } : Room) s m #[(.int u), (.int w)] below meth c s₁ [] 0 0 := Stand.of_body Bd
  have e0 : s₁.heap = h0 := by rw [← hh, Bd.state]; rfl
  have N0 := Fr.nil n0
  show own_Go p e below s (own_max_Q Z u w h0 n0) 0 0 s₁ (entryFrame m #[(.int u), (.int w)] 2)
  rw [show entryFrame m #[(.int u), (.int w)] 2 = mkF m 0 #[.val (.int u), .val (.int w)] [] from by first | (simp [entryFrame, mkF, argsToLocals, Value.category]; done) | rfl]
  refine own_st (T' := s₁) (g' := (mkF m 1 #[.val (.int u), .val (.int w)] [(.int u)])) (fun _ k => XS.iloadN X0.here hx rfl (hb hby d1_0) rfl k) ?_
  refine own_st (T' := s₁) (g' := (mkF m 2 #[.val (.int u), .val (.int w)] [(.int w), (.int u)])) (fun _ k => XS.iloadN X0.here hx rfl (hb hby d1_1) rfl k) ?_
  by_cases q1 : u < w
  · refine own_st (T' := s₁) (g' := (mkF m 9 #[.val (.int u), .val (.int w)] [])) (fun _ k => XS.icmpYes X0.here hx rfl (pc0 := 2) (pc' := 9) rfl (hb hby d1_2) rfl (Jvm.Free.XT.ii_lt_t q1) (by decide) (by decide) k) ?_
    refine own_st (T' := s₁) (g' := (mkF m 10 #[.val (.int u), .val (.int w)] [(.int w)])) (fun _ k => XS.iloadN X0.here hx rfl (hb hby d1_9) rfl k) ?_
    exact own_retI X0 hx Bd.returns Bd.notSynchronized e0 (hb hby d1_10) ⟨by simp [q1], N0, rfl⟩ (by decide) (by decide)
  · refine own_st (T' := s₁) (g' := (mkF m 5 #[.val (.int u), .val (.int w)] [])) (fun _ k => XS.icmpNo X0.here hx rfl (hb hby d1_2) rfl (Jvm.Free.XT.ii_lt_f q1) k) ?_
    refine own_st (T' := s₁) (g' := (mkF m 6 #[.val (.int u), .val (.int w)] [(.int u)])) (fun _ k => XS.iloadN X0.here hx rfl (hb hby d1_5) rfl k) ?_
    refine own_st (T' := s₁) (g' := (mkF m 10 #[.val (.int u), .val (.int w)] [(.int u)])) (fun _ k => XS.goto X0.here hx rfl (pc0 := 6) (pc' := 10) rfl (hb hby d1_6) (by decide) (by decide) k) ?_
    exact own_retI X0 hx Bd.returns Bd.notSynchronized e0 (hb hby d1_10) ⟨by simp [q1], N0, rfl⟩ (by decide) (by decide)
theorem d2_0 : decode prog_106_method_1_code 0 = .ok (.aload_n 0, 1) := by decide +kernel
theorem d2_1 : decode prog_106_method_1_code 1 = .ok (.invokespecial 1, 3) := by decide +kernel
theorem d2_4 : decode prog_106_method_1_code 4 = .ok (.iload_n 1, 1) := by decide +kernel
theorem d2_5 : decode prog_106_method_1_code 5 = .ok (.iconst 1, 1) := by decide +kernel
theorem d2_6 : decode prog_106_method_1_code 6 = .ok (.if_icmp .lt 8, 3) := by decide +kernel
theorem d2_9 : decode prog_106_method_1_code 9 = .ok (.iload_n 2, 1) := by decide +kernel
theorem d2_10 : decode prog_106_method_1_code 10 = .ok (.iload_n 1, 1) := by decide +kernel
theorem d2_11 : decode prog_106_method_1_code 11 = .ok (.if_icmp .ge 18, 3) := by decide +kernel
theorem d2_29 : decode prog_106_method_1_code 29 = .ok (.dload_n 3, 1) := by decide +kernel
theorem d2_30 : decode prog_106_method_1_code 30 = .ok (.dconst 0, 1) := by decide +kernel
theorem d2_31 : decode prog_106_method_1_code 31 = .ok (.dcmp .l, 1) := by decide +kernel
theorem d2_32 : decode prog_106_method_1_code 32 = .ok (.ifCond .le 9, 3) := by decide +kernel
theorem d2_35 : decode prog_106_method_1_code 35 = .ok (.dload_n 3, 1) := by decide +kernel
theorem d2_36 : decode prog_106_method_1_code 36 = .ok (.dconst 1, 1) := by decide +kernel
theorem d2_37 : decode prog_106_method_1_code 37 = .ok (.dcmp .g, 1) := by decide +kernel
theorem d2_38 : decode prog_106_method_1_code 38 = .ok (.ifCond .le 19, 3) := by decide +kernel
theorem d2_57 : decode prog_106_method_1_code 57 = .ok (.aload_n 0, 1) := by decide +kernel
theorem d2_58 : decode prog_106_method_1_code 58 = .ok (.iload_n 1, 1) := by decide +kernel
theorem d2_59 : decode prog_106_method_1_code 59 = .ok (.putfield 19, 3) := by decide +kernel
theorem d2_62 : decode prog_106_method_1_code 62 = .ok (.aload_n 0, 1) := by decide +kernel
theorem d2_63 : decode prog_106_method_1_code 63 = .ok (.iload_n 2, 1) := by decide +kernel
theorem d2_64 : decode prog_106_method_1_code 64 = .ok (.putfield 25, 3) := by decide +kernel
theorem d2_67 : decode prog_106_method_1_code 67 = .ok (.aload_n 0, 1) := by decide +kernel
theorem d2_68 : decode prog_106_method_1_code 68 = .ok (.dload_n 3, 1) := by decide +kernel
theorem d2_69 : decode prog_106_method_1_code 69 = .ok (.putfield 28, 3) := by decide +kernel
theorem d2_72 : decode prog_106_method_1_code 72 = .ok (.return_, 1) := by decide +kernel
theorem own_pn0 : plainName "com/example/apportion/apportion/workload/SizeClass" = true := by first | (simp [plainName, overriddenIn]; done) | decide +kernel
def own_ini_Q (Z : State) (a : Addr) (mn : Int32) (mx : Int32) (sv : UInt64) (h0 : Heap) (n0 : Nat) (v : Option Value) (h : Heap) (L : List Loc) : Prop := v = none ∧ Fr n0 L ∧ Keep h0 h [a] ∧ Exa Z h a "com/example/apportion/apportion/workload/SizeClass" ∧ Fld Z h a "com/example/apportion/apportion/workload/SizeClass" "minTasks" "I" (.int mn) ∧ Fld Z h a "com/example/apportion/apportion/workload/SizeClass" "maxTasks" "I" (.int mx)
set_option maxRecDepth 65536 in
set_option maxHeartbeats 40000000 in
theorem own_ini (l : Launch) (Z : State) (a0 : Array Value) (hw : ∀ d ∈ tables_1, d.before a0 Z = true) (ws : List Jvm.Cond) (a : Addr) (mn : Int32) (mx : Int32) (sv : UInt64) (h0 : Heap) (n0 : Nat) (Z0 : n0 ≤ h0.size) (F_minTasks : Fld Z h0 a "com/example/apportion/apportion/workload/SizeClass" "minTasks" "I" (.int (0 : Int32))) (F_maxTasks : Fld Z h0 a "com/example/apportion/apportion/workload/SizeClass" "maxTasks" "I" (.int (0 : Int32))) (F_share : Fld Z h0 a "com/example/apportion/apportion/workload/SizeClass" "share" "D" (.double (0 : UInt64))) (Ea : Exa Z h0 a "com/example/apportion/apportion/workload/SizeClass") (ga : n0 ≤ a) (h1 : ¬ mn < (1 : Int32)) (h2 : ¬ mx < mn) (c1 : (0 : Int32) < cmpValue (FP.dcmp sv FP.dconst0) .l) (c2 : ¬ (0 : Int32) < cmpValue (FP.dcmp sv FP.dconst1) .g) :
    MetFree l (⟨"com/example/apportion/apportion/workload/SizeClass", "<init>", "(IID)V"⟩ : MethodName) (head1 (Jvm.Cond.code (⟨"com/example/apportion/apportion/workload/SizeClass", "<init>", "(IID)V"⟩ : MethodName) prog_106_method_1_code 5 none :: ws) ({ frames := 1, cells := 0, slots := 0, locals := 12 } : Room)) (fun aa U0 => aa = #[(.ref a), (.int mn), (.int mx), (.double sv)] ∧ Z.Warmed39 U0.vm ∧ U0.heap = h0) (fun _ _ _ _ _ => True) (fun _ U0 o0 U1 => ∃ v0 L0, o0 = .returned v0 ∧ own_ini_Q Z a mn mx sv h0 n0 v0 U1.heap L0 ∧ FrameEnd U0 o0 U1 L0 ({ frames := 1, cells := 0, slots := 0, locals := 12 } : Room).cells ({ frames := 1, cells := 0, slots := 0, locals := 12 } : Room).slots) := by
  refine MetFree.of_bodySF (plainFor_of_name own_pn0) hisR ?_
  intro p e s m args below meth c s₁ Bd hml0 hP hK
  obtain ⟨rfl, hZ, hh⟩ := hP
  have hx := Bd.exec
  have hby := Bd.bytes
  have hml : c.maxLocals = 5 := hml0
  have hown : s.vm.findClass "com/example/apportion/apportion/workload/SizeClass" = some m.cls := findClass_of_methodNamed Bd.named
  have hnm := (name_of_methodNamed Bd.named Bd.method).1
  have X0 : Stand p l e ({ frames := 1, cells := 0, slots := 0, locals := 12 } : Room) s m #[(.ref a), (.int mn), (.int mx), (.double sv)] below meth c s₁ [] 0 0 := Stand.of_body Bd
  have e0 : s₁.heap = h0 := by rw [← hh, Bd.state]; rfl
  have N0 := Fr.nil n0
  show own_Go p e below s (own_ini_Q Z a mn mx sv h0 n0) 0 0 s₁ (entryFrame m #[(.ref a), (.int mn), (.int mx), (.double sv)] 5)
  rw [show entryFrame m #[(.ref a), (.int mn), (.int mx), (.double sv)] 5 = mkF m 0 #[.val (.ref a), .val (.int mn), .val (.int mx), .val (.double sv), .second] [] from by first | (simp [entryFrame, mkF, argsToLocals, Value.category]; done) | rfl]
  have Kp := Keep.refl h0 [a]
  refine own_st (T' := s₁) (g' := (mkF m 1 #[.val (.ref a), .val (.int mn), .val (.int mx), .val (.double sv), .second] [(.ref a)])) (fun _ k => XS.aloadN X0.here hx rfl (hb hby d2_0) rfl rfl k) ?_
  obtain ⟨T1, X1, e1, st1⟩ := initO X0 hx hZ hown (hw _ (List.mem_of_getElem? (i := 14) rfl)) (hw _ (List.mem_of_getElem? (i := 15) rfl)) (hw _ (List.mem_of_getElem? (i := 16) rfl)) e0 (g := (mkF m 1 #[.val (.ref a), .val (.int mn), .val (.int mx), .val (.double sv), .second] [(.ref a)])) rfl (by rw [hml]; rfl) rfl (hb hby d2_1) (by decide) (W := 0) (by show 2 * 0 + _ ≤ _; exact Nat.le_of_eq rfl) (by decide)
  refine own_st (T' := T1) (g' := (mkF m 4 #[.val (.ref a), .val (.int mn), .val (.int mx), .val (.double sv), .second] [])) st1 ?_
  refine own_st (T' := T1) (g' := (mkF m 5 #[.val (.ref a), .val (.int mn), .val (.int mx), .val (.double sv), .second] [(.int mn)])) (fun _ k => XS.iloadN X1.here hx rfl (hb hby d2_4) rfl k) ?_
  refine own_st (T' := T1) (g' := (mkF m 6 #[.val (.ref a), .val (.int mn), .val (.int mx), .val (.double sv), .second] [(.int (1 : Int32)), (.int mn)])) (fun _ k => XS.iconst X1.here hx rfl (hb hby d2_5) k) ?_
  refine own_st (T' := T1) (g' := (mkF m 9 #[.val (.ref a), .val (.int mn), .val (.int mx), .val (.double sv), .second] [])) (fun _ k => XS.icmpNo X1.here hx rfl (hb hby d2_6) rfl (Jvm.Free.XT.ii_lt_f h1) k) ?_
  refine own_st (T' := T1) (g' := (mkF m 10 #[.val (.ref a), .val (.int mn), .val (.int mx), .val (.double sv), .second] [(.int mx)])) (fun _ k => XS.iloadN X1.here hx rfl (hb hby d2_9) rfl k) ?_
  refine own_st (T' := T1) (g' := (mkF m 11 #[.val (.ref a), .val (.int mn), .val (.int mx), .val (.double sv), .second] [(.int mn), (.int mx)])) (fun _ k => XS.iloadN X1.here hx rfl (hb hby d2_10) rfl k) ?_
  refine own_st (T' := T1) (g' := (mkF m 29 #[.val (.ref a), .val (.int mn), .val (.int mx), .val (.double sv), .second] [])) (fun _ k => XS.icmpYes X1.here hx rfl (pc0 := 11) (pc' := 29) rfl (hb hby d2_11) rfl (Jvm.Free.XT.ii_ge_t h2) (by decide) (by decide) k) ?_
  refine own_st (T' := T1) (g' := (mkF m 30 #[.val (.ref a), .val (.int mn), .val (.int mx), .val (.double sv), .second] [(.double sv)])) (fun _ k => XS.dloadN X1.here hx rfl (hb hby d2_29) rfl k) ?_
  refine own_st (T' := T1) (g' := (mkF m 31 #[.val (.ref a), .val (.int mn), .val (.int mx), .val (.double sv), .second] [(.double FP.dconst0), (.double sv)])) (fun _ k => XS.dconst0 X1.here hx rfl (hb hby d2_30) (v := FP.dconst0) rfl k) ?_
  refine own_st (T' := T1) (g' := (mkF m 32 #[.val (.ref a), .val (.int mn), .val (.int mx), .val (.double sv), .second] [(.int (cmpValue (FP.dcmp sv FP.dconst0) .l))])) (fun _ k => XS.dcmpS X1.here hx rfl (hb hby d2_31) rfl (v := (cmpValue (FP.dcmp sv FP.dconst0) .l)) rfl k) ?_
  refine own_st (T' := T1) (g' := (mkF m 35 #[.val (.ref a), .val (.int mn), .val (.int mx), .val (.double sv), .second] [])) (fun _ k => XS.ifNo X1.here hx rfl (hb hby d2_32) rfl (Jvm.Free.XT.i0_le_f c1) k) ?_
  refine own_st (T' := T1) (g' := (mkF m 36 #[.val (.ref a), .val (.int mn), .val (.int mx), .val (.double sv), .second] [(.double sv)])) (fun _ k => XS.dloadN X1.here hx rfl (hb hby d2_35) rfl k) ?_
  refine own_st (T' := T1) (g' := (mkF m 37 #[.val (.ref a), .val (.int mn), .val (.int mx), .val (.double sv), .second] [(.double FP.dconst1), (.double sv)])) (fun _ k => XS.dconst1 X1.here hx rfl (hb hby d2_36) (v := FP.dconst1) rfl k) ?_
  refine own_st (T' := T1) (g' := (mkF m 38 #[.val (.ref a), .val (.int mn), .val (.int mx), .val (.double sv), .second] [(.int (cmpValue (FP.dcmp sv FP.dconst1) .g))])) (fun _ k => XS.dcmpS X1.here hx rfl (hb hby d2_37) rfl (v := (cmpValue (FP.dcmp sv FP.dconst1) .g)) rfl k) ?_
  refine own_st (T' := T1) (g' := (mkF m 57 #[.val (.ref a), .val (.int mn), .val (.int mx), .val (.double sv), .second] [])) (fun _ k => XS.ifYes X1.here hx rfl (pc0 := 38) (pc' := 57) rfl (hb hby d2_38) rfl (Jvm.Free.XT.i0_le_t c2) (by decide) (by decide) k) ?_
  refine own_st (T' := T1) (g' := (mkF m 58 #[.val (.ref a), .val (.int mn), .val (.int mx), .val (.double sv), .second] [(.ref a)])) (fun _ k => XS.aloadN X1.here hx rfl (hb hby d2_57) rfl rfl k) ?_
  refine own_st (T' := T1) (g' := (mkF m 59 #[.val (.ref a), .val (.int mn), .val (.int mx), .val (.double sv), .second] [(.int mn), (.ref a)])) (fun _ k => XS.iloadN X1.here hx rfl (hb hby d2_58) rfl k) ?_
  obtain ⟨T2, h2, X2, e2, W2, st2⟩ := putF X1 hx hZ hown (host := "") (Or.inl (hw _ (List.mem_of_getElem? (i := 17) rfl))) Via.refl e1 F_minTasks Ea (Or.inr ⟨(hw _ (List.mem_of_getElem? (i := 18) rfl)), rfl, hnm⟩) (hw _ (List.mem_of_getElem? (i := 9) rfl)) (ty := .int) (by decide) rfl rfl (g := (mkF m 59 #[.val (.ref a), .val (.int mn), .val (.int mx), .val (.double sv), .second] [(.int mn), (.ref a)])) rfl rfl (hb hby d2_59)
  have F_maxTasks := F_maxTasks.other W2 (Or.inr (slot_ne (Or.inr (hw _ (List.mem_of_getElem? (i := 20) rfl))) (Or.inr (hw _ (List.mem_of_getElem? (i := 18) rfl))) (by decide) (t := .int) (t' := .int) (by decide) (by decide)))
  have F_share := F_share.other W2 (Or.inr (slot_ne (Or.inr (hw _ (List.mem_of_getElem? (i := 22) rfl))) (Or.inr (hw _ (List.mem_of_getElem? (i := 18) rfl))) (by decide) (t := .double) (t' := .int) (by decide) (by decide)))
  have Ea := Ea.wr W2
  have Z0' := Nat.le_trans Z0 (Keep.of_wr W2).1
  have Kp := Kp.wr W2 (Or.inl (List.mem_of_getElem? (i := 0) rfl))
  have N0' := Fr.snoc X2 N0 ga
  have F_minTasks := F_minTasks.same W2
  refine own_st (T' := T2) (g' := (mkF m 62 #[.val (.ref a), .val (.int mn), .val (.int mx), .val (.double sv), .second] [])) st2 ?_
  refine own_st (T' := T2) (g' := (mkF m 63 #[.val (.ref a), .val (.int mn), .val (.int mx), .val (.double sv), .second] [(.ref a)])) (fun _ k => XS.aloadN X2.here hx rfl (hb hby d2_62) rfl rfl k) ?_
  refine own_st (T' := T2) (g' := (mkF m 64 #[.val (.ref a), .val (.int mn), .val (.int mx), .val (.double sv), .second] [(.int mx), (.ref a)])) (fun _ k => XS.iloadN X2.here hx rfl (hb hby d2_63) rfl k) ?_
  obtain ⟨T3, h3, X3, e3, W3, st3⟩ := putF X2 hx hZ hown (host := "") (Or.inl (hw _ (List.mem_of_getElem? (i := 19) rfl))) Via.refl e2 F_maxTasks Ea (Or.inr ⟨(hw _ (List.mem_of_getElem? (i := 20) rfl)), rfl, hnm⟩) (hw _ (List.mem_of_getElem? (i := 9) rfl)) (ty := .int) (by decide) rfl rfl (g := (mkF m 64 #[.val (.ref a), .val (.int mn), .val (.int mx), .val (.double sv), .second] [(.int mx), (.ref a)])) rfl rfl (hb hby d2_64)
  have F_minTasks := F_minTasks.other W3 (Or.inr (slot_ne (Or.inr (hw _ (List.mem_of_getElem? (i := 18) rfl))) (Or.inr (hw _ (List.mem_of_getElem? (i := 20) rfl))) (by decide) (t := .int) (t' := .int) (by decide) (by decide)))
  have F_share := F_share.other W3 (Or.inr (slot_ne (Or.inr (hw _ (List.mem_of_getElem? (i := 22) rfl))) (Or.inr (hw _ (List.mem_of_getElem? (i := 20) rfl))) (by decide) (t := .double) (t' := .int) (by decide) (by decide)))
  have Ea := Ea.wr W3
  have Z0'' := Nat.le_trans Z0' (Keep.of_wr W3).1
  have Kp := Kp.wr W3 (Or.inl (List.mem_of_getElem? (i := 0) rfl))
  have N0'' := Fr.snoc X3 N0' ga
  have F_maxTasks := F_maxTasks.same W3
  refine own_st (T' := T3) (g' := (mkF m 67 #[.val (.ref a), .val (.int mn), .val (.int mx), .val (.double sv), .second] [])) st3 ?_
  refine own_st (T' := T3) (g' := (mkF m 68 #[.val (.ref a), .val (.int mn), .val (.int mx), .val (.double sv), .second] [(.ref a)])) (fun _ k => XS.aloadN X3.here hx rfl (hb hby d2_67) rfl rfl k) ?_
  refine own_st (T' := T3) (g' := (mkF m 69 #[.val (.ref a), .val (.int mn), .val (.int mx), .val (.double sv), .second] [(.double sv), (.ref a)])) (fun _ k => XS.dloadN X3.here hx rfl (hb hby d2_68) rfl k) ?_
  obtain ⟨T4, h4, X4, e4, W4, st4⟩ := putF X3 hx hZ hown (host := "") (Or.inl (hw _ (List.mem_of_getElem? (i := 21) rfl))) Via.refl e3 F_share Ea (Or.inr ⟨(hw _ (List.mem_of_getElem? (i := 22) rfl)), rfl, hnm⟩) (hw _ (List.mem_of_getElem? (i := 9) rfl)) (ty := .double) (by decide) rfl rfl (g := (mkF m 69 #[.val (.ref a), .val (.int mn), .val (.int mx), .val (.double sv), .second] [(.double sv), (.ref a)])) rfl rfl (hb hby d2_69)
  have F_minTasks := F_minTasks.other W4 (Or.inr (slot_ne (Or.inr (hw _ (List.mem_of_getElem? (i := 18) rfl))) (Or.inr (hw _ (List.mem_of_getElem? (i := 22) rfl))) (by decide) (t := .int) (t' := .double) (by decide) (by decide)))
  have F_maxTasks := F_maxTasks.other W4 (Or.inr (slot_ne (Or.inr (hw _ (List.mem_of_getElem? (i := 20) rfl))) (Or.inr (hw _ (List.mem_of_getElem? (i := 22) rfl))) (by decide) (t := .int) (t' := .double) (by decide) (by decide)))
  have Ea := Ea.wr W4
  have Z0''' := Nat.le_trans Z0'' (Keep.of_wr W4).1
  have Kp := Kp.wr W4 (Or.inl (List.mem_of_getElem? (i := 0) rfl))
  have N0''' := Fr.snoc X4 N0'' ga
  have F_share := F_share.same W4
  refine own_st (T' := T4) (g' := (mkF m 72 #[.val (.ref a), .val (.int mn), .val (.int mx), .val (.double sv), .second] [])) st4 ?_
  exact own_ret0 X4 hx Bd.returns Bd.notSynchronized e4 (hb hby d2_72) ⟨rfl, N0''', Kp, Ea, F_minTasks, F_maxTasks⟩ (by decide) (by decide)
theorem d4_0 : decode prog_106_method_6_code 0 = .ok (.iload_n 1, 1) := by decide +kernel
theorem d4_1 : decode prog_106_method_6_code 1 = .ok (.aload_n 0, 1) := by decide +kernel
theorem d4_2 : decode prog_106_method_6_code 2 = .ok (.getfield 19, 3) := by decide +kernel
theorem d4_5 : decode prog_106_method_6_code 5 = .ok (.if_icmp .lt 15, 3) := by decide +kernel
theorem d4_8 : decode prog_106_method_6_code 8 = .ok (.iload_n 1, 1) := by decide +kernel
theorem d4_9 : decode prog_106_method_6_code 9 = .ok (.aload_n 0, 1) := by decide +kernel
theorem d4_10 : decode prog_106_method_6_code 10 = .ok (.getfield 25, 3) := by decide +kernel
theorem d4_13 : decode prog_106_method_6_code 13 = .ok (.if_icmp .gt 7, 3) := by decide +kernel
theorem d4_16 : decode prog_106_method_6_code 16 = .ok (.iconst 1, 1) := by decide +kernel
theorem d4_17 : decode prog_106_method_6_code 17 = .ok (.goto 4, 3) := by decide +kernel
theorem d4_20 : decode prog_106_method_6_code 20 = .ok (.iconst 0, 1) := by decide +kernel
theorem d4_21 : decode prog_106_method_6_code 21 = .ok (.ireturn, 1) := by decide +kernel
def own_con_Q (Z : State) (a : Addr) (ct : Int32) (mn : Int32) (mx : Int32) (h0 : Heap) (n0 : Nat) (v : Option Value) (h : Heap) (L : List Loc) : Prop := v = some (.int (own_in ct mn mx)) ∧ Fr n0 L ∧ h = h0
set_option maxRecDepth 65536 in
set_option maxHeartbeats 40000000 in
theorem own_con (l : Launch) (Z : State) (a0 : Array Value) (hw : ∀ d ∈ tables_1, d.before a0 Z = true) (ws : List Jvm.Cond) (a : Addr) (ct : Int32) (mn : Int32) (mx : Int32) (h0 : Heap) (n0 : Nat) (Z0 : n0 ≤ h0.size) (F1 : Fld Z h0 a "com/example/apportion/apportion/workload/SizeClass" "minTasks" "I" (.int mn)) (F2 : Fld Z h0 a "com/example/apportion/apportion/workload/SizeClass" "maxTasks" "I" (.int mx)) :
    MetFree l (⟨"com/example/apportion/apportion/workload/SizeClass", "contains", "(I)Z"⟩ : MethodName) (head1 (Jvm.Cond.code (⟨"com/example/apportion/apportion/workload/SizeClass", "contains", "(I)Z"⟩ : MethodName) prog_106_method_6_code 2 (some .boolean) :: ws) ({ frames := 0, cells := 0, slots := 0, locals := 0 } : Room)) (fun aa U0 => aa = #[(.ref a), (.int ct)] ∧ Z.Warmed39 U0.vm ∧ U0.heap = h0) (fun _ _ _ _ _ => True) (fun _ U0 o0 U1 => ∃ v0 L0, o0 = .returned v0 ∧ own_con_Q Z a ct mn mx h0 n0 v0 U1.heap L0 ∧ FrameEnd U0 o0 U1 L0 ({ frames := 0, cells := 0, slots := 0, locals := 0 } : Room).cells ({ frames := 0, cells := 0, slots := 0, locals := 0 } : Room).slots) := by
  refine MetFree.of_bodySF (plainFor_of_name own_pn0) hisR ?_
  intro p e s m args below meth c s₁ Bd hml0 hP hK
  obtain ⟨rfl, hZ, hh⟩ := hP
  have hx := Bd.exec
  have hby := Bd.bytes
  have hml : c.maxLocals = 2 := hml0
  have hown : s.vm.findClass "com/example/apportion/apportion/workload/SizeClass" = some m.cls := findClass_of_methodNamed Bd.named
  have hnm := (name_of_methodNamed Bd.named Bd.method).1
  have X0 : Stand p l e ({ frames := 0, cells := 0, slots := 0, locals := 0 } : Room) s m #[(.ref a), (.int ct)] below meth c s₁ [] 0 0 := Stand.of_body Bd
  have e0 : s₁.heap = h0 := by rw [← hh, Bd.state]; rfl
  have N0 := Fr.nil n0
  show own_Go p e below s (own_con_Q Z a ct mn mx h0 n0) 0 0 s₁ (entryFrame m #[(.ref a), (.int ct)] 2)
  rw [show entryFrame m #[(.ref a), (.int ct)] 2 = mkF m 0 #[.val (.ref a), .val (.int ct)] [] from by first | (simp [entryFrame, mkF, argsToLocals, Value.category]; done) | rfl]
  refine own_st (T' := s₁) (g' := (mkF m 1 #[.val (.ref a), .val (.int ct)] [(.int ct)])) (fun _ k => XS.iloadN X0.here hx rfl (hb hby d4_0) rfl k) ?_
  refine own_st (T' := s₁) (g' := (mkF m 2 #[.val (.ref a), .val (.int ct)] [(.ref a), (.int ct)])) (fun _ k => XS.aloadN X0.here hx rfl (hb hby d4_1) rfl rfl k) ?_
  obtain ⟨T5, X5, e5, st5⟩ := getF X0 hx hZ hown (host := "") (Or.inl (hw _ (List.mem_of_getElem? (i := 17) rfl))) Via.refl e0 F1 (g := (mkF m 2 #[.val (.ref a), .val (.int ct)] [(.ref a), (.int ct)])) rfl rfl (hb hby d4_2)
  refine own_st (T' := T5) (g' := (mkF m 5 #[.val (.ref a), .val (.int ct)] [(.int mn), (.int ct)])) st5 ?_
  by_cases q1 : ct < mn
  · refine own_st (T' := T5) (g' := (mkF m 20 #[.val (.ref a), .val (.int ct)] [])) (fun _ k => XS.icmpYes X5.here hx rfl (pc0 := 5) (pc' := 20) rfl (hb hby d4_5) rfl (Jvm.Free.XT.ii_lt_t q1) (by decide) (by decide) k) ?_
    refine own_st (T' := T5) (g' := (mkF m 21 #[.val (.ref a), .val (.int ct)] [(.int (0 : Int32))])) (fun _ k => XS.iconst X5.here hx rfl (hb hby d4_20) k) ?_
    exact own_retN X5 hx Bd.returns Bd.notSynchronized e5 (by simp) (hb hby d4_21) ⟨by simp [own_in, q1, nar], N0, rfl⟩ (by decide) (by decide)
  · refine own_st (T' := T5) (g' := (mkF m 8 #[.val (.ref a), .val (.int ct)] [])) (fun _ k => XS.icmpNo X5.here hx rfl (hb hby d4_5) rfl (Jvm.Free.XT.ii_lt_f q1) k) ?_
    refine own_st (T' := T5) (g' := (mkF m 9 #[.val (.ref a), .val (.int ct)] [(.int ct)])) (fun _ k => XS.iloadN X5.here hx rfl (hb hby d4_8) rfl k) ?_
    refine own_st (T' := T5) (g' := (mkF m 10 #[.val (.ref a), .val (.int ct)] [(.ref a), (.int ct)])) (fun _ k => XS.aloadN X5.here hx rfl (hb hby d4_9) rfl rfl k) ?_
    obtain ⟨T6, X6, e6, st6⟩ := getF X5 hx hZ hown (host := "") (Or.inl (hw _ (List.mem_of_getElem? (i := 19) rfl))) Via.refl e5 F2 (g := (mkF m 10 #[.val (.ref a), .val (.int ct)] [(.ref a), (.int ct)])) rfl rfl (hb hby d4_10)
    refine own_st (T' := T6) (g' := (mkF m 13 #[.val (.ref a), .val (.int ct)] [(.int mx), (.int ct)])) st6 ?_
    by_cases q2 : mx < ct
    · refine own_st (T' := T6) (g' := (mkF m 20 #[.val (.ref a), .val (.int ct)] [])) (fun _ k => XS.icmpYes X6.here hx rfl (pc0 := 13) (pc' := 20) rfl (hb hby d4_13) rfl (Jvm.Free.XT.ii_gt_t q2) (by decide) (by decide) k) ?_
      refine own_st (T' := T6) (g' := (mkF m 21 #[.val (.ref a), .val (.int ct)] [(.int (0 : Int32))])) (fun _ k => XS.iconst X6.here hx rfl (hb hby d4_20) k) ?_
      exact own_retN X6 hx Bd.returns Bd.notSynchronized e6 (by simp) (hb hby d4_21) ⟨by simp [own_in, q1, q2, nar], N0, rfl⟩ (by decide) (by decide)
    · refine own_st (T' := T6) (g' := (mkF m 16 #[.val (.ref a), .val (.int ct)] [])) (fun _ k => XS.icmpNo X6.here hx rfl (hb hby d4_13) rfl (Jvm.Free.XT.ii_gt_f q2) k) ?_
      refine own_st (T' := T6) (g' := (mkF m 17 #[.val (.ref a), .val (.int ct)] [(.int (1 : Int32))])) (fun _ k => XS.iconst X6.here hx rfl (hb hby d4_16) k) ?_
      refine own_st (T' := T6) (g' := (mkF m 21 #[.val (.ref a), .val (.int ct)] [(.int (1 : Int32))])) (fun _ k => XS.goto X6.here hx rfl (pc0 := 17) (pc' := 21) rfl (hb hby d4_17) (by decide) (by decide) k) ?_
      exact own_retN X6 hx Bd.returns Bd.notSynchronized e6 (by simp) (hb hby d4_21) ⟨by simp [own_in, q1, q2, nar], N0, rfl⟩ (by decide) (by decide)
theorem own_pd0 : parseMethodDescriptor "(II)I" = some ⟨[.int, .int], some .int⟩ := by decide +kernel
theorem own_pd1 : parseMethodDescriptor "(IID)V" = some ⟨[.int, .int, .double], none⟩ := by decide +kernel
theorem own_pd2 : parseMethodDescriptor "(I)Z" = some ⟨[.int], some .boolean⟩ := by decide +kernel
theorem own_pn1 : plainName "com/example/apportion/apportion/workload/SizeClassContainsPinLaw" = true := by first | (simp [plainName, overriddenIn]; done) | decide +kernel
def own_law_Q (Z : State) (p0 : Int32) (p1 : Int32) (p2 : Int32) (p3 : Int32) (p4 : Int32) (p5 : Int32) (h0 : Heap) (n0 : Nat) (v : Option Value) (h : Heap) (L : List Loc) : Prop := v = some (.int 1) ∧ Fr n0 L
set_option maxRecDepth 65536 in
set_option maxHeartbeats 40000000 in
theorem own_law (l : Launch) (Z : State) (a0 : Array Value) (hw : ∀ d ∈ tables_1, d.before a0 Z = true) (ws : List Jvm.Cond) (p0 : Int32) (p1 : Int32) (p2 : Int32) (p3 : Int32) (p4 : Int32) (p5 : Int32) (h0 : Heap) (n0 : Nat) (Z0 : n0 ≤ h0.size) :
    MetFree l x (head1 (Jvm.Cond.code x code maxLocals ret :: ws) room_1) (fun aa U0 => aa = #[(.int p0), (.int p1), (.int p2), (.int p3), (.int p4), (.int p5)] ∧ Z.Warmed39 U0.vm ∧ U0.heap = h0) (fun _ _ _ _ _ => True) (fun _ U0 o0 U1 => ∃ v0 L0, o0 = .returned v0 ∧ own_law_Q Z p0 p1 p2 p3 p4 p5 h0 n0 v0 U1.heap L0 ∧ FrameEnd U0 o0 U1 L0 16 128) := by
  refine MetFree.of_bodySF (plainFor_of_name own_pn1) hisR ?_
  intro p e s m args below meth c s₁ Bd hml0 hP hK
  obtain ⟨rfl, hZ, hh⟩ := hP
  have hx := Bd.exec
  have hby := Bd.bytes
  have hml : c.maxLocals = 18 := hml0
  have hown : s.vm.findClass "com/example/apportion/apportion/workload/SizeClassContainsPinLaw" = some m.cls := findClass_of_methodNamed Bd.named
  have hnm := (name_of_methodNamed Bd.named Bd.method).1
  have X0 : Stand p l e room_1 s m #[(.int p0), (.int p1), (.int p2), (.int p3), (.int p4), (.int p5)] below meth c s₁ [] 0 0 := Stand.of_body Bd
  have e0 : s₁.heap = h0 := by rw [← hh, Bd.state]; rfl
  have N0 := Fr.nil n0
  show own_Go p e below s (own_law_Q Z p0 p1 p2 p3 p4 p5 h0 n0) 16 128 s₁ (entryFrame m #[(.int p0), (.int p1), (.int p2), (.int p3), (.int p4), (.int p5)] maxLocals)
  rw [show entryFrame m #[(.int p0), (.int p1), (.int p2), (.int p3), (.int p4), (.int p5)] maxLocals = mkF m 0 #[.val (.int p0), .val (.int p1), .val (.int p2), .val (.int p3), .val (.int p4), .val (.int p5), .unset, .unset, .unset, .unset, .unset, .unset, .unset, .unset, .unset, .unset, .unset, .unset] [] from by first | (simp [entryFrame, mkF, argsToLocals, Value.category, maxLocals]; done) | rfl]
  refine own_st (T' := s₁) (g' := (mkF m 1 #[.val (.int p0), .val (.int p1), .val (.int p2), .val (.int p3), .val (.int p4), .val (.int p5), .unset, .unset, .unset, .unset, .unset, .unset, .unset, .unset, .unset, .unset, .unset, .unset] [(.int (1 : Int32))])) (fun _ k => XS.iconst X0.here hx rfl (hb hby at_0) k) ?_
  refine own_st (T' := s₁) (g' := (mkF m 2 #[.val (.int p0), .val (.int p1), .val (.int p2), .val (.int p3), .val (.int p4), .val (.int p5), .unset, .unset, .unset, .unset, .unset, .unset, .unset, .unset, .unset, .unset, .unset, .unset] [(.int p0), (.int (1 : Int32))])) (fun _ k => XS.iloadN X0.here hx rfl (hb hby at_1) rfl k) ?_
  refine own_st (T' := s₁) (g' := (mkF m 4 #[.val (.int p0), .val (.int p1), .val (.int p2), .val (.int p3), .val (.int p4), .val (.int p5), .unset, .unset, .unset, .unset, .unset, .unset, .unset, .unset, .unset, .unset, .unset, .unset] [(.int (2147483647 : Int32)), (.int p0), (.int (1 : Int32))])) (X0.ldcInt hx hown (mvT hZ (hw _ (List.mem_of_getElem? (i := 0) rfl))) (g := (mkF m 2 #[.val (.int p0), .val (.int p1), .val (.int p2), .val (.int p3), .val (.int p4), .val (.int p5), .unset, .unset, .unset, .unset, .unset, .unset, .unset, .unset, .unset, .unset, .unset, .unset] [(.int p0), (.int (1 : Int32))])) rfl (hb hby at_2)) ?_
  refine own_st (T' := s₁) (g' := (mkF m 5 #[.val (.int p0), .val (.int p1), .val (.int p2), .val (.int p3), .val (.int p4), .val (.int p5), .unset, .unset, .unset, .unset, .unset, .unset, .unset, .unset, .unset, .unset, .unset, .unset] [(.int (p0 &&& (2147483647 : Int32))), (.int (1 : Int32))])) (fun _ k => XS.iand X0.here hx rfl (hb hby at_4) rfl k) ?_
  obtain ⟨_, _, ⟨T7, L7, k7, n7⟩, -, X7, ⟨Lc7, hQ7, l7, y7, z7⟩, st7⟩ := Jvm.LawKit.callS X0 hx (y := (⟨"java/lang/Math", "max", "(II)I"⟩ : MethodName)) hown (mvT hZ (hw _ (List.mem_of_getElem? (i := 1) rfl))) (mvT hZ (hw _ (List.mem_of_getElem? (i := 2) rfl))) (mvT hZ (hw _ (List.mem_of_getElem? (i := 3) rfl))) (mvT hZ (hw _ (List.mem_of_getElem? (i := 4) rfl))) (by decide) (backOf (W := 0) (own_max l Z a0 hw [] (1 : Int32) (p0 &&& (2147483647 : Int32)) h0 n0 Z0 ) hZ (hw _ (List.mem_of_getElem? (i := 4) rfl)) (hw _ (List.mem_of_getElem? (i := 3) rfl)) (by decide) (by decide)) (g := (mkF m 5 #[.val (.int p0), .val (.int p1), .val (.int p2), .val (.int p3), .val (.int p4), .val (.int p5), .unset, .unset, .unset, .unset, .unset, .unset, .unset, .unset, .unset, .unset, .unset, .unset] [(.int (p0 &&& (2147483647 : Int32))), (.int (1 : Int32))])) rfl (by rw [hml]; rfl) (argsL := [(.int (1 : Int32)), (.int (p0 &&& (2147483647 : Int32)))]) (rest := []) (lenOf own_pd0 rfl) rfl (by show 2 * 0 + _ ≤ _; exact Nat.le_of_eq rfl) (hb hby at_5) (fun _ _ => ⟨rfl, e0, (by decide : 0 + 0 ≤ _), (by decide : 0 + 0 ≤ _)⟩)
  dsimp only [Pt.U, Pt.locs, Pt.cells, Pt.slots] at X7 l7 y7 z7 st7 hQ7
  subst l7 y7 z7
  obtain ⟨rfl, N7q, e7⟩ := hQ7
  have N0' := Fr.app N0 N7q
  refine own_st (T' := T7) (g' := (mkF m 8 #[.val (.int p0), .val (.int p1), .val (.int p2), .val (.int p3), .val (.int p4), .val (.int p5), .unset, .unset, .unset, .unset, .unset, .unset, .unset, .unset, .unset, .unset, .unset, .unset] [(.int (if (1 : Int32) < (p0 &&& (2147483647 : Int32)) then (p0 &&& (2147483647 : Int32)) else (1 : Int32)))])) st7 ?_
  obtain ⟨mn, hmn⟩ : ∃ mn : Int32, mn = (if (1 : Int32) < (p0 &&& (2147483647 : Int32)) then (p0 &&& (2147483647 : Int32)) else (1 : Int32)) := ⟨_, rfl⟩
  rw [← hmn]
  have hm1 : 1 ≤ mn.toInt := by
    rw [hmn]; split
    · rename_i q; rw [Int32.lt_iff_toInt_lt] at q; have : (1 : Int32).toInt = 1 := rfl; omega
    · decide
  clear hmn
  obtain ⟨y, hy, hy1, hy2, hmx⟩ := own_mx mn p1 hm1
  refine own_st (T' := T7) (g' := (mkF m 10 #[.val (.int p0), .val (.int p1), .val (.int p2), .val (.int p3), .val (.int p4), .val (.int p5), .val (.int mn), .unset, .unset, .unset, .unset, .unset, .unset, .unset, .unset, .unset, .unset, .unset] [])) (fun _ k => XS.istore X7.here hx rfl (hb hby at_8) rfl (l' := #[.val (.int p0), .val (.int p1), .val (.int p2), .val (.int p3), .val (.int p4), .val (.int p5), .val (.int mn), .unset, .unset, .unset, .unset, .unset, .unset, .unset, .unset, .unset, .unset, .unset]) rfl k) ?_
  refine own_st (T' := T7) (g' := (mkF m 13 #[.val (.int p0), .val (.int p1), .val (.int p2), .val (.int p3), .val (.int p4), .val (.int p5), .val (.int mn), .unset, .unset, .unset, .unset, .unset, .unset, .unset, .unset, .unset, .unset, .unset] [(.long (2147483647 : Int64))])) (X7.ldc2Long hx hown (mvT hZ (hw _ (List.mem_of_getElem? (i := 5) rfl))) (g := (mkF m 10 #[.val (.int p0), .val (.int p1), .val (.int p2), .val (.int p3), .val (.int p4), .val (.int p5), .val (.int mn), .unset, .unset, .unset, .unset, .unset, .unset, .unset, .unset, .unset, .unset, .unset] [])) rfl (hb hby at_10)) ?_
  refine own_st (T' := T7) (g' := (mkF m 15 #[.val (.int p0), .val (.int p1), .val (.int p2), .val (.int p3), .val (.int p4), .val (.int p5), .val (.int mn), .unset, .unset, .unset, .unset, .unset, .unset, .unset, .unset, .unset, .unset, .unset] [(.int mn), (.long (2147483647 : Int64))])) (fun _ k => XS.iload X7.here hx rfl (hb hby at_13) rfl k) ?_
  refine own_st (T' := T7) (g' := (mkF m 16 #[.val (.int p0), .val (.int p1), .val (.int p2), .val (.int p3), .val (.int p4), .val (.int p5), .val (.int mn), .unset, .unset, .unset, .unset, .unset, .unset, .unset, .unset, .unset, .unset, .unset] [(.long (mn.toInt64)), (.long (2147483647 : Int64))])) (fun _ k => XS.i2l X7.here hx rfl (hb hby at_15) rfl k) ?_
  refine own_st (T' := T7) (g' := (mkF m 17 #[.val (.int p0), .val (.int p1), .val (.int p2), .val (.int p3), .val (.int p4), .val (.int p5), .val (.int mn), .unset, .unset, .unset, .unset, .unset, .unset, .unset, .unset, .unset, .unset, .unset] [(.long ((2147483647 : Int64) - (mn.toInt64)))])) (fun _ k => XS.lsub X7.here hx rfl (hb hby at_16) rfl k) ?_
  refine own_st (T' := T7) (g' := (mkF m 19 #[.val (.int p0), .val (.int p1), .val (.int p2), .val (.int p3), .val (.int p4), .val (.int p5), .val (.int mn), .val (.long ((2147483647 : Int64) - (mn.toInt64))), .second, .unset, .unset, .unset, .unset, .unset, .unset, .unset, .unset, .unset] [])) (fun _ k => XS.lstore X7.here hx rfl (hb hby at_17) rfl (l' := #[.val (.int p0), .val (.int p1), .val (.int p2), .val (.int p3), .val (.int p4), .val (.int p5), .val (.int mn), .val (.long ((2147483647 : Int64) - (mn.toInt64))), .second, .unset, .unset, .unset, .unset, .unset, .unset, .unset, .unset, .unset]) rfl k) ?_
  refine own_st (T' := T7) (g' := (mkF m 21 #[.val (.int p0), .val (.int p1), .val (.int p2), .val (.int p3), .val (.int p4), .val (.int p5), .val (.int mn), .val (.long ((2147483647 : Int64) - (mn.toInt64))), .second, .unset, .unset, .unset, .unset, .unset, .unset, .unset, .unset, .unset] [(.int mn)])) (fun _ k => XS.iload X7.here hx rfl (hb hby at_19) rfl k) ?_
  refine own_st (T' := T7) (g' := (mkF m 22 #[.val (.int p0), .val (.int p1), .val (.int p2), .val (.int p3), .val (.int p4), .val (.int p5), .val (.int mn), .val (.long ((2147483647 : Int64) - (mn.toInt64))), .second, .unset, .unset, .unset, .unset, .unset, .unset, .unset, .unset, .unset] [(.int p1), (.int mn)])) (fun _ k => XS.iloadN X7.here hx rfl (hb hby at_21) rfl k) ?_
  refine own_st (T' := T7) (g' := (mkF m 23 #[.val (.int p0), .val (.int p1), .val (.int p2), .val (.int p3), .val (.int p4), .val (.int p5), .val (.int mn), .val (.long ((2147483647 : Int64) - (mn.toInt64))), .second, .unset, .unset, .unset, .unset, .unset, .unset, .unset, .unset, .unset] [(.long (p1.toInt64)), (.int mn)])) (fun _ k => XS.i2l X7.here hx rfl (hb hby at_22) rfl k) ?_
  refine own_st (T' := T7) (g' := (mkF m 26 #[.val (.int p0), .val (.int p1), .val (.int p2), .val (.int p3), .val (.int p4), .val (.int p5), .val (.int mn), .val (.long ((2147483647 : Int64) - (mn.toInt64))), .second, .unset, .unset, .unset, .unset, .unset, .unset, .unset, .unset, .unset] [(.long (4294967295 : Int64)), (.long (p1.toInt64)), (.int mn)])) (X7.ldc2Long hx hown (mvT hZ (hw _ (List.mem_of_getElem? (i := 6) rfl))) (g := (mkF m 23 #[.val (.int p0), .val (.int p1), .val (.int p2), .val (.int p3), .val (.int p4), .val (.int p5), .val (.int mn), .val (.long ((2147483647 : Int64) - (mn.toInt64))), .second, .unset, .unset, .unset, .unset, .unset, .unset, .unset, .unset, .unset] [(.long (p1.toInt64)), (.int mn)])) rfl (hb hby at_23)) ?_
  refine own_st (T' := T7) (g' := (mkF m 27 #[.val (.int p0), .val (.int p1), .val (.int p2), .val (.int p3), .val (.int p4), .val (.int p5), .val (.int mn), .val (.long ((2147483647 : Int64) - (mn.toInt64))), .second, .unset, .unset, .unset, .unset, .unset, .unset, .unset, .unset, .unset] [(.long ((p1.toInt64) &&& (4294967295 : Int64))), (.int mn)])) (fun _ k => XS.land X7.here hx rfl (hb hby at_26) rfl k) ?_
  refine own_st (T' := T7) (g' := (mkF m 29 #[.val (.int p0), .val (.int p1), .val (.int p2), .val (.int p3), .val (.int p4), .val (.int p5), .val (.int mn), .val (.long ((2147483647 : Int64) - (mn.toInt64))), .second, .unset, .unset, .unset, .unset, .unset, .unset, .unset, .unset, .unset] [(.long ((2147483647 : Int64) - (mn.toInt64))), (.long ((p1.toInt64) &&& (4294967295 : Int64))), (.int mn)])) (fun _ k => XS.lload X7.here hx rfl (hb hby at_27) rfl k) ?_
  refine own_st (T' := T7) (g' := (mkF m 30 #[.val (.int p0), .val (.int p1), .val (.int p2), .val (.int p3), .val (.int p4), .val (.int p5), .val (.int mn), .val (.long ((2147483647 : Int64) - (mn.toInt64))), .second, .unset, .unset, .unset, .unset, .unset, .unset, .unset, .unset, .unset] [(.long (1 : Int64)), (.long ((2147483647 : Int64) - (mn.toInt64))), (.long ((p1.toInt64) &&& (4294967295 : Int64))), (.int mn)])) (fun _ k => XS.lconst X7.here hx rfl (hb hby at_29) k) ?_
  refine own_st (T' := T7) (g' := (mkF m 31 #[.val (.int p0), .val (.int p1), .val (.int p2), .val (.int p3), .val (.int p4), .val (.int p5), .val (.int mn), .val (.long ((2147483647 : Int64) - (mn.toInt64))), .second, .unset, .unset, .unset, .unset, .unset, .unset, .unset, .unset, .unset] [(.long (((2147483647 : Int64) - (mn.toInt64)) + (1 : Int64))), (.long ((p1.toInt64) &&& (4294967295 : Int64))), (.int mn)])) (fun _ k => XS.ladd X7.here hx rfl (hb hby at_30) rfl k) ?_
  rw [show (((2147483647 : Int64) - (mn.toInt64)) + (1 : Int64)) = y from hy.symm]
  refine own_st (T' := T7) (g' := (mkF m 32 #[.val (.int p0), .val (.int p1), .val (.int p2), .val (.int p3), .val (.int p4), .val (.int p5), .val (.int mn), .val (.long ((2147483647 : Int64) - (mn.toInt64))), .second, .unset, .unset, .unset, .unset, .unset, .unset, .unset, .unset, .unset] [(.long (((p1.toInt64) &&& (4294967295 : Int64)) - (((p1.toInt64) &&& (4294967295 : Int64)) / y) * y)), (.int mn)])) (fun _ k => XS.lrem X7.here hx rfl (hb hby at_31) rfl (fun q => by rw [q] at hy1; have : (0 : Int64).toInt = 0 := rfl; omega) k) ?_
  refine own_st (T' := T7) (g' := (mkF m 33 #[.val (.int p0), .val (.int p1), .val (.int p2), .val (.int p3), .val (.int p4), .val (.int p5), .val (.int mn), .val (.long ((2147483647 : Int64) - (mn.toInt64))), .second, .unset, .unset, .unset, .unset, .unset, .unset, .unset, .unset, .unset] [(.int ((((p1.toInt64) &&& (4294967295 : Int64)) - (((p1.toInt64) &&& (4294967295 : Int64)) / y) * y).toInt32)), (.int mn)])) (fun _ k => XS.l2i X7.here hx rfl (hb hby at_32) rfl k) ?_
  refine own_st (T' := T7) (g' := (mkF m 34 #[.val (.int p0), .val (.int p1), .val (.int p2), .val (.int p3), .val (.int p4), .val (.int p5), .val (.int mn), .val (.long ((2147483647 : Int64) - (mn.toInt64))), .second, .unset, .unset, .unset, .unset, .unset, .unset, .unset, .unset, .unset] [(.int (mn + ((((p1.toInt64) &&& (4294967295 : Int64)) - (((p1.toInt64) &&& (4294967295 : Int64)) / y) * y).toInt32)))])) (fun _ k => XS.iadd X7.here hx rfl (hb hby at_33) rfl k) ?_
  refine own_st (T' := T7) (g' := (mkF m 36 #[.val (.int p0), .val (.int p1), .val (.int p2), .val (.int p3), .val (.int p4), .val (.int p5), .val (.int mn), .val (.long ((2147483647 : Int64) - (mn.toInt64))), .second, .val (.int (mn + ((((p1.toInt64) &&& (4294967295 : Int64)) - (((p1.toInt64) &&& (4294967295 : Int64)) / y) * y).toInt32))), .unset, .unset, .unset, .unset, .unset, .unset, .unset, .unset] [])) (fun _ k => XS.istore X7.here hx rfl (hb hby at_34) rfl (l' := #[.val (.int p0), .val (.int p1), .val (.int p2), .val (.int p3), .val (.int p4), .val (.int p5), .val (.int mn), .val (.long ((2147483647 : Int64) - (mn.toInt64))), .second, .val (.int (mn + ((((p1.toInt64) &&& (4294967295 : Int64)) - (((p1.toInt64) &&& (4294967295 : Int64)) / y) * y).toInt32))), .unset, .unset, .unset, .unset, .unset, .unset, .unset, .unset]) rfl k) ?_
  have J36 : ∀ (mx : Int32) (hmm : mn.toInt ≤ mx.toInt), own_Go p e below s (own_law_Q Z p0 p1 p2 p3 p4 p5 h0 n0) 16 128 T7 (mkF m 36 #[.val (.int p0), .val (.int p1), .val (.int p2), .val (.int p3), .val (.int p4), .val (.int p5), .val (.int mn), .val (.long ((2147483647 : Int64) - (mn.toInt64))), .second, .val (.int mx), .unset, .unset, .unset, .unset, .unset, .unset, .unset, .unset] []) := by
    intro mx hmm
    obtain ⟨su, sv, hsu, hsv, hnn, c1, c2⟩ := own_share p5
    refine own_st (T' := T7) (g' := (mkF m 38 #[.val (.int p0), .val (.int p1), .val (.int p2), .val (.int p3), .val (.int p4), .val (.int p5), .val (.int mn), .val (.long ((2147483647 : Int64) - (mn.toInt64))), .second, .val (.int mx), .unset, .unset, .unset, .unset, .unset, .unset, .unset, .unset] [(.int p5)])) (fun _ k => XS.iload X7.here hx rfl (hb hby at_36) rfl k) ?_
    refine own_st (T' := T7) (g' := (mkF m 39 #[.val (.int p0), .val (.int p1), .val (.int p2), .val (.int p3), .val (.int p4), .val (.int p5), .val (.int mn), .val (.long ((2147483647 : Int64) - (mn.toInt64))), .second, .val (.int mx), .unset, .unset, .unset, .unset, .unset, .unset, .unset, .unset] [(.int (3 : Int32)), (.int p5)])) (fun _ k => XS.iconst X7.here hx rfl (hb hby at_38) k) ?_
    refine own_st (T' := T7) (g' := (mkF m 40 #[.val (.int p0), .val (.int p1), .val (.int p2), .val (.int p3), .val (.int p4), .val (.int p5), .val (.int mn), .val (.long ((2147483647 : Int64) - (mn.toInt64))), .second, .val (.int mx), .unset, .unset, .unset, .unset, .unset, .unset, .unset, .unset] [(.int (p5 &&& (3 : Int32)))])) (fun _ k => XS.iand X7.here hx rfl (hb hby at_39) rfl k) ?_
    refine own_st (T' := T7) (g' := (mkF m 41 #[.val (.int p0), .val (.int p1), .val (.int p2), .val (.int p3), .val (.int p4), .val (.int p5), .val (.int mn), .val (.long ((2147483647 : Int64) - (mn.toInt64))), .second, .val (.int mx), .unset, .unset, .unset, .unset, .unset, .unset, .unset, .unset] [(.int (1 : Int32)), (.int (p5 &&& (3 : Int32)))])) (fun _ k => XS.iconst X7.here hx rfl (hb hby at_40) k) ?_
    refine own_st (T' := T7) (g' := (mkF m 42 #[.val (.int p0), .val (.int p1), .val (.int p2), .val (.int p3), .val (.int p4), .val (.int p5), .val (.int mn), .val (.long ((2147483647 : Int64) - (mn.toInt64))), .second, .val (.int mx), .unset, .unset, .unset, .unset, .unset, .unset, .unset, .unset] [(.int ((p5 &&& (3 : Int32)) + (1 : Int32)))])) (fun _ k => XS.iadd X7.here hx rfl (hb hby at_41) rfl k) ?_
    refine own_st (T' := T7) (g' := (mkF m 43 #[.val (.int p0), .val (.int p1), .val (.int p2), .val (.int p3), .val (.int p4), .val (.int p5), .val (.int mn), .val (.long ((2147483647 : Int64) - (mn.toInt64))), .second, .val (.int mx), .unset, .unset, .unset, .unset, .unset, .unset, .unset, .unset] [(.double su)])) (fun _ k => XS.i2dS X7.here hx rfl (hb hby at_42) rfl (v := su) hsu k) ?_
    refine own_st (T' := T7) (g' := (mkF m 46 #[.val (.int p0), .val (.int p1), .val (.int p2), .val (.int p3), .val (.int p4), .val (.int p5), .val (.int mn), .val (.long ((2147483647 : Int64) - (mn.toInt64))), .second, .val (.int mx), .unset, .unset, .unset, .unset, .unset, .unset, .unset, .unset] [(.double (4616189618054758400 : UInt64)), (.double su)])) (X7.ldc2DoubleC hx hown (mvT hZ (hw _ (List.mem_of_getElem? (i := 7) rfl))) (g := (mkF m 43 #[.val (.int p0), .val (.int p1), .val (.int p2), .val (.int p3), .val (.int p4), .val (.int p5), .val (.int mn), .val (.long ((2147483647 : Int64) - (mn.toInt64))), .second, .val (.int mx), .unset, .unset, .unset, .unset, .unset, .unset, .unset, .unset] [(.double su)])) rfl (hb hby at_43)) ?_
    refine own_st (T' := T7) (g' := (mkF m 47 #[.val (.int p0), .val (.int p1), .val (.int p2), .val (.int p3), .val (.int p4), .val (.int p5), .val (.int mn), .val (.long ((2147483647 : Int64) - (mn.toInt64))), .second, .val (.int mx), .unset, .unset, .unset, .unset, .unset, .unset, .unset, .unset] [(.double sv)])) (fun _ k => XS.ddivS X7.here hx rfl (hb hby at_46) rfl hnn (v := sv) hsv k) ?_
    refine own_st (T' := T7) (g' := (mkF m 49 #[.val (.int p0), .val (.int p1), .val (.int p2), .val (.int p3), .val (.int p4), .val (.int p5), .val (.int mn), .val (.long ((2147483647 : Int64) - (mn.toInt64))), .second, .val (.int mx), .val (.double sv), .second, .unset, .unset, .unset, .unset, .unset, .unset] [])) (fun _ k => XS.dstore X7.here hx rfl (hb hby at_47) rfl (l' := #[.val (.int p0), .val (.int p1), .val (.int p2), .val (.int p3), .val (.int p4), .val (.int p5), .val (.int mn), .val (.long ((2147483647 : Int64) - (mn.toInt64))), .second, .val (.int mx), .val (.double sv), .second, .unset, .unset, .unset, .unset, .unset, .unset]) rfl k) ?_
    obtain ⟨T8, h8, X8, e8, E8, A8, D8, -, st8⟩ := newO X7 hx hZ hown (hw _ (List.mem_of_getElem? (i := 8) rfl)) (hw _ (List.mem_of_getElem? (i := 9) rfl)) (hw _ (List.mem_of_getElem? (i := 10) rfl)) e7 (g := (mkF m 49 #[.val (.int p0), .val (.int p1), .val (.int p2), .val (.int p3), .val (.int p4), .val (.int p5), .val (.int mn), .val (.long ((2147483647 : Int64) - (mn.toInt64))), .second, .val (.int mx), .val (.double sv), .second, .unset, .unset, .unset, .unset, .unset, .unset] [])) rfl (hb hby at_49) (by decide) (by decide)
    obtain ⟨a, ga⟩ : ∃ z, z = h0.size := ⟨_, rfl⟩
    rw [← ga] at A8 D8 st8
    have ge_a : n0 ≤ a := own_ge Z0 ga
    have Z0' := Nat.le_trans Z0 E8.1
    have E_a := A8
    have F_minTasks_a : Fld Z h8 a "com/example/apportion/apportion/workload/SizeClass" "minTasks" "I" (.int (0 : Int32)) := D8 (Or.inr (hw _ (List.mem_of_getElem? (i := 18) rfl))) (ty := .int) (by decide)
    have F_maxTasks_a : Fld Z h8 a "com/example/apportion/apportion/workload/SizeClass" "maxTasks" "I" (.int (0 : Int32)) := D8 (Or.inr (hw _ (List.mem_of_getElem? (i := 20) rfl))) (ty := .int) (by decide)
    have F_share_a : Fld Z h8 a "com/example/apportion/apportion/workload/SizeClass" "share" "D" (.double (0 : UInt64)) := D8 (Or.inr (hw _ (List.mem_of_getElem? (i := 22) rfl))) (ty := .double) (by decide)
    refine own_st (T' := T8) (g' := (mkF m 52 #[.val (.int p0), .val (.int p1), .val (.int p2), .val (.int p3), .val (.int p4), .val (.int p5), .val (.int mn), .val (.long ((2147483647 : Int64) - (mn.toInt64))), .second, .val (.int mx), .val (.double sv), .second, .unset, .unset, .unset, .unset, .unset, .unset] [(.ref a)])) st8 ?_
    refine own_st (T' := T8) (g' := (mkF m 53 #[.val (.int p0), .val (.int p1), .val (.int p2), .val (.int p3), .val (.int p4), .val (.int p5), .val (.int mn), .val (.long ((2147483647 : Int64) - (mn.toInt64))), .second, .val (.int mx), .val (.double sv), .second, .unset, .unset, .unset, .unset, .unset, .unset] [(.ref a), (.ref a)])) (fun _ k => XS.dup X8.here hx rfl (hb hby at_52) rfl rfl k) ?_
    refine own_st (T' := T8) (g' := (mkF m 55 #[.val (.int p0), .val (.int p1), .val (.int p2), .val (.int p3), .val (.int p4), .val (.int p5), .val (.int mn), .val (.long ((2147483647 : Int64) - (mn.toInt64))), .second, .val (.int mx), .val (.double sv), .second, .unset, .unset, .unset, .unset, .unset, .unset] [(.int mn), (.ref a), (.ref a)])) (fun _ k => XS.iload X8.here hx rfl (hb hby at_53) rfl k) ?_
    refine own_st (T' := T8) (g' := (mkF m 57 #[.val (.int p0), .val (.int p1), .val (.int p2), .val (.int p3), .val (.int p4), .val (.int p5), .val (.int mn), .val (.long ((2147483647 : Int64) - (mn.toInt64))), .second, .val (.int mx), .val (.double sv), .second, .unset, .unset, .unset, .unset, .unset, .unset] [(.int mx), (.int mn), (.ref a), (.ref a)])) (fun _ k => XS.iload X8.here hx rfl (hb hby at_55) rfl k) ?_
    refine own_st (T' := T8) (g' := (mkF m 59 #[.val (.int p0), .val (.int p1), .val (.int p2), .val (.int p3), .val (.int p4), .val (.int p5), .val (.int mn), .val (.long ((2147483647 : Int64) - (mn.toInt64))), .second, .val (.int mx), .val (.double sv), .second, .unset, .unset, .unset, .unset, .unset, .unset] [(.double sv), (.int mx), (.int mn), (.ref a), (.ref a)])) (fun _ k => XS.dload X8.here hx rfl (hb hby at_57) rfl k) ?_
    obtain ⟨_, _, ⟨T9, L9, k9, n9⟩, -, X9, ⟨Lc9, hQ9, l9, y9, z9⟩, st9⟩ := X8.specialBack hx (y := (⟨"com/example/apportion/apportion/workload/SizeClass", "<init>", "(IID)V"⟩ : MethodName)) rfl hown (mvT hZ (hw _ (List.mem_of_getElem? (i := 11) rfl))) (mvT hZ (hw _ (List.mem_of_getElem? (i := 12) rfl))) (mvT hZ (hw _ (List.mem_of_getElem? (i := 13) rfl))) (by decide) (backOf (W := 1) (own_ini l Z a0 hw [] a mn mx sv h8 n0 Z0' F_minTasks_a F_maxTasks_a F_share_a E_a ge_a (by rw [Int32.lt_iff_toInt_lt]; have : (1 : Int32).toInt = 1 := rfl; omega) (by rw [Int32.lt_iff_toInt_lt]; omega) c1 c2) hZ (hw _ (List.mem_of_getElem? (i := 13) rfl)) (hw _ (List.mem_of_getElem? (i := 10) rfl)) (by decide) (by decide)) (g := (mkF m 59 #[.val (.int p0), .val (.int p1), .val (.int p2), .val (.int p3), .val (.int p4), .val (.int p5), .val (.int mn), .val (.long ((2147483647 : Int64) - (mn.toInt64))), .second, .val (.int mx), .val (.double sv), .second, .unset, .unset, .unset, .unset, .unset, .unset] [(.double sv), (.int mx), (.int mn), (.ref a), (.ref a)])) rfl (by rw [hml]; rfl) (Steps.refl _) (a := a) (argsL := [(.int mn), (.int mx), (.double sv)]) (rest := [(.ref a)]) (lenOf own_pd1 rfl) rfl (by show 2 * 0 + _ ≤ _; exact Nat.le_of_eq rfl) (hb hby at_59) (fun _ _ => ⟨rfl, e8, (by decide : ((0 + 0) + 1) + 0 ≤ _), (by decide : ((0 + 0) + 3) + 0 ≤ _)⟩)
    dsimp only [Pt.U, Pt.locs, Pt.cells, Pt.slots] at X9 l9 y9 z9 st9 hQ9
    subst l9 y9 z9
    obtain ⟨rfl, N9q, K9, -, F1, F2⟩ := hQ9
    have N0'' := Fr.app N0' N9q
    have E_a := E_a.keep K9
    have Z0'' := Nat.le_trans Z0' K9.1
    refine own_tr (T' := T9) (g' := (mkF m 62 #[.val (.int p0), .val (.int p1), .val (.int p2), .val (.int p3), .val (.int p4), .val (.int p5), .val (.int mn), .val (.long ((2147483647 : Int64) - (mn.toInt64))), .second, .val (.int mx), .val (.double sv), .second, .unset, .unset, .unset, .unset, .unset, .unset] [(.ref a)])) st9 ?_
    refine own_st (T' := T9) (g' := (mkF m 64 #[.val (.int p0), .val (.int p1), .val (.int p2), .val (.int p3), .val (.int p4), .val (.int p5), .val (.int mn), .val (.long ((2147483647 : Int64) - (mn.toInt64))), .second, .val (.int mx), .val (.double sv), .second, .val (.ref a), .unset, .unset, .unset, .unset, .unset] [])) (fun _ k => XS.astore X9.here hx rfl (hb hby at_62) rfl rfl (l' := #[.val (.int p0), .val (.int p1), .val (.int p2), .val (.int p3), .val (.int p4), .val (.int p5), .val (.int mn), .val (.long ((2147483647 : Int64) - (mn.toInt64))), .second, .val (.int mx), .val (.double sv), .second, .val (.ref a), .unset, .unset, .unset, .unset, .unset]) rfl k) ?_
    refine own_st (T' := T9) (g' := (mkF m 65 #[.val (.int p0), .val (.int p1), .val (.int p2), .val (.int p3), .val (.int p4), .val (.int p5), .val (.int mn), .val (.long ((2147483647 : Int64) - (mn.toInt64))), .second, .val (.int mx), .val (.double sv), .second, .val (.ref a), .unset, .unset, .unset, .unset, .unset] [(.int p3)])) (fun _ k => XS.iloadN X9.here hx rfl (hb hby at_64) rfl k) ?_
    refine own_st (T' := T9) (g' := (mkF m 67 #[.val (.int p0), .val (.int p1), .val (.int p2), .val (.int p3), .val (.int p4), .val (.int p5), .val (.int mn), .val (.long ((2147483647 : Int64) - (mn.toInt64))), .second, .val (.int mx), .val (.double sv), .second, .val (.ref a), .unset, .unset, .unset, .unset, .unset] [(.int (7 : Int32)), (.int p3)])) (fun _ k => XS.bipush X9.here hx rfl (hb hby at_65) k) ?_
    refine own_st (T' := T9) (g' := (mkF m 68 #[.val (.int p0), .val (.int p1), .val (.int p2), .val (.int p3), .val (.int p4), .val (.int p5), .val (.int mn), .val (.long ((2147483647 : Int64) - (mn.toInt64))), .second, .val (.int mx), .val (.double sv), .second, .val (.ref a), .unset, .unset, .unset, .unset, .unset] [(.int (p3 &&& (7 : Int32)))])) (fun _ k => XS.iand X9.here hx rfl (hb hby at_67) rfl k) ?_
    refine own_st (T' := T9) (g' := (mkF m 70 #[.val (.int p0), .val (.int p1), .val (.int p2), .val (.int p3), .val (.int p4), .val (.int p5), .val (.int mn), .val (.long ((2147483647 : Int64) - (mn.toInt64))), .second, .val (.int mx), .val (.double sv), .second, .val (.ref a), .val (.int (p3 &&& (7 : Int32))), .unset, .unset, .unset, .unset] [])) (fun _ k => XS.istore X9.here hx rfl (hb hby at_68) rfl (l' := #[.val (.int p0), .val (.int p1), .val (.int p2), .val (.int p3), .val (.int p4), .val (.int p5), .val (.int mn), .val (.long ((2147483647 : Int64) - (mn.toInt64))), .second, .val (.int mx), .val (.double sv), .second, .val (.ref a), .val (.int (p3 &&& (7 : Int32))), .unset, .unset, .unset, .unset]) rfl k) ?_
    have J187 : ∀ (ct : Int32), own_Go p e below s (own_law_Q Z p0 p1 p2 p3 p4 p5 h0 n0) 16 128 T9 (mkF m 187 #[.val (.int p0), .val (.int p1), .val (.int p2), .val (.int p3), .val (.int p4), .val (.int p5), .val (.int mn), .val (.long ((2147483647 : Int64) - (mn.toInt64))), .second, .val (.int mx), .val (.double sv), .second, .val (.ref a), .val (.int (p3 &&& (7 : Int32))), .val (.int ct), .unset, .unset, .unset] []) := by
      intro ct
      refine own_st (T' := T9) (g' := (mkF m 189 #[.val (.int p0), .val (.int p1), .val (.int p2), .val (.int p3), .val (.int p4), .val (.int p5), .val (.int mn), .val (.long ((2147483647 : Int64) - (mn.toInt64))), .second, .val (.int mx), .val (.double sv), .second, .val (.ref a), .val (.int (p3 &&& (7 : Int32))), .val (.int ct), .unset, .unset, .unset] [(.int ct)])) (fun _ k => XS.iload X9.here hx rfl (hb hby at_187) rfl k) ?_
      refine own_st (T' := T9) (g' := (mkF m 190 #[.val (.int p0), .val (.int p1), .val (.int p2), .val (.int p3), .val (.int p4), .val (.int p5), .val (.int mn), .val (.long ((2147483647 : Int64) - (mn.toInt64))), .second, .val (.int mx), .val (.double sv), .second, .val (.ref a), .val (.int (p3 &&& (7 : Int32))), .val (.int ct), .unset, .unset, .unset] [(.long (ct.toInt64))])) (fun _ k => XS.i2l X9.here hx rfl (hb hby at_189) rfl k) ?_
      refine own_st (T' := T9) (g' := (mkF m 192 #[.val (.int p0), .val (.int p1), .val (.int p2), .val (.int p3), .val (.int p4), .val (.int p5), .val (.int mn), .val (.long ((2147483647 : Int64) - (mn.toInt64))), .second, .val (.int mx), .val (.double sv), .second, .val (.ref a), .val (.int (p3 &&& (7 : Int32))), .val (.int ct), .unset, .unset, .unset] [(.int mn), (.long (ct.toInt64))])) (fun _ k => XS.iload X9.here hx rfl (hb hby at_190) rfl k) ?_
      refine own_st (T' := T9) (g' := (mkF m 193 #[.val (.int p0), .val (.int p1), .val (.int p2), .val (.int p3), .val (.int p4), .val (.int p5), .val (.int mn), .val (.long ((2147483647 : Int64) - (mn.toInt64))), .second, .val (.int mx), .val (.double sv), .second, .val (.ref a), .val (.int (p3 &&& (7 : Int32))), .val (.int ct), .unset, .unset, .unset] [(.long (mn.toInt64)), (.long (ct.toInt64))])) (fun _ k => XS.i2l X9.here hx rfl (hb hby at_192) rfl k) ?_
      refine own_st (T' := T9) (g' := (mkF m 194 #[.val (.int p0), .val (.int p1), .val (.int p2), .val (.int p3), .val (.int p4), .val (.int p5), .val (.int mn), .val (.long ((2147483647 : Int64) - (mn.toInt64))), .second, .val (.int mx), .val (.double sv), .second, .val (.ref a), .val (.int (p3 &&& (7 : Int32))), .val (.int ct), .unset, .unset, .unset] [(.long ((ct.toInt64) - (mn.toInt64)))])) (fun _ k => XS.lsub X9.here hx rfl (hb hby at_193) rfl k) ?_
      refine own_st (T' := T9) (g' := (mkF m 196 #[.val (.int p0), .val (.int p1), .val (.int p2), .val (.int p3), .val (.int p4), .val (.int p5), .val (.int mn), .val (.long ((2147483647 : Int64) - (mn.toInt64))), .second, .val (.int mx), .val (.double sv), .second, .val (.ref a), .val (.int (p3 &&& (7 : Int32))), .val (.int ct), .val (.long ((ct.toInt64) - (mn.toInt64))), .second, .unset] [])) (fun _ k => XS.lstore X9.here hx rfl (hb hby at_194) rfl (l' := #[.val (.int p0), .val (.int p1), .val (.int p2), .val (.int p3), .val (.int p4), .val (.int p5), .val (.int mn), .val (.long ((2147483647 : Int64) - (mn.toInt64))), .second, .val (.int mx), .val (.double sv), .second, .val (.ref a), .val (.int (p3 &&& (7 : Int32))), .val (.int ct), .val (.long ((ct.toInt64) - (mn.toInt64))), .second, .unset]) rfl k) ?_
      refine own_st (T' := T9) (g' := (mkF m 198 #[.val (.int p0), .val (.int p1), .val (.int p2), .val (.int p3), .val (.int p4), .val (.int p5), .val (.int mn), .val (.long ((2147483647 : Int64) - (mn.toInt64))), .second, .val (.int mx), .val (.double sv), .second, .val (.ref a), .val (.int (p3 &&& (7 : Int32))), .val (.int ct), .val (.long ((ct.toInt64) - (mn.toInt64))), .second, .unset] [(.long ((ct.toInt64) - (mn.toInt64)))])) (fun _ k => XS.lload X9.here hx rfl (hb hby at_196) rfl k) ?_
      refine own_st (T' := T9) (g' := (mkF m 199 #[.val (.int p0), .val (.int p1), .val (.int p2), .val (.int p3), .val (.int p4), .val (.int p5), .val (.int mn), .val (.long ((2147483647 : Int64) - (mn.toInt64))), .second, .val (.int mx), .val (.double sv), .second, .val (.ref a), .val (.int (p3 &&& (7 : Int32))), .val (.int ct), .val (.long ((ct.toInt64) - (mn.toInt64))), .second, .unset] [(.long (0 : Int64)), (.long ((ct.toInt64) - (mn.toInt64)))])) (fun _ k => XS.lconst X9.here hx rfl (hb hby at_198) k) ?_
      refine own_st (T' := T9) (g' := (mkF m 200 #[.val (.int p0), .val (.int p1), .val (.int p2), .val (.int p3), .val (.int p4), .val (.int p5), .val (.int mn), .val (.long ((2147483647 : Int64) - (mn.toInt64))), .second, .val (.int mx), .val (.double sv), .second, .val (.ref a), .val (.int (p3 &&& (7 : Int32))), .val (.int ct), .val (.long ((ct.toInt64) - (mn.toInt64))), .second, .unset] [(.int (lcmpW ((ct.toInt64) - (mn.toInt64)) (0 : Int64)))])) (fun _ k => XS.lcmp X9.here hx rfl (hb hby at_199) rfl k) ?_
      have J221 : ∀ (z : Int32) (hz : z = (if (ct.toInt64 - mn.toInt64) < (0 : Int64) then (0 : Int32) else if (mx.toInt64 - mn.toInt64) < (ct.toInt64 - mn.toInt64) then 0 else 1)), own_Go p e below s (own_law_Q Z p0 p1 p2 p3 p4 p5 h0 n0) 16 128 T9 (mkF m 221 #[.val (.int p0), .val (.int p1), .val (.int p2), .val (.int p3), .val (.int p4), .val (.int p5), .val (.int mn), .val (.long ((2147483647 : Int64) - (mn.toInt64))), .second, .val (.int mx), .val (.double sv), .second, .val (.ref a), .val (.int (p3 &&& (7 : Int32))), .val (.int ct), .val (.long ((ct.toInt64) - (mn.toInt64))), .second, .unset] [(.int z)]) := by
        intro z hz
        refine own_st (T' := T9) (g' := (mkF m 223 #[.val (.int p0), .val (.int p1), .val (.int p2), .val (.int p3), .val (.int p4), .val (.int p5), .val (.int mn), .val (.long ((2147483647 : Int64) - (mn.toInt64))), .second, .val (.int mx), .val (.double sv), .second, .val (.ref a), .val (.int (p3 &&& (7 : Int32))), .val (.int ct), .val (.long ((ct.toInt64) - (mn.toInt64))), .second, .val (.int z)] [])) (fun _ k => XS.istore X9.here hx rfl (hb hby at_221) rfl (l' := #[.val (.int p0), .val (.int p1), .val (.int p2), .val (.int p3), .val (.int p4), .val (.int p5), .val (.int mn), .val (.long ((2147483647 : Int64) - (mn.toInt64))), .second, .val (.int mx), .val (.double sv), .second, .val (.ref a), .val (.int (p3 &&& (7 : Int32))), .val (.int ct), .val (.long ((ct.toInt64) - (mn.toInt64))), .second, .val (.int z)]) rfl k) ?_
        refine own_st (T' := T9) (g' := (mkF m 225 #[.val (.int p0), .val (.int p1), .val (.int p2), .val (.int p3), .val (.int p4), .val (.int p5), .val (.int mn), .val (.long ((2147483647 : Int64) - (mn.toInt64))), .second, .val (.int mx), .val (.double sv), .second, .val (.ref a), .val (.int (p3 &&& (7 : Int32))), .val (.int ct), .val (.long ((ct.toInt64) - (mn.toInt64))), .second, .val (.int z)] [(.ref a)])) (fun _ k => XS.aload X9.here hx rfl (hb hby at_223) rfl rfl k) ?_
        refine own_st (T' := T9) (g' := (mkF m 227 #[.val (.int p0), .val (.int p1), .val (.int p2), .val (.int p3), .val (.int p4), .val (.int p5), .val (.int mn), .val (.long ((2147483647 : Int64) - (mn.toInt64))), .second, .val (.int mx), .val (.double sv), .second, .val (.ref a), .val (.int (p3 &&& (7 : Int32))), .val (.int ct), .val (.long ((ct.toInt64) - (mn.toInt64))), .second, .val (.int z)] [(.int ct), (.ref a)])) (fun _ k => XS.iload X9.here hx rfl (hb hby at_225) rfl k) ?_
        obtain ⟨cq10, kq10, q10a, q10b, q10c⟩ := isOf hZ rfl E_a
        obtain ⟨_, _, ⟨T10, L10, k10, n10⟩, -, X10, ⟨Lc10, hQ10, l10, y10, z10⟩, st10⟩ := X9.virtualBack hx (y := (⟨"com/example/apportion/apportion/workload/SizeClass", "contains", "(I)Z"⟩ : MethodName)) (z := (⟨"com/example/apportion/apportion/workload/SizeClass", "contains", "(I)Z"⟩ : MethodName)) hown (mvT hZ (hw _ (List.mem_of_getElem? (i := 23) rfl))) (mvT hZ (hw _ (List.mem_of_getElem? (i := 24) rfl))) (notFace_of_selects (args := #[]) (mvT hZ (hw _ (List.mem_of_getElem? (i := 26) rfl)))) (mvT hZ (hw _ (List.mem_of_getElem? (i := 26) rfl))) (mvT hZ (hw _ (List.mem_of_getElem? (i := 25) rfl))) (by decide) (backOf (W := 0) (own_con l Z a0 hw [] a ct mn mx T9.heap n0 Z0'' F1 F2) hZ (hw _ (List.mem_of_getElem? (i := 27) rfl)) (hw _ (List.mem_of_getElem? (i := 10) rfl)) (by decide) (by decide)) q10a q10c (g := (mkF m 227 #[.val (.int p0), .val (.int p1), .val (.int p2), .val (.int p3), .val (.int p4), .val (.int p5), .val (.int mn), .val (.long ((2147483647 : Int64) - (mn.toInt64))), .second, .val (.int mx), .val (.double sv), .second, .val (.ref a), .val (.int (p3 &&& (7 : Int32))), .val (.int ct), .val (.long ((ct.toInt64) - (mn.toInt64))), .second, .val (.int z)] [(.int ct), (.ref a)])) rfl (by rw [hml]; rfl) (Steps.refl _) (argsL := [(.int ct)]) (rest := []) (lenOf own_pd2 rfl) rfl (by show 2 * 0 + _ ≤ _; exact Nat.le_of_eq rfl) (hb hby at_227) (fun _ _ => ⟨rfl, rfl, (by decide : (((0 + 0) + 1) + 0) + 0 ≤ _), (by decide : (((0 + 0) + 3) + 0) + 0 ≤ _)⟩)
        dsimp only [Pt.U, Pt.locs, Pt.cells, Pt.slots] at X10 l10 y10 z10 st10 hQ10
        subst l10 y10 z10
        obtain ⟨rfl, N10q, e10⟩ := hQ10
        have N0''' := Fr.app N0'' N10q
        refine own_tr (T' := T10) (g' := (mkF m 230 #[.val (.int p0), .val (.int p1), .val (.int p2), .val (.int p3), .val (.int p4), .val (.int p5), .val (.int mn), .val (.long ((2147483647 : Int64) - (mn.toInt64))), .second, .val (.int mx), .val (.double sv), .second, .val (.ref a), .val (.int (p3 &&& (7 : Int32))), .val (.int ct), .val (.long ((ct.toInt64) - (mn.toInt64))), .second, .val (.int z)] [(.int (own_in ct mn mx))])) st10 ?_
        refine own_st (T' := T10) (g' := (mkF m 232 #[.val (.int p0), .val (.int p1), .val (.int p2), .val (.int p3), .val (.int p4), .val (.int p5), .val (.int mn), .val (.long ((2147483647 : Int64) - (mn.toInt64))), .second, .val (.int mx), .val (.double sv), .second, .val (.ref a), .val (.int (p3 &&& (7 : Int32))), .val (.int ct), .val (.long ((ct.toInt64) - (mn.toInt64))), .second, .val (.int z)] [(.int z), (.int (own_in ct mn mx))])) (fun _ k => XS.iload X10.here hx rfl (hb hby at_230) rfl k) ?_
        refine own_st (T' := T10) (g' := (mkF m 235 #[.val (.int p0), .val (.int p1), .val (.int p2), .val (.int p3), .val (.int p4), .val (.int p5), .val (.int mn), .val (.long ((2147483647 : Int64) - (mn.toInt64))), .second, .val (.int mx), .val (.double sv), .second, .val (.ref a), .val (.int (p3 &&& (7 : Int32))), .val (.int ct), .val (.long ((ct.toInt64) - (mn.toInt64))), .second, .val (.int z)] [])) (fun _ k => XS.icmpNo X10.here hx rfl (hb hby at_232) rfl (Jvm.Free.XT.ii_ne_f (by rw [hz, own_exp])) k) ?_
        refine own_st (T' := T10) (g' := (mkF m 236 #[.val (.int p0), .val (.int p1), .val (.int p2), .val (.int p3), .val (.int p4), .val (.int p5), .val (.int mn), .val (.long ((2147483647 : Int64) - (mn.toInt64))), .second, .val (.int mx), .val (.double sv), .second, .val (.ref a), .val (.int (p3 &&& (7 : Int32))), .val (.int ct), .val (.long ((ct.toInt64) - (mn.toInt64))), .second, .val (.int z)] [(.int (1 : Int32))])) (fun _ k => XS.iconst X10.here hx rfl (hb hby at_235) k) ?_
        refine own_st (T' := T10) (g' := (mkF m 240 #[.val (.int p0), .val (.int p1), .val (.int p2), .val (.int p3), .val (.int p4), .val (.int p5), .val (.int mn), .val (.long ((2147483647 : Int64) - (mn.toInt64))), .second, .val (.int mx), .val (.double sv), .second, .val (.ref a), .val (.int (p3 &&& (7 : Int32))), .val (.int ct), .val (.long ((ct.toInt64) - (mn.toInt64))), .second, .val (.int z)] [(.int (1 : Int32))])) (fun _ k => XS.goto X10.here hx rfl (pc0 := 236) (pc' := 240) rfl (hb hby at_236) (by decide) (by decide) k) ?_
        exact own_retN X10 hx Bd.returns Bd.notSynchronized e10 (by simp) (hb hby at_240) ⟨rfl, N0'''⟩ (by decide) (by decide)
      by_cases q1 : ((ct.toInt64) - (mn.toInt64)) < (0 : Int64)
      · refine own_st (T' := T9) (g' := (mkF m 220 #[.val (.int p0), .val (.int p1), .val (.int p2), .val (.int p3), .val (.int p4), .val (.int p5), .val (.int mn), .val (.long ((2147483647 : Int64) - (mn.toInt64))), .second, .val (.int mx), .val (.double sv), .second, .val (.ref a), .val (.int (p3 &&& (7 : Int32))), .val (.int ct), .val (.long ((ct.toInt64) - (mn.toInt64))), .second, .unset] [])) (fun _ k => XS.ifYes X9.here hx rfl (pc0 := 200) (pc' := 220) rfl (hb hby at_200) rfl (Jvm.Free.XT.i0_lt_t ((lw_lt ((ct.toInt64) - (mn.toInt64)) (0 : Int64)).mpr q1)) (by decide) (by decide) k) ?_
        refine own_st (T' := T9) (g' := (mkF m 221 #[.val (.int p0), .val (.int p1), .val (.int p2), .val (.int p3), .val (.int p4), .val (.int p5), .val (.int mn), .val (.long ((2147483647 : Int64) - (mn.toInt64))), .second, .val (.int mx), .val (.double sv), .second, .val (.ref a), .val (.int (p3 &&& (7 : Int32))), .val (.int ct), .val (.long ((ct.toInt64) - (mn.toInt64))), .second, .unset] [(.int (0 : Int32))])) (fun _ k => XS.iconst X9.here hx rfl (hb hby at_220) k) ?_
        exact J221 _ (by simp [q1])
      · refine own_st (T' := T9) (g' := (mkF m 203 #[.val (.int p0), .val (.int p1), .val (.int p2), .val (.int p3), .val (.int p4), .val (.int p5), .val (.int mn), .val (.long ((2147483647 : Int64) - (mn.toInt64))), .second, .val (.int mx), .val (.double sv), .second, .val (.ref a), .val (.int (p3 &&& (7 : Int32))), .val (.int ct), .val (.long ((ct.toInt64) - (mn.toInt64))), .second, .unset] [])) (fun _ k => XS.ifNo X9.here hx rfl (hb hby at_200) rfl (Jvm.Free.XT.i0_lt_f (mt (lw_lt ((ct.toInt64) - (mn.toInt64)) (0 : Int64)).mp q1)) k) ?_
        refine own_st (T' := T9) (g' := (mkF m 205 #[.val (.int p0), .val (.int p1), .val (.int p2), .val (.int p3), .val (.int p4), .val (.int p5), .val (.int mn), .val (.long ((2147483647 : Int64) - (mn.toInt64))), .second, .val (.int mx), .val (.double sv), .second, .val (.ref a), .val (.int (p3 &&& (7 : Int32))), .val (.int ct), .val (.long ((ct.toInt64) - (mn.toInt64))), .second, .unset] [(.long ((ct.toInt64) - (mn.toInt64)))])) (fun _ k => XS.lload X9.here hx rfl (hb hby at_203) rfl k) ?_
        refine own_st (T' := T9) (g' := (mkF m 207 #[.val (.int p0), .val (.int p1), .val (.int p2), .val (.int p3), .val (.int p4), .val (.int p5), .val (.int mn), .val (.long ((2147483647 : Int64) - (mn.toInt64))), .second, .val (.int mx), .val (.double sv), .second, .val (.ref a), .val (.int (p3 &&& (7 : Int32))), .val (.int ct), .val (.long ((ct.toInt64) - (mn.toInt64))), .second, .unset] [(.int mx), (.long ((ct.toInt64) - (mn.toInt64)))])) (fun _ k => XS.iload X9.here hx rfl (hb hby at_205) rfl k) ?_
        refine own_st (T' := T9) (g' := (mkF m 208 #[.val (.int p0), .val (.int p1), .val (.int p2), .val (.int p3), .val (.int p4), .val (.int p5), .val (.int mn), .val (.long ((2147483647 : Int64) - (mn.toInt64))), .second, .val (.int mx), .val (.double sv), .second, .val (.ref a), .val (.int (p3 &&& (7 : Int32))), .val (.int ct), .val (.long ((ct.toInt64) - (mn.toInt64))), .second, .unset] [(.long (mx.toInt64)), (.long ((ct.toInt64) - (mn.toInt64)))])) (fun _ k => XS.i2l X9.here hx rfl (hb hby at_207) rfl k) ?_
        refine own_st (T' := T9) (g' := (mkF m 210 #[.val (.int p0), .val (.int p1), .val (.int p2), .val (.int p3), .val (.int p4), .val (.int p5), .val (.int mn), .val (.long ((2147483647 : Int64) - (mn.toInt64))), .second, .val (.int mx), .val (.double sv), .second, .val (.ref a), .val (.int (p3 &&& (7 : Int32))), .val (.int ct), .val (.long ((ct.toInt64) - (mn.toInt64))), .second, .unset] [(.int mn), (.long (mx.toInt64)), (.long ((ct.toInt64) - (mn.toInt64)))])) (fun _ k => XS.iload X9.here hx rfl (hb hby at_208) rfl k) ?_
        refine own_st (T' := T9) (g' := (mkF m 211 #[.val (.int p0), .val (.int p1), .val (.int p2), .val (.int p3), .val (.int p4), .val (.int p5), .val (.int mn), .val (.long ((2147483647 : Int64) - (mn.toInt64))), .second, .val (.int mx), .val (.double sv), .second, .val (.ref a), .val (.int (p3 &&& (7 : Int32))), .val (.int ct), .val (.long ((ct.toInt64) - (mn.toInt64))), .second, .unset] [(.long (mn.toInt64)), (.long (mx.toInt64)), (.long ((ct.toInt64) - (mn.toInt64)))])) (fun _ k => XS.i2l X9.here hx rfl (hb hby at_210) rfl k) ?_
        refine own_st (T' := T9) (g' := (mkF m 212 #[.val (.int p0), .val (.int p1), .val (.int p2), .val (.int p3), .val (.int p4), .val (.int p5), .val (.int mn), .val (.long ((2147483647 : Int64) - (mn.toInt64))), .second, .val (.int mx), .val (.double sv), .second, .val (.ref a), .val (.int (p3 &&& (7 : Int32))), .val (.int ct), .val (.long ((ct.toInt64) - (mn.toInt64))), .second, .unset] [(.long ((mx.toInt64) - (mn.toInt64))), (.long ((ct.toInt64) - (mn.toInt64)))])) (fun _ k => XS.lsub X9.here hx rfl (hb hby at_211) rfl k) ?_
        refine own_st (T' := T9) (g' := (mkF m 213 #[.val (.int p0), .val (.int p1), .val (.int p2), .val (.int p3), .val (.int p4), .val (.int p5), .val (.int mn), .val (.long ((2147483647 : Int64) - (mn.toInt64))), .second, .val (.int mx), .val (.double sv), .second, .val (.ref a), .val (.int (p3 &&& (7 : Int32))), .val (.int ct), .val (.long ((ct.toInt64) - (mn.toInt64))), .second, .unset] [(.int (lcmpW ((ct.toInt64) - (mn.toInt64)) ((mx.toInt64) - (mn.toInt64))))])) (fun _ k => XS.lcmp X9.here hx rfl (hb hby at_212) rfl k) ?_
        by_cases q2 : ((mx.toInt64) - (mn.toInt64)) < ((ct.toInt64) - (mn.toInt64))
        · refine own_st (T' := T9) (g' := (mkF m 220 #[.val (.int p0), .val (.int p1), .val (.int p2), .val (.int p3), .val (.int p4), .val (.int p5), .val (.int mn), .val (.long ((2147483647 : Int64) - (mn.toInt64))), .second, .val (.int mx), .val (.double sv), .second, .val (.ref a), .val (.int (p3 &&& (7 : Int32))), .val (.int ct), .val (.long ((ct.toInt64) - (mn.toInt64))), .second, .unset] [])) (fun _ k => XS.ifYes X9.here hx rfl (pc0 := 213) (pc' := 220) rfl (hb hby at_213) rfl (Jvm.Free.XT.i0_gt_t ((lw_gt ((ct.toInt64) - (mn.toInt64)) ((mx.toInt64) - (mn.toInt64))).mpr q2)) (by decide) (by decide) k) ?_
          refine own_st (T' := T9) (g' := (mkF m 221 #[.val (.int p0), .val (.int p1), .val (.int p2), .val (.int p3), .val (.int p4), .val (.int p5), .val (.int mn), .val (.long ((2147483647 : Int64) - (mn.toInt64))), .second, .val (.int mx), .val (.double sv), .second, .val (.ref a), .val (.int (p3 &&& (7 : Int32))), .val (.int ct), .val (.long ((ct.toInt64) - (mn.toInt64))), .second, .unset] [(.int (0 : Int32))])) (fun _ k => XS.iconst X9.here hx rfl (hb hby at_220) k) ?_
          exact J221 _ (by simp [q1, q2])
        · refine own_st (T' := T9) (g' := (mkF m 216 #[.val (.int p0), .val (.int p1), .val (.int p2), .val (.int p3), .val (.int p4), .val (.int p5), .val (.int mn), .val (.long ((2147483647 : Int64) - (mn.toInt64))), .second, .val (.int mx), .val (.double sv), .second, .val (.ref a), .val (.int (p3 &&& (7 : Int32))), .val (.int ct), .val (.long ((ct.toInt64) - (mn.toInt64))), .second, .unset] [])) (fun _ k => XS.ifNo X9.here hx rfl (hb hby at_213) rfl (Jvm.Free.XT.i0_gt_f (mt (lw_gt ((ct.toInt64) - (mn.toInt64)) ((mx.toInt64) - (mn.toInt64))).mp q2)) k) ?_
          refine own_st (T' := T9) (g' := (mkF m 217 #[.val (.int p0), .val (.int p1), .val (.int p2), .val (.int p3), .val (.int p4), .val (.int p5), .val (.int mn), .val (.long ((2147483647 : Int64) - (mn.toInt64))), .second, .val (.int mx), .val (.double sv), .second, .val (.ref a), .val (.int (p3 &&& (7 : Int32))), .val (.int ct), .val (.long ((ct.toInt64) - (mn.toInt64))), .second, .unset] [(.int (1 : Int32))])) (fun _ k => XS.iconst X9.here hx rfl (hb hby at_216) k) ?_
          refine own_st (T' := T9) (g' := (mkF m 221 #[.val (.int p0), .val (.int p1), .val (.int p2), .val (.int p3), .val (.int p4), .val (.int p5), .val (.int mn), .val (.long ((2147483647 : Int64) - (mn.toInt64))), .second, .val (.int mx), .val (.double sv), .second, .val (.ref a), .val (.int (p3 &&& (7 : Int32))), .val (.int ct), .val (.long ((ct.toInt64) - (mn.toInt64))), .second, .unset] [(.int (1 : Int32))])) (fun _ k => XS.goto X9.here hx rfl (pc0 := 217) (pc' := 221) rfl (hb hby at_217) (by decide) (by decide) k) ?_
          exact J221 _ (by simp [q1, q2])
    refine own_st (T' := T9) (g' := (mkF m 72 #[.val (.int p0), .val (.int p1), .val (.int p2), .val (.int p3), .val (.int p4), .val (.int p5), .val (.int mn), .val (.long ((2147483647 : Int64) - (mn.toInt64))), .second, .val (.int mx), .val (.double sv), .second, .val (.ref a), .val (.int (p3 &&& (7 : Int32))), .unset, .unset, .unset, .unset] [(.int (p3 &&& (7 : Int32)))])) (fun _ k => XS.iload X9.here hx rfl (hb hby at_70) rfl k) ?_
    by_cases k0 : (p3 &&& (7 : Int32)) = (0 : Int32)
    · refine own_st (T' := T9) (g' := (mkF m 75 #[.val (.int p0), .val (.int p1), .val (.int p2), .val (.int p3), .val (.int p4), .val (.int p5), .val (.int mn), .val (.long ((2147483647 : Int64) - (mn.toInt64))), .second, .val (.int mx), .val (.double sv), .second, .val (.ref a), .val (.int (p3 &&& (7 : Int32))), .unset, .unset, .unset, .unset] [])) (fun _ k => XS.ifNo X9.here hx rfl (hb hby at_72) rfl (Jvm.Free.XT.i0_ne_f k0) k) ?_
      refine own_st (T' := T9) (g' := (mkF m 76 #[.val (.int p0), .val (.int p1), .val (.int p2), .val (.int p3), .val (.int p4), .val (.int p5), .val (.int mn), .val (.long ((2147483647 : Int64) - (mn.toInt64))), .second, .val (.int mx), .val (.double sv), .second, .val (.ref a), .val (.int (p3 &&& (7 : Int32))), .unset, .unset, .unset, .unset] [(.int p2)])) (fun _ k => XS.iloadN X9.here hx rfl (hb hby at_75) rfl k) ?_
      refine own_st (T' := T9) (g' := (mkF m 78 #[.val (.int p0), .val (.int p1), .val (.int p2), .val (.int p3), .val (.int p4), .val (.int p5), .val (.int mn), .val (.long ((2147483647 : Int64) - (mn.toInt64))), .second, .val (.int mx), .val (.double sv), .second, .val (.ref a), .val (.int (p3 &&& (7 : Int32))), .val (.int p2), .unset, .unset, .unset] [])) (fun _ k => XS.istore X9.here hx rfl (hb hby at_76) rfl (l' := #[.val (.int p0), .val (.int p1), .val (.int p2), .val (.int p3), .val (.int p4), .val (.int p5), .val (.int mn), .val (.long ((2147483647 : Int64) - (mn.toInt64))), .second, .val (.int mx), .val (.double sv), .second, .val (.ref a), .val (.int (p3 &&& (7 : Int32))), .val (.int p2), .unset, .unset, .unset]) rfl k) ?_
      refine own_st (T' := T9) (g' := (mkF m 187 #[.val (.int p0), .val (.int p1), .val (.int p2), .val (.int p3), .val (.int p4), .val (.int p5), .val (.int mn), .val (.long ((2147483647 : Int64) - (mn.toInt64))), .second, .val (.int mx), .val (.double sv), .second, .val (.ref a), .val (.int (p3 &&& (7 : Int32))), .val (.int p2), .unset, .unset, .unset] [])) (fun _ k => XS.goto X9.here hx rfl (pc0 := 78) (pc' := 187) rfl (hb hby at_78) (by decide) (by decide) k) ?_
      exact J187 _
    · refine own_st (T' := T9) (g' := (mkF m 81 #[.val (.int p0), .val (.int p1), .val (.int p2), .val (.int p3), .val (.int p4), .val (.int p5), .val (.int mn), .val (.long ((2147483647 : Int64) - (mn.toInt64))), .second, .val (.int mx), .val (.double sv), .second, .val (.ref a), .val (.int (p3 &&& (7 : Int32))), .unset, .unset, .unset, .unset] [])) (fun _ k => XS.ifYes X9.here hx rfl (pc0 := 72) (pc' := 81) rfl (hb hby at_72) rfl (Jvm.Free.XT.i0_ne_t k0) (by decide) (by decide) k) ?_
      refine own_st (T' := T9) (g' := (mkF m 83 #[.val (.int p0), .val (.int p1), .val (.int p2), .val (.int p3), .val (.int p4), .val (.int p5), .val (.int mn), .val (.long ((2147483647 : Int64) - (mn.toInt64))), .second, .val (.int mx), .val (.double sv), .second, .val (.ref a), .val (.int (p3 &&& (7 : Int32))), .unset, .unset, .unset, .unset] [(.int (p3 &&& (7 : Int32)))])) (fun _ k => XS.iload X9.here hx rfl (hb hby at_81) rfl k) ?_
      refine own_st (T' := T9) (g' := (mkF m 84 #[.val (.int p0), .val (.int p1), .val (.int p2), .val (.int p3), .val (.int p4), .val (.int p5), .val (.int mn), .val (.long ((2147483647 : Int64) - (mn.toInt64))), .second, .val (.int mx), .val (.double sv), .second, .val (.ref a), .val (.int (p3 &&& (7 : Int32))), .unset, .unset, .unset, .unset] [(.int (1 : Int32)), (.int (p3 &&& (7 : Int32)))])) (fun _ k => XS.iconst X9.here hx rfl (hb hby at_83) k) ?_
      by_cases k1 : (p3 &&& (7 : Int32)) = (1 : Int32)
      · refine own_st (T' := T9) (g' := (mkF m 87 #[.val (.int p0), .val (.int p1), .val (.int p2), .val (.int p3), .val (.int p4), .val (.int p5), .val (.int mn), .val (.long ((2147483647 : Int64) - (mn.toInt64))), .second, .val (.int mx), .val (.double sv), .second, .val (.ref a), .val (.int (p3 &&& (7 : Int32))), .unset, .unset, .unset, .unset] [])) (fun _ k => XS.icmpNo X9.here hx rfl (hb hby at_84) rfl (Jvm.Free.XT.ii_ne_f k1) k) ?_
        refine own_st (T' := T9) (g' := (mkF m 89 #[.val (.int p0), .val (.int p1), .val (.int p2), .val (.int p3), .val (.int p4), .val (.int p5), .val (.int mn), .val (.long ((2147483647 : Int64) - (mn.toInt64))), .second, .val (.int mx), .val (.double sv), .second, .val (.ref a), .val (.int (p3 &&& (7 : Int32))), .unset, .unset, .unset, .unset] [(.int mn)])) (fun _ k => XS.iload X9.here hx rfl (hb hby at_87) rfl k) ?_
        refine own_st (T' := T9) (g' := (mkF m 91 #[.val (.int p0), .val (.int p1), .val (.int p2), .val (.int p3), .val (.int p4), .val (.int p5), .val (.int mn), .val (.long ((2147483647 : Int64) - (mn.toInt64))), .second, .val (.int mx), .val (.double sv), .second, .val (.ref a), .val (.int (p3 &&& (7 : Int32))), .val (.int mn), .unset, .unset, .unset] [])) (fun _ k => XS.istore X9.here hx rfl (hb hby at_89) rfl (l' := #[.val (.int p0), .val (.int p1), .val (.int p2), .val (.int p3), .val (.int p4), .val (.int p5), .val (.int mn), .val (.long ((2147483647 : Int64) - (mn.toInt64))), .second, .val (.int mx), .val (.double sv), .second, .val (.ref a), .val (.int (p3 &&& (7 : Int32))), .val (.int mn), .unset, .unset, .unset]) rfl k) ?_
        refine own_st (T' := T9) (g' := (mkF m 187 #[.val (.int p0), .val (.int p1), .val (.int p2), .val (.int p3), .val (.int p4), .val (.int p5), .val (.int mn), .val (.long ((2147483647 : Int64) - (mn.toInt64))), .second, .val (.int mx), .val (.double sv), .second, .val (.ref a), .val (.int (p3 &&& (7 : Int32))), .val (.int mn), .unset, .unset, .unset] [])) (fun _ k => XS.goto X9.here hx rfl (pc0 := 91) (pc' := 187) rfl (hb hby at_91) (by decide) (by decide) k) ?_
        exact J187 _
      · refine own_st (T' := T9) (g' := (mkF m 94 #[.val (.int p0), .val (.int p1), .val (.int p2), .val (.int p3), .val (.int p4), .val (.int p5), .val (.int mn), .val (.long ((2147483647 : Int64) - (mn.toInt64))), .second, .val (.int mx), .val (.double sv), .second, .val (.ref a), .val (.int (p3 &&& (7 : Int32))), .unset, .unset, .unset, .unset] [])) (fun _ k => XS.icmpYes X9.here hx rfl (pc0 := 84) (pc' := 94) rfl (hb hby at_84) rfl (Jvm.Free.XT.ii_ne_t k1) (by decide) (by decide) k) ?_
        refine own_st (T' := T9) (g' := (mkF m 96 #[.val (.int p0), .val (.int p1), .val (.int p2), .val (.int p3), .val (.int p4), .val (.int p5), .val (.int mn), .val (.long ((2147483647 : Int64) - (mn.toInt64))), .second, .val (.int mx), .val (.double sv), .second, .val (.ref a), .val (.int (p3 &&& (7 : Int32))), .unset, .unset, .unset, .unset] [(.int (p3 &&& (7 : Int32)))])) (fun _ k => XS.iload X9.here hx rfl (hb hby at_94) rfl k) ?_
        refine own_st (T' := T9) (g' := (mkF m 97 #[.val (.int p0), .val (.int p1), .val (.int p2), .val (.int p3), .val (.int p4), .val (.int p5), .val (.int mn), .val (.long ((2147483647 : Int64) - (mn.toInt64))), .second, .val (.int mx), .val (.double sv), .second, .val (.ref a), .val (.int (p3 &&& (7 : Int32))), .unset, .unset, .unset, .unset] [(.int (2 : Int32)), (.int (p3 &&& (7 : Int32)))])) (fun _ k => XS.iconst X9.here hx rfl (hb hby at_96) k) ?_
        by_cases k2 : (p3 &&& (7 : Int32)) = (2 : Int32)
        · refine own_st (T' := T9) (g' := (mkF m 100 #[.val (.int p0), .val (.int p1), .val (.int p2), .val (.int p3), .val (.int p4), .val (.int p5), .val (.int mn), .val (.long ((2147483647 : Int64) - (mn.toInt64))), .second, .val (.int mx), .val (.double sv), .second, .val (.ref a), .val (.int (p3 &&& (7 : Int32))), .unset, .unset, .unset, .unset] [])) (fun _ k => XS.icmpNo X9.here hx rfl (hb hby at_97) rfl (Jvm.Free.XT.ii_ne_f k2) k) ?_
          refine own_st (T' := T9) (g' := (mkF m 102 #[.val (.int p0), .val (.int p1), .val (.int p2), .val (.int p3), .val (.int p4), .val (.int p5), .val (.int mn), .val (.long ((2147483647 : Int64) - (mn.toInt64))), .second, .val (.int mx), .val (.double sv), .second, .val (.ref a), .val (.int (p3 &&& (7 : Int32))), .unset, .unset, .unset, .unset] [(.int mx)])) (fun _ k => XS.iload X9.here hx rfl (hb hby at_100) rfl k) ?_
          refine own_st (T' := T9) (g' := (mkF m 104 #[.val (.int p0), .val (.int p1), .val (.int p2), .val (.int p3), .val (.int p4), .val (.int p5), .val (.int mn), .val (.long ((2147483647 : Int64) - (mn.toInt64))), .second, .val (.int mx), .val (.double sv), .second, .val (.ref a), .val (.int (p3 &&& (7 : Int32))), .val (.int mx), .unset, .unset, .unset] [])) (fun _ k => XS.istore X9.here hx rfl (hb hby at_102) rfl (l' := #[.val (.int p0), .val (.int p1), .val (.int p2), .val (.int p3), .val (.int p4), .val (.int p5), .val (.int mn), .val (.long ((2147483647 : Int64) - (mn.toInt64))), .second, .val (.int mx), .val (.double sv), .second, .val (.ref a), .val (.int (p3 &&& (7 : Int32))), .val (.int mx), .unset, .unset, .unset]) rfl k) ?_
          refine own_st (T' := T9) (g' := (mkF m 187 #[.val (.int p0), .val (.int p1), .val (.int p2), .val (.int p3), .val (.int p4), .val (.int p5), .val (.int mn), .val (.long ((2147483647 : Int64) - (mn.toInt64))), .second, .val (.int mx), .val (.double sv), .second, .val (.ref a), .val (.int (p3 &&& (7 : Int32))), .val (.int mx), .unset, .unset, .unset] [])) (fun _ k => XS.goto X9.here hx rfl (pc0 := 104) (pc' := 187) rfl (hb hby at_104) (by decide) (by decide) k) ?_
          exact J187 _
        · refine own_st (T' := T9) (g' := (mkF m 107 #[.val (.int p0), .val (.int p1), .val (.int p2), .val (.int p3), .val (.int p4), .val (.int p5), .val (.int mn), .val (.long ((2147483647 : Int64) - (mn.toInt64))), .second, .val (.int mx), .val (.double sv), .second, .val (.ref a), .val (.int (p3 &&& (7 : Int32))), .unset, .unset, .unset, .unset] [])) (fun _ k => XS.icmpYes X9.here hx rfl (pc0 := 97) (pc' := 107) rfl (hb hby at_97) rfl (Jvm.Free.XT.ii_ne_t k2) (by decide) (by decide) k) ?_
          refine own_st (T' := T9) (g' := (mkF m 109 #[.val (.int p0), .val (.int p1), .val (.int p2), .val (.int p3), .val (.int p4), .val (.int p5), .val (.int mn), .val (.long ((2147483647 : Int64) - (mn.toInt64))), .second, .val (.int mx), .val (.double sv), .second, .val (.ref a), .val (.int (p3 &&& (7 : Int32))), .unset, .unset, .unset, .unset] [(.int (p3 &&& (7 : Int32)))])) (fun _ k => XS.iload X9.here hx rfl (hb hby at_107) rfl k) ?_
          refine own_st (T' := T9) (g' := (mkF m 110 #[.val (.int p0), .val (.int p1), .val (.int p2), .val (.int p3), .val (.int p4), .val (.int p5), .val (.int mn), .val (.long ((2147483647 : Int64) - (mn.toInt64))), .second, .val (.int mx), .val (.double sv), .second, .val (.ref a), .val (.int (p3 &&& (7 : Int32))), .unset, .unset, .unset, .unset] [(.int (3 : Int32)), (.int (p3 &&& (7 : Int32)))])) (fun _ k => XS.iconst X9.here hx rfl (hb hby at_109) k) ?_
          by_cases k3 : (p3 &&& (7 : Int32)) = (3 : Int32)
          · refine own_st (T' := T9) (g' := (mkF m 113 #[.val (.int p0), .val (.int p1), .val (.int p2), .val (.int p3), .val (.int p4), .val (.int p5), .val (.int mn), .val (.long ((2147483647 : Int64) - (mn.toInt64))), .second, .val (.int mx), .val (.double sv), .second, .val (.ref a), .val (.int (p3 &&& (7 : Int32))), .unset, .unset, .unset, .unset] [])) (fun _ k => XS.icmpNo X9.here hx rfl (hb hby at_110) rfl (Jvm.Free.XT.ii_ne_f k3) k) ?_
            refine own_st (T' := T9) (g' := (mkF m 115 #[.val (.int p0), .val (.int p1), .val (.int p2), .val (.int p3), .val (.int p4), .val (.int p5), .val (.int mn), .val (.long ((2147483647 : Int64) - (mn.toInt64))), .second, .val (.int mx), .val (.double sv), .second, .val (.ref a), .val (.int (p3 &&& (7 : Int32))), .unset, .unset, .unset, .unset] [(.int mn)])) (fun _ k => XS.iload X9.here hx rfl (hb hby at_113) rfl k) ?_
            refine own_st (T' := T9) (g' := (mkF m 116 #[.val (.int p0), .val (.int p1), .val (.int p2), .val (.int p3), .val (.int p4), .val (.int p5), .val (.int mn), .val (.long ((2147483647 : Int64) - (mn.toInt64))), .second, .val (.int mx), .val (.double sv), .second, .val (.ref a), .val (.int (p3 &&& (7 : Int32))), .unset, .unset, .unset, .unset] [(.int (1 : Int32)), (.int mn)])) (fun _ k => XS.iconst X9.here hx rfl (hb hby at_115) k) ?_
            refine own_st (T' := T9) (g' := (mkF m 117 #[.val (.int p0), .val (.int p1), .val (.int p2), .val (.int p3), .val (.int p4), .val (.int p5), .val (.int mn), .val (.long ((2147483647 : Int64) - (mn.toInt64))), .second, .val (.int mx), .val (.double sv), .second, .val (.ref a), .val (.int (p3 &&& (7 : Int32))), .unset, .unset, .unset, .unset] [(.int (mn - (1 : Int32)))])) (fun _ k => XS.isub X9.here hx rfl (hb hby at_116) rfl k) ?_
            refine own_st (T' := T9) (g' := (mkF m 119 #[.val (.int p0), .val (.int p1), .val (.int p2), .val (.int p3), .val (.int p4), .val (.int p5), .val (.int mn), .val (.long ((2147483647 : Int64) - (mn.toInt64))), .second, .val (.int mx), .val (.double sv), .second, .val (.ref a), .val (.int (p3 &&& (7 : Int32))), .val (.int (mn - (1 : Int32))), .unset, .unset, .unset] [])) (fun _ k => XS.istore X9.here hx rfl (hb hby at_117) rfl (l' := #[.val (.int p0), .val (.int p1), .val (.int p2), .val (.int p3), .val (.int p4), .val (.int p5), .val (.int mn), .val (.long ((2147483647 : Int64) - (mn.toInt64))), .second, .val (.int mx), .val (.double sv), .second, .val (.ref a), .val (.int (p3 &&& (7 : Int32))), .val (.int (mn - (1 : Int32))), .unset, .unset, .unset]) rfl k) ?_
            refine own_st (T' := T9) (g' := (mkF m 187 #[.val (.int p0), .val (.int p1), .val (.int p2), .val (.int p3), .val (.int p4), .val (.int p5), .val (.int mn), .val (.long ((2147483647 : Int64) - (mn.toInt64))), .second, .val (.int mx), .val (.double sv), .second, .val (.ref a), .val (.int (p3 &&& (7 : Int32))), .val (.int (mn - (1 : Int32))), .unset, .unset, .unset] [])) (fun _ k => XS.goto X9.here hx rfl (pc0 := 119) (pc' := 187) rfl (hb hby at_119) (by decide) (by decide) k) ?_
            exact J187 _
          · refine own_st (T' := T9) (g' := (mkF m 122 #[.val (.int p0), .val (.int p1), .val (.int p2), .val (.int p3), .val (.int p4), .val (.int p5), .val (.int mn), .val (.long ((2147483647 : Int64) - (mn.toInt64))), .second, .val (.int mx), .val (.double sv), .second, .val (.ref a), .val (.int (p3 &&& (7 : Int32))), .unset, .unset, .unset, .unset] [])) (fun _ k => XS.icmpYes X9.here hx rfl (pc0 := 110) (pc' := 122) rfl (hb hby at_110) rfl (Jvm.Free.XT.ii_ne_t k3) (by decide) (by decide) k) ?_
            refine own_st (T' := T9) (g' := (mkF m 124 #[.val (.int p0), .val (.int p1), .val (.int p2), .val (.int p3), .val (.int p4), .val (.int p5), .val (.int mn), .val (.long ((2147483647 : Int64) - (mn.toInt64))), .second, .val (.int mx), .val (.double sv), .second, .val (.ref a), .val (.int (p3 &&& (7 : Int32))), .unset, .unset, .unset, .unset] [(.int (p3 &&& (7 : Int32)))])) (fun _ k => XS.iload X9.here hx rfl (hb hby at_122) rfl k) ?_
            refine own_st (T' := T9) (g' := (mkF m 125 #[.val (.int p0), .val (.int p1), .val (.int p2), .val (.int p3), .val (.int p4), .val (.int p5), .val (.int mn), .val (.long ((2147483647 : Int64) - (mn.toInt64))), .second, .val (.int mx), .val (.double sv), .second, .val (.ref a), .val (.int (p3 &&& (7 : Int32))), .unset, .unset, .unset, .unset] [(.int (4 : Int32)), (.int (p3 &&& (7 : Int32)))])) (fun _ k => XS.iconst X9.here hx rfl (hb hby at_124) k) ?_
            by_cases k4 : (p3 &&& (7 : Int32)) = (4 : Int32)
            · refine own_st (T' := T9) (g' := (mkF m 128 #[.val (.int p0), .val (.int p1), .val (.int p2), .val (.int p3), .val (.int p4), .val (.int p5), .val (.int mn), .val (.long ((2147483647 : Int64) - (mn.toInt64))), .second, .val (.int mx), .val (.double sv), .second, .val (.ref a), .val (.int (p3 &&& (7 : Int32))), .unset, .unset, .unset, .unset] [])) (fun _ k => XS.icmpNo X9.here hx rfl (hb hby at_125) rfl (Jvm.Free.XT.ii_ne_f k4) k) ?_
              refine own_st (T' := T9) (g' := (mkF m 130 #[.val (.int p0), .val (.int p1), .val (.int p2), .val (.int p3), .val (.int p4), .val (.int p5), .val (.int mn), .val (.long ((2147483647 : Int64) - (mn.toInt64))), .second, .val (.int mx), .val (.double sv), .second, .val (.ref a), .val (.int (p3 &&& (7 : Int32))), .unset, .unset, .unset, .unset] [(.int mx)])) (fun _ k => XS.iload X9.here hx rfl (hb hby at_128) rfl k) ?_
              refine own_st (T' := T9) (g' := (mkF m 131 #[.val (.int p0), .val (.int p1), .val (.int p2), .val (.int p3), .val (.int p4), .val (.int p5), .val (.int mn), .val (.long ((2147483647 : Int64) - (mn.toInt64))), .second, .val (.int mx), .val (.double sv), .second, .val (.ref a), .val (.int (p3 &&& (7 : Int32))), .unset, .unset, .unset, .unset] [(.int (1 : Int32)), (.int mx)])) (fun _ k => XS.iconst X9.here hx rfl (hb hby at_130) k) ?_
              refine own_st (T' := T9) (g' := (mkF m 132 #[.val (.int p0), .val (.int p1), .val (.int p2), .val (.int p3), .val (.int p4), .val (.int p5), .val (.int mn), .val (.long ((2147483647 : Int64) - (mn.toInt64))), .second, .val (.int mx), .val (.double sv), .second, .val (.ref a), .val (.int (p3 &&& (7 : Int32))), .unset, .unset, .unset, .unset] [(.int (mx + (1 : Int32)))])) (fun _ k => XS.iadd X9.here hx rfl (hb hby at_131) rfl k) ?_
              refine own_st (T' := T9) (g' := (mkF m 134 #[.val (.int p0), .val (.int p1), .val (.int p2), .val (.int p3), .val (.int p4), .val (.int p5), .val (.int mn), .val (.long ((2147483647 : Int64) - (mn.toInt64))), .second, .val (.int mx), .val (.double sv), .second, .val (.ref a), .val (.int (p3 &&& (7 : Int32))), .val (.int (mx + (1 : Int32))), .unset, .unset, .unset] [])) (fun _ k => XS.istore X9.here hx rfl (hb hby at_132) rfl (l' := #[.val (.int p0), .val (.int p1), .val (.int p2), .val (.int p3), .val (.int p4), .val (.int p5), .val (.int mn), .val (.long ((2147483647 : Int64) - (mn.toInt64))), .second, .val (.int mx), .val (.double sv), .second, .val (.ref a), .val (.int (p3 &&& (7 : Int32))), .val (.int (mx + (1 : Int32))), .unset, .unset, .unset]) rfl k) ?_
              refine own_st (T' := T9) (g' := (mkF m 187 #[.val (.int p0), .val (.int p1), .val (.int p2), .val (.int p3), .val (.int p4), .val (.int p5), .val (.int mn), .val (.long ((2147483647 : Int64) - (mn.toInt64))), .second, .val (.int mx), .val (.double sv), .second, .val (.ref a), .val (.int (p3 &&& (7 : Int32))), .val (.int (mx + (1 : Int32))), .unset, .unset, .unset] [])) (fun _ k => XS.goto X9.here hx rfl (pc0 := 134) (pc' := 187) rfl (hb hby at_134) (by decide) (by decide) k) ?_
              exact J187 _
            · refine own_st (T' := T9) (g' := (mkF m 137 #[.val (.int p0), .val (.int p1), .val (.int p2), .val (.int p3), .val (.int p4), .val (.int p5), .val (.int mn), .val (.long ((2147483647 : Int64) - (mn.toInt64))), .second, .val (.int mx), .val (.double sv), .second, .val (.ref a), .val (.int (p3 &&& (7 : Int32))), .unset, .unset, .unset, .unset] [])) (fun _ k => XS.icmpYes X9.here hx rfl (pc0 := 125) (pc' := 137) rfl (hb hby at_125) rfl (Jvm.Free.XT.ii_ne_t k4) (by decide) (by decide) k) ?_
              refine own_st (T' := T9) (g' := (mkF m 139 #[.val (.int p0), .val (.int p1), .val (.int p2), .val (.int p3), .val (.int p4), .val (.int p5), .val (.int mn), .val (.long ((2147483647 : Int64) - (mn.toInt64))), .second, .val (.int mx), .val (.double sv), .second, .val (.ref a), .val (.int (p3 &&& (7 : Int32))), .unset, .unset, .unset, .unset] [(.int (p3 &&& (7 : Int32)))])) (fun _ k => XS.iload X9.here hx rfl (hb hby at_137) rfl k) ?_
              refine own_st (T' := T9) (g' := (mkF m 140 #[.val (.int p0), .val (.int p1), .val (.int p2), .val (.int p3), .val (.int p4), .val (.int p5), .val (.int mn), .val (.long ((2147483647 : Int64) - (mn.toInt64))), .second, .val (.int mx), .val (.double sv), .second, .val (.ref a), .val (.int (p3 &&& (7 : Int32))), .unset, .unset, .unset, .unset] [(.int (5 : Int32)), (.int (p3 &&& (7 : Int32)))])) (fun _ k => XS.iconst X9.here hx rfl (hb hby at_139) k) ?_
              by_cases k5 : (p3 &&& (7 : Int32)) = (5 : Int32)
              · refine own_st (T' := T9) (g' := (mkF m 143 #[.val (.int p0), .val (.int p1), .val (.int p2), .val (.int p3), .val (.int p4), .val (.int p5), .val (.int mn), .val (.long ((2147483647 : Int64) - (mn.toInt64))), .second, .val (.int mx), .val (.double sv), .second, .val (.ref a), .val (.int (p3 &&& (7 : Int32))), .unset, .unset, .unset, .unset] [])) (fun _ k => XS.icmpNo X9.here hx rfl (hb hby at_140) rfl (Jvm.Free.XT.ii_ne_f k5) k) ?_
                refine own_st (T' := T9) (g' := (mkF m 145 #[.val (.int p0), .val (.int p1), .val (.int p2), .val (.int p3), .val (.int p4), .val (.int p5), .val (.int mn), .val (.long ((2147483647 : Int64) - (mn.toInt64))), .second, .val (.int mx), .val (.double sv), .second, .val (.ref a), .val (.int (p3 &&& (7 : Int32))), .unset, .unset, .unset, .unset] [(.int mn)])) (fun _ k => XS.iload X9.here hx rfl (hb hby at_143) rfl k) ?_
                refine own_st (T' := T9) (g' := (mkF m 147 #[.val (.int p0), .val (.int p1), .val (.int p2), .val (.int p3), .val (.int p4), .val (.int p5), .val (.int mn), .val (.long ((2147483647 : Int64) - (mn.toInt64))), .second, .val (.int mx), .val (.double sv), .second, .val (.ref a), .val (.int (p3 &&& (7 : Int32))), .unset, .unset, .unset, .unset] [(.int p4), (.int mn)])) (fun _ k => XS.iload X9.here hx rfl (hb hby at_145) rfl k) ?_
                refine own_st (T' := T9) (g' := (mkF m 148 #[.val (.int p0), .val (.int p1), .val (.int p2), .val (.int p3), .val (.int p4), .val (.int p5), .val (.int mn), .val (.long ((2147483647 : Int64) - (mn.toInt64))), .second, .val (.int mx), .val (.double sv), .second, .val (.ref a), .val (.int (p3 &&& (7 : Int32))), .unset, .unset, .unset, .unset] [(.long (p4.toInt64)), (.int mn)])) (fun _ k => XS.i2l X9.here hx rfl (hb hby at_147) rfl k) ?_
                refine own_st (T' := T9) (g' := (mkF m 151 #[.val (.int p0), .val (.int p1), .val (.int p2), .val (.int p3), .val (.int p4), .val (.int p5), .val (.int mn), .val (.long ((2147483647 : Int64) - (mn.toInt64))), .second, .val (.int mx), .val (.double sv), .second, .val (.ref a), .val (.int (p3 &&& (7 : Int32))), .unset, .unset, .unset, .unset] [(.long (4294967295 : Int64)), (.long (p4.toInt64)), (.int mn)])) (X9.ldc2Long hx hown (mvT hZ (hw _ (List.mem_of_getElem? (i := 6) rfl))) (g := (mkF m 148 #[.val (.int p0), .val (.int p1), .val (.int p2), .val (.int p3), .val (.int p4), .val (.int p5), .val (.int mn), .val (.long ((2147483647 : Int64) - (mn.toInt64))), .second, .val (.int mx), .val (.double sv), .second, .val (.ref a), .val (.int (p3 &&& (7 : Int32))), .unset, .unset, .unset, .unset] [(.long (p4.toInt64)), (.int mn)])) rfl (hb hby at_148)) ?_
                refine own_st (T' := T9) (g' := (mkF m 152 #[.val (.int p0), .val (.int p1), .val (.int p2), .val (.int p3), .val (.int p4), .val (.int p5), .val (.int mn), .val (.long ((2147483647 : Int64) - (mn.toInt64))), .second, .val (.int mx), .val (.double sv), .second, .val (.ref a), .val (.int (p3 &&& (7 : Int32))), .unset, .unset, .unset, .unset] [(.long ((p4.toInt64) &&& (4294967295 : Int64))), (.int mn)])) (fun _ k => XS.land X9.here hx rfl (hb hby at_151) rfl k) ?_
                refine own_st (T' := T9) (g' := (mkF m 154 #[.val (.int p0), .val (.int p1), .val (.int p2), .val (.int p3), .val (.int p4), .val (.int p5), .val (.int mn), .val (.long ((2147483647 : Int64) - (mn.toInt64))), .second, .val (.int mx), .val (.double sv), .second, .val (.ref a), .val (.int (p3 &&& (7 : Int32))), .unset, .unset, .unset, .unset] [(.int mx), (.long ((p4.toInt64) &&& (4294967295 : Int64))), (.int mn)])) (fun _ k => XS.iload X9.here hx rfl (hb hby at_152) rfl k) ?_
                refine own_st (T' := T9) (g' := (mkF m 155 #[.val (.int p0), .val (.int p1), .val (.int p2), .val (.int p3), .val (.int p4), .val (.int p5), .val (.int mn), .val (.long ((2147483647 : Int64) - (mn.toInt64))), .second, .val (.int mx), .val (.double sv), .second, .val (.ref a), .val (.int (p3 &&& (7 : Int32))), .unset, .unset, .unset, .unset] [(.long (mx.toInt64)), (.long ((p4.toInt64) &&& (4294967295 : Int64))), (.int mn)])) (fun _ k => XS.i2l X9.here hx rfl (hb hby at_154) rfl k) ?_
                refine own_st (T' := T9) (g' := (mkF m 157 #[.val (.int p0), .val (.int p1), .val (.int p2), .val (.int p3), .val (.int p4), .val (.int p5), .val (.int mn), .val (.long ((2147483647 : Int64) - (mn.toInt64))), .second, .val (.int mx), .val (.double sv), .second, .val (.ref a), .val (.int (p3 &&& (7 : Int32))), .unset, .unset, .unset, .unset] [(.int mn), (.long (mx.toInt64)), (.long ((p4.toInt64) &&& (4294967295 : Int64))), (.int mn)])) (fun _ k => XS.iload X9.here hx rfl (hb hby at_155) rfl k) ?_
                refine own_st (T' := T9) (g' := (mkF m 158 #[.val (.int p0), .val (.int p1), .val (.int p2), .val (.int p3), .val (.int p4), .val (.int p5), .val (.int mn), .val (.long ((2147483647 : Int64) - (mn.toInt64))), .second, .val (.int mx), .val (.double sv), .second, .val (.ref a), .val (.int (p3 &&& (7 : Int32))), .unset, .unset, .unset, .unset] [(.long (mn.toInt64)), (.long (mx.toInt64)), (.long ((p4.toInt64) &&& (4294967295 : Int64))), (.int mn)])) (fun _ k => XS.i2l X9.here hx rfl (hb hby at_157) rfl k) ?_
                refine own_st (T' := T9) (g' := (mkF m 159 #[.val (.int p0), .val (.int p1), .val (.int p2), .val (.int p3), .val (.int p4), .val (.int p5), .val (.int mn), .val (.long ((2147483647 : Int64) - (mn.toInt64))), .second, .val (.int mx), .val (.double sv), .second, .val (.ref a), .val (.int (p3 &&& (7 : Int32))), .unset, .unset, .unset, .unset] [(.long ((mx.toInt64) - (mn.toInt64))), (.long ((p4.toInt64) &&& (4294967295 : Int64))), (.int mn)])) (fun _ k => XS.lsub X9.here hx rfl (hb hby at_158) rfl k) ?_
                refine own_st (T' := T9) (g' := (mkF m 160 #[.val (.int p0), .val (.int p1), .val (.int p2), .val (.int p3), .val (.int p4), .val (.int p5), .val (.int mn), .val (.long ((2147483647 : Int64) - (mn.toInt64))), .second, .val (.int mx), .val (.double sv), .second, .val (.ref a), .val (.int (p3 &&& (7 : Int32))), .unset, .unset, .unset, .unset] [(.long (1 : Int64)), (.long ((mx.toInt64) - (mn.toInt64))), (.long ((p4.toInt64) &&& (4294967295 : Int64))), (.int mn)])) (fun _ k => XS.lconst X9.here hx rfl (hb hby at_159) k) ?_
                refine own_st (T' := T9) (g' := (mkF m 161 #[.val (.int p0), .val (.int p1), .val (.int p2), .val (.int p3), .val (.int p4), .val (.int p5), .val (.int mn), .val (.long ((2147483647 : Int64) - (mn.toInt64))), .second, .val (.int mx), .val (.double sv), .second, .val (.ref a), .val (.int (p3 &&& (7 : Int32))), .unset, .unset, .unset, .unset] [(.long (((mx.toInt64) - (mn.toInt64)) + (1 : Int64))), (.long ((p4.toInt64) &&& (4294967295 : Int64))), (.int mn)])) (fun _ k => XS.ladd X9.here hx rfl (hb hby at_160) rfl k) ?_
                refine own_st (T' := T9) (g' := (mkF m 162 #[.val (.int p0), .val (.int p1), .val (.int p2), .val (.int p3), .val (.int p4), .val (.int p5), .val (.int mn), .val (.long ((2147483647 : Int64) - (mn.toInt64))), .second, .val (.int mx), .val (.double sv), .second, .val (.ref a), .val (.int (p3 &&& (7 : Int32))), .unset, .unset, .unset, .unset] [(.long (((p4.toInt64) &&& (4294967295 : Int64)) - (((p4.toInt64) &&& (4294967295 : Int64)) / (((mx.toInt64) - (mn.toInt64)) + (1 : Int64))) * (((mx.toInt64) - (mn.toInt64)) + (1 : Int64)))), (.int mn)])) (fun _ k => XS.lrem X9.here hx rfl (hb hby at_161) rfl (own_div mn mx hmm) k) ?_
                refine own_st (T' := T9) (g' := (mkF m 163 #[.val (.int p0), .val (.int p1), .val (.int p2), .val (.int p3), .val (.int p4), .val (.int p5), .val (.int mn), .val (.long ((2147483647 : Int64) - (mn.toInt64))), .second, .val (.int mx), .val (.double sv), .second, .val (.ref a), .val (.int (p3 &&& (7 : Int32))), .unset, .unset, .unset, .unset] [(.int ((((p4.toInt64) &&& (4294967295 : Int64)) - (((p4.toInt64) &&& (4294967295 : Int64)) / (((mx.toInt64) - (mn.toInt64)) + (1 : Int64))) * (((mx.toInt64) - (mn.toInt64)) + (1 : Int64))).toInt32)), (.int mn)])) (fun _ k => XS.l2i X9.here hx rfl (hb hby at_162) rfl k) ?_
                refine own_st (T' := T9) (g' := (mkF m 164 #[.val (.int p0), .val (.int p1), .val (.int p2), .val (.int p3), .val (.int p4), .val (.int p5), .val (.int mn), .val (.long ((2147483647 : Int64) - (mn.toInt64))), .second, .val (.int mx), .val (.double sv), .second, .val (.ref a), .val (.int (p3 &&& (7 : Int32))), .unset, .unset, .unset, .unset] [(.int (mn + ((((p4.toInt64) &&& (4294967295 : Int64)) - (((p4.toInt64) &&& (4294967295 : Int64)) / (((mx.toInt64) - (mn.toInt64)) + (1 : Int64))) * (((mx.toInt64) - (mn.toInt64)) + (1 : Int64))).toInt32)))])) (fun _ k => XS.iadd X9.here hx rfl (hb hby at_163) rfl k) ?_
                refine own_st (T' := T9) (g' := (mkF m 166 #[.val (.int p0), .val (.int p1), .val (.int p2), .val (.int p3), .val (.int p4), .val (.int p5), .val (.int mn), .val (.long ((2147483647 : Int64) - (mn.toInt64))), .second, .val (.int mx), .val (.double sv), .second, .val (.ref a), .val (.int (p3 &&& (7 : Int32))), .val (.int (mn + ((((p4.toInt64) &&& (4294967295 : Int64)) - (((p4.toInt64) &&& (4294967295 : Int64)) / (((mx.toInt64) - (mn.toInt64)) + (1 : Int64))) * (((mx.toInt64) - (mn.toInt64)) + (1 : Int64))).toInt32))), .unset, .unset, .unset] [])) (fun _ k => XS.istore X9.here hx rfl (hb hby at_164) rfl (l' := #[.val (.int p0), .val (.int p1), .val (.int p2), .val (.int p3), .val (.int p4), .val (.int p5), .val (.int mn), .val (.long ((2147483647 : Int64) - (mn.toInt64))), .second, .val (.int mx), .val (.double sv), .second, .val (.ref a), .val (.int (p3 &&& (7 : Int32))), .val (.int (mn + ((((p4.toInt64) &&& (4294967295 : Int64)) - (((p4.toInt64) &&& (4294967295 : Int64)) / (((mx.toInt64) - (mn.toInt64)) + (1 : Int64))) * (((mx.toInt64) - (mn.toInt64)) + (1 : Int64))).toInt32))), .unset, .unset, .unset]) rfl k) ?_
                refine own_st (T' := T9) (g' := (mkF m 187 #[.val (.int p0), .val (.int p1), .val (.int p2), .val (.int p3), .val (.int p4), .val (.int p5), .val (.int mn), .val (.long ((2147483647 : Int64) - (mn.toInt64))), .second, .val (.int mx), .val (.double sv), .second, .val (.ref a), .val (.int (p3 &&& (7 : Int32))), .val (.int (mn + ((((p4.toInt64) &&& (4294967295 : Int64)) - (((p4.toInt64) &&& (4294967295 : Int64)) / (((mx.toInt64) - (mn.toInt64)) + (1 : Int64))) * (((mx.toInt64) - (mn.toInt64)) + (1 : Int64))).toInt32))), .unset, .unset, .unset] [])) (fun _ k => XS.goto X9.here hx rfl (pc0 := 166) (pc' := 187) rfl (hb hby at_166) (by decide) (by decide) k) ?_
                exact J187 _
              · refine own_st (T' := T9) (g' := (mkF m 169 #[.val (.int p0), .val (.int p1), .val (.int p2), .val (.int p3), .val (.int p4), .val (.int p5), .val (.int mn), .val (.long ((2147483647 : Int64) - (mn.toInt64))), .second, .val (.int mx), .val (.double sv), .second, .val (.ref a), .val (.int (p3 &&& (7 : Int32))), .unset, .unset, .unset, .unset] [])) (fun _ k => XS.icmpYes X9.here hx rfl (pc0 := 140) (pc' := 169) rfl (hb hby at_140) rfl (Jvm.Free.XT.ii_ne_t k5) (by decide) (by decide) k) ?_
                refine own_st (T' := T9) (g' := (mkF m 171 #[.val (.int p0), .val (.int p1), .val (.int p2), .val (.int p3), .val (.int p4), .val (.int p5), .val (.int mn), .val (.long ((2147483647 : Int64) - (mn.toInt64))), .second, .val (.int mx), .val (.double sv), .second, .val (.ref a), .val (.int (p3 &&& (7 : Int32))), .unset, .unset, .unset, .unset] [(.int (p3 &&& (7 : Int32)))])) (fun _ k => XS.iload X9.here hx rfl (hb hby at_169) rfl k) ?_
                refine own_st (T' := T9) (g' := (mkF m 173 #[.val (.int p0), .val (.int p1), .val (.int p2), .val (.int p3), .val (.int p4), .val (.int p5), .val (.int mn), .val (.long ((2147483647 : Int64) - (mn.toInt64))), .second, .val (.int mx), .val (.double sv), .second, .val (.ref a), .val (.int (p3 &&& (7 : Int32))), .unset, .unset, .unset, .unset] [(.int (6 : Int32)), (.int (p3 &&& (7 : Int32)))])) (fun _ k => XS.bipush X9.here hx rfl (hb hby at_171) k) ?_
                by_cases k6 : (p3 &&& (7 : Int32)) = (6 : Int32)
                · refine own_st (T' := T9) (g' := (mkF m 176 #[.val (.int p0), .val (.int p1), .val (.int p2), .val (.int p3), .val (.int p4), .val (.int p5), .val (.int mn), .val (.long ((2147483647 : Int64) - (mn.toInt64))), .second, .val (.int mx), .val (.double sv), .second, .val (.ref a), .val (.int (p3 &&& (7 : Int32))), .unset, .unset, .unset, .unset] [])) (fun _ k => XS.icmpNo X9.here hx rfl (hb hby at_173) rfl (Jvm.Free.XT.ii_ne_f k6) k) ?_
                  refine own_st (T' := T9) (g' := (mkF m 178 #[.val (.int p0), .val (.int p1), .val (.int p2), .val (.int p3), .val (.int p4), .val (.int p5), .val (.int mn), .val (.long ((2147483647 : Int64) - (mn.toInt64))), .second, .val (.int mx), .val (.double sv), .second, .val (.ref a), .val (.int (p3 &&& (7 : Int32))), .unset, .unset, .unset, .unset] [(.int (-2147483648 : Int32))])) (X9.ldcInt hx hown (mvT hZ (hw _ (List.mem_of_getElem? (i := 28) rfl))) (g := (mkF m 176 #[.val (.int p0), .val (.int p1), .val (.int p2), .val (.int p3), .val (.int p4), .val (.int p5), .val (.int mn), .val (.long ((2147483647 : Int64) - (mn.toInt64))), .second, .val (.int mx), .val (.double sv), .second, .val (.ref a), .val (.int (p3 &&& (7 : Int32))), .unset, .unset, .unset, .unset] [])) rfl (hb hby at_176)) ?_
                  refine own_st (T' := T9) (g' := (mkF m 180 #[.val (.int p0), .val (.int p1), .val (.int p2), .val (.int p3), .val (.int p4), .val (.int p5), .val (.int mn), .val (.long ((2147483647 : Int64) - (mn.toInt64))), .second, .val (.int mx), .val (.double sv), .second, .val (.ref a), .val (.int (p3 &&& (7 : Int32))), .val (.int (-2147483648 : Int32)), .unset, .unset, .unset] [])) (fun _ k => XS.istore X9.here hx rfl (hb hby at_178) rfl (l' := #[.val (.int p0), .val (.int p1), .val (.int p2), .val (.int p3), .val (.int p4), .val (.int p5), .val (.int mn), .val (.long ((2147483647 : Int64) - (mn.toInt64))), .second, .val (.int mx), .val (.double sv), .second, .val (.ref a), .val (.int (p3 &&& (7 : Int32))), .val (.int (-2147483648 : Int32)), .unset, .unset, .unset]) rfl k) ?_
                  refine own_st (T' := T9) (g' := (mkF m 187 #[.val (.int p0), .val (.int p1), .val (.int p2), .val (.int p3), .val (.int p4), .val (.int p5), .val (.int mn), .val (.long ((2147483647 : Int64) - (mn.toInt64))), .second, .val (.int mx), .val (.double sv), .second, .val (.ref a), .val (.int (p3 &&& (7 : Int32))), .val (.int (-2147483648 : Int32)), .unset, .unset, .unset] [])) (fun _ k => XS.goto X9.here hx rfl (pc0 := 180) (pc' := 187) rfl (hb hby at_180) (by decide) (by decide) k) ?_
                  exact J187 _
                · refine own_st (T' := T9) (g' := (mkF m 183 #[.val (.int p0), .val (.int p1), .val (.int p2), .val (.int p3), .val (.int p4), .val (.int p5), .val (.int mn), .val (.long ((2147483647 : Int64) - (mn.toInt64))), .second, .val (.int mx), .val (.double sv), .second, .val (.ref a), .val (.int (p3 &&& (7 : Int32))), .unset, .unset, .unset, .unset] [])) (fun _ k => XS.icmpYes X9.here hx rfl (pc0 := 173) (pc' := 183) rfl (hb hby at_173) rfl (Jvm.Free.XT.ii_ne_t k6) (by decide) (by decide) k) ?_
                  refine own_st (T' := T9) (g' := (mkF m 185 #[.val (.int p0), .val (.int p1), .val (.int p2), .val (.int p3), .val (.int p4), .val (.int p5), .val (.int mn), .val (.long ((2147483647 : Int64) - (mn.toInt64))), .second, .val (.int mx), .val (.double sv), .second, .val (.ref a), .val (.int (p3 &&& (7 : Int32))), .unset, .unset, .unset, .unset] [(.int (2147483647 : Int32))])) (X9.ldcInt hx hown (mvT hZ (hw _ (List.mem_of_getElem? (i := 0) rfl))) (g := (mkF m 183 #[.val (.int p0), .val (.int p1), .val (.int p2), .val (.int p3), .val (.int p4), .val (.int p5), .val (.int mn), .val (.long ((2147483647 : Int64) - (mn.toInt64))), .second, .val (.int mx), .val (.double sv), .second, .val (.ref a), .val (.int (p3 &&& (7 : Int32))), .unset, .unset, .unset, .unset] [])) rfl (hb hby at_183)) ?_
                  refine own_st (T' := T9) (g' := (mkF m 187 #[.val (.int p0), .val (.int p1), .val (.int p2), .val (.int p3), .val (.int p4), .val (.int p5), .val (.int mn), .val (.long ((2147483647 : Int64) - (mn.toInt64))), .second, .val (.int mx), .val (.double sv), .second, .val (.ref a), .val (.int (p3 &&& (7 : Int32))), .val (.int (2147483647 : Int32)), .unset, .unset, .unset] [])) (fun _ k => XS.istore X9.here hx rfl (hb hby at_185) rfl (l' := #[.val (.int p0), .val (.int p1), .val (.int p2), .val (.int p3), .val (.int p4), .val (.int p5), .val (.int mn), .val (.long ((2147483647 : Int64) - (mn.toInt64))), .second, .val (.int mx), .val (.double sv), .second, .val (.ref a), .val (.int (p3 &&& (7 : Int32))), .val (.int (2147483647 : Int32)), .unset, .unset, .unset]) rfl k) ?_
                  exact J187 _
  exact J36 _ hmx
set_option maxRecDepth 65536 in
set_option maxHeartbeats 40000000 in
theorem comes_1 {Post : Tables → Env → Array Value → State → Outcome → State → Prop} (hpost : ∀ tb e args s v u, (limb_1_1.after args s (.returned v) u = true ∧ limb_1_2.after args s (.returned v) u = true ∧ True) → FrameEnd s (.returned v) u (Jvm.fieldLocs frame_1_writes args s ++ Jvm.arrayLocs frame_1_arrays args s ++ Jvm.staticLocs frame_1_statics s) 16 128 → Post tb e args s (.returned v) u) :
    ArmFor flags0 classFile x code maxLocals ret World_1 tables_1 room_1 Calls_1 rest_1 Pre_1 Post := by
  intro l hfl _ _ p e ha hc hk s m args below hf hA hF happ hP
  obtain ⟨hcalls, hrest, hpre⟩ := hP
  obtain ⟨-, -, -, hnamed, -, -, -, hat⟩ := (Spec.applies_iff hf).mp happ
  obtain ⟨hg, hn⟩ := and_e (Cond.before_iff.mp (show (Jvm.Cond.and given_1 narrow_1).before args s = true from hpre))
  obtain ⟨hcount, r0⟩ := and_e hg
  obtain ⟨hk0, r1⟩ := and_e r0
  obtain ⟨hk1, r2⟩ := and_e r1
  obtain ⟨hk2, r3⟩ := and_e r2
  obtain ⟨hk3, r4⟩ := and_e r3
  obtain ⟨hk4, r5⟩ := and_e r4
  have hk5 := r5
  obtain ⟨w0, w1, w2, w3, w4, w5, rfl⟩ : ∃ w0 w1 w2 w3 w4 w5 : Value, args = #[w0, w1, w2, w3, w4, w5] := by
    have hs : args.size = 6 := by simpa [Cond.value, given_1] using hcount
    obtain ⟨L⟩ := args
    match L, hs with
    | [w0, w1, w2, w3, w4, w5], _ => exact ⟨w0, w1, w2, w3, w4, w5, rfl⟩
  have hw := fun d (hd : d ∈ tables_1) => atoms_spec (ws := Jvm.Cond.code x code maxLocals ret :: tables_1) hat d (List.mem_cons_of_mem _ hd)
  have hfit : Fit s := fun {y c} hc i hi => by
    obtain ⟨ha, rfl⟩ := Array.getElem?_eq_some_iff.mp hc
    have q := List.all_eq_true.mp ((Array.all_eq_true_iff_forall_mem.mp hF) _ (Array.getElem_mem ha)) i (List.mem_range.mpr hi)
    simpa [Array.getElem?_eq_getElem hi] using q
  obtain ⟨i0, ei0⟩ := is_v hk0
  obtain rfl : w0 = (.int i0) := Option.some.inj ei0
  obtain ⟨i1, ei1⟩ := is_v hk1
  obtain rfl : w1 = (.int i1) := Option.some.inj ei1
  obtain ⟨i2, ei2⟩ := is_v hk2
  obtain rfl : w2 = (.int i2) := Option.some.inj ei2
  obtain ⟨i3, ei3⟩ := is_v hk3
  obtain rfl : w3 = (.int i3) := Option.some.inj ei3
  obtain ⟨i4, ei4⟩ := is_v hk4
  obtain rfl : w4 = (.int i4) := Option.some.inj ei4
  obtain ⟨i5, ei5⟩ := is_v hk5
  obtain rfl : w5 = (.int i5) := Option.some.inj ei5
  obtain ⟨n, o, h1, h2, h3, _, L, rfl, ⟨rfl, N⟩, hq⟩ := own_law l s _ hw tables_1 i0 i1 i2 i3 i4 i5 s.heap s.heap.size (Nat.le_refl _) p e ha hc hk s m _ below hf ((Spec.applies_iff_loose hf).mp happ).1 ⟨rfl, State.Warmed39.refl s, rfl⟩ trivial
  refine ⟨n, _, h1, h2, h3, hpost _ _ _ _ _ _ ⟨Cond.after_iff.mpr rfl, Cond.after_iff.mpr (eq_i res_at (Term.int_eval (1)) rfl), trivial⟩ ⟨hq.1, hq.2.1, (hq.2.2.sift fun y hy => Or.inr (N y hy)).mono (by decide) (by decide)⟩⟩
theorem main_1_1 : Claimed_1_1 := comes_1 fun _ _ _ _ _ _ h hF => ⟨h.1, hF⟩
theorem main_1_2 : Claimed_1_2 := comes_1 fun _ _ _ _ _ _ h hF => ⟨h.2.1, hF⟩
end Jvm.Pilot.@@N@@
namespace Jvm.Pilot.@@N@@
open Jvm Jvm.ClassFile Sem Op Lib Jvm.Free Jvm.Stand Jvm.Pilot.@@N@@.Jvm.D
/-! MADE BY PROGRAM (witnessworld.py) out of the Statement's table words and the real class files: 10 classes; the members and pool entries that the words name. The judged class is class 1, her method 1. -/
namespace start1
open Jvm.ClassFile
def u (s : String) : CpInfo := .utf8 (stringToUtf16 s)
/-- a pool by its gaps: so many unusable entries, then the entry; so many at the end -/
def gap : Nat → List CpInfo → List CpInfo
  | 0, r => r
  | n + 1, r => .unusable :: gap n r
def poolList (es : List (Nat × CpInfo)) (last : Nat) : List CpInfo := es.foldr (fun e r => gap e.1 (e.2 :: r)) (gap last [])
def pool (es : List (Nat × CpInfo)) (last : Nat) : Array CpInfo := ⟨poolList es last⟩
def fileOf (pool : Array CpInfo) (this : Nat) (attrs : Array Attribute := #[]) (ms : Array MethodInfo := #[]) (fl : Nat := 33) (sup : Nat := 0) (ifs : Array Nat := #[]) (fds : Array FieldInfo := #[]) : ClassFile where
  minorVersion := 0
  majorVersion := 65
  constantPool := pool
  accessFlags := fl
  thisClass := this
  superClass := sup
  interfaces := ifs
  fields := fds
  methods := ms
  attributes := attrs
def plain (name : String) (sup : Option ClassId) : Class where
  name := name
  kind := .ordinary
  loader := none
  accessFlags := 33
  super := sup
  interfaces := #[]
  cf := none
  fields := #[]
  methods := #[]
  instanceTypes := #[]
  staticTypes := #[]
  resolved := #[]
  callSites := []
  init := .initialized
  statics := none
  mirror := none

def pool0 : Array CpInfo := pool [(5, u "<init>"), (0, u "()V"), (1, .class_ 10), (1, u "java/lang/Object")] 113

def k0c0 : Code := { maxStack := 0, maxLocals := 1, code := object_method_1_code, exceptionTable := #[], attributes := #[] }
def k0m0 : Method := { name := "<init>", desc := "()V", sig := { parameters := [], returnType := none }, accessFlags := 1, code := some k0c0 }
/-- java/lang/Object -/
def k0 : Class := { plain "java/lang/Object" none with
  accessFlags := 33
  interfaces := #[]
  cf := some (fileOf pool0 8 #[] #[{ accessFlags := 1, nameIndex := 5, descriptorIndex := 6, attributes := #[] }] 33 0 #[] #[])
  fields := #[]
  methods := #[k0m0]
  instanceTypes := #[]
  staticTypes := #[]
  resolved := Array.replicate 124 none
  statics := none }

def pool1 : Array CpInfo := pool [(2, .class_ 4), (1, u "java/lang/Object"), (0, u "<init>"), (0, u "()V"), (0, .integer 2147483647), (0, .methodref 9 10), (0, .class_ 11), (0, .nameAndType 12 13), (0, u "java/lang/Math"), (0, u "max"), (0, u "(II)I"), (2, .long 2147483647), (1, .long 4294967295), (1, .double 4616189618054758400), (1, .class_ 23), (0, u "com/example/apportion/apportion/workload/SizeClass"), (0, .methodref 22 25), (0, .nameAndType 5 26), (0, u "(IID)V"), (0, .integer 2147483648), (0, .methodref 22 29), (0, .nameAndType 30 31), (0, u "contains"), (0, u "(I)Z"), (0, .class_ 33), (0, u "com/example/apportion/apportion/workload/SizeClassContainsPinLaw"), (2, u "law"), (0, u "(IIIIII)Z")] 3

def k1m0 : Method := { name := "<init>", desc := "()V", sig := { parameters := [], returnType := none }, accessFlags := 1, code := none }
def k1c1 : Code := { maxStack := 7, maxLocals := 18, code := code, exceptionTable := #[], attributes := #[] }
def k1m1 : Method := { name := "law", desc := "(IIIIII)Z", sig := { parameters := [.int, .int, .int, .int, .int, .int], returnType := some .boolean }, accessFlags := 9, code := some k1c1 }
/-- com/example/apportion/apportion/workload/SizeClassContainsPinLaw -/
def k1 : Class := { plain "com/example/apportion/apportion/workload/SizeClassContainsPinLaw" (some 0) with
  accessFlags := 49
  interfaces := #[]
  cf := some (fileOf pool1 32 #[] #[{ accessFlags := 1, nameIndex := 5, descriptorIndex := 6, attributes := #[] }, { accessFlags := 9, nameIndex := 36, descriptorIndex := 37, attributes := #[] }] 49 2 #[] #[])
  fields := #[]
  methods := #[k1m0, k1m1]
  instanceTypes := #[]
  staticTypes := #[]
  resolved := Array.replicate 41 none
  statics := none }

def pool2 : Array CpInfo := pool [(1, .class_ 2), (0, u "java/lang/Math"), (1, .class_ 6), (1, u "java/lang/Object"), (0, u "<init>"), (0, u "()V"), (89, .class_ 100), (1, u "java/lang/Math$RandomNumberGeneratorHolder"), (71, u "negativeZeroFloatBits"), (0, u "J"), (2, u "negativeZeroDoubleBits"), (21, u "max"), (46, u "$assertionsDisabled"), (0, u "Z"), (88, u "(II)I"), (2, u "twoToTheDoubleScaleDown"), (0, u "D"), (4, u "twoToTheDoubleScaleUp"), (9, u "E"), (3, u "PI"), (2, u "TAU"), (2, u "DEGREES_TO_RADIANS"), (0, u "RADIANS_TO_DEGREES")] 94

def k2m0 : Method := { name := "<init>", desc := "()V", sig := { parameters := [], returnType := none }, accessFlags := 2, code := none }
def k2c1 : Code := { maxStack := 2, maxLocals := 2, code := jdk_29_method_65_code, exceptionTable := #[], attributes := #[] }
def k2m1 : Method := { name := "max", desc := "(II)I", sig := { parameters := [.int, .int], returnType := some .int }, accessFlags := 9, code := some k2c1 }
/-- java/lang/Math -/
def k2 : Class := { plain "java/lang/Math" (some 0) with
  accessFlags := 49
  interfaces := #[]
  cf := some (fileOf pool2 1 #[.nestMembers #[98]] #[{ accessFlags := 2, nameIndex := 7, descriptorIndex := 8, attributes := #[] }, { accessFlags := 9, nameIndex := 198, descriptorIndex := 335, attributes := #[] }] 49 4 #[] #[{ accessFlags := 25, nameIndex := 354, descriptorIndex := 339, attributes := #[] }, { accessFlags := 25, nameIndex := 358, descriptorIndex := 339, attributes := #[] }, { accessFlags := 25, nameIndex := 361, descriptorIndex := 339, attributes := #[] }, { accessFlags := 26, nameIndex := 364, descriptorIndex := 339, attributes := #[] }, { accessFlags := 26, nameIndex := 365, descriptorIndex := 339, attributes := #[] }, { accessFlags := 26, nameIndex := 172, descriptorIndex := 173, attributes := #[] }, { accessFlags := 26, nameIndex := 176, descriptorIndex := 173, attributes := #[] }, { accessFlags := 8, nameIndex := 344, descriptorIndex := 339, attributes := #[] }, { accessFlags := 8, nameIndex := 338, descriptorIndex := 339, attributes := #[] }, { accessFlags := 4120, nameIndex := 245, descriptorIndex := 246, attributes := #[] }])
  fields := #[{ name := "E", type := .double, accessFlags := 25, slot := 0, constantValue := 0 }, { name := "PI", type := .double, accessFlags := 25, slot := 1, constantValue := 0 }, { name := "TAU", type := .double, accessFlags := 25, slot := 2, constantValue := 0 }, { name := "DEGREES_TO_RADIANS", type := .double, accessFlags := 26, slot := 3, constantValue := 0 }, { name := "RADIANS_TO_DEGREES", type := .double, accessFlags := 26, slot := 4, constantValue := 0 }, { name := "negativeZeroFloatBits", type := .long, accessFlags := 26, slot := 5, constantValue := 0 }, { name := "negativeZeroDoubleBits", type := .long, accessFlags := 26, slot := 6, constantValue := 0 }, { name := "twoToTheDoubleScaleUp", type := .double, accessFlags := 8, slot := 7, constantValue := 0 }, { name := "twoToTheDoubleScaleDown", type := .double, accessFlags := 8, slot := 8, constantValue := 0 }, { name := "$assertionsDisabled", type := .boolean, accessFlags := 4120, slot := 9, constantValue := 0 }]
  methods := #[k2m0, k2m1]
  instanceTypes := #[]
  staticTypes := #[.double, .double, .double, .double, .double, .long, .long, .double, .double, .boolean]
  resolved := Array.replicate 460 none
  statics := none }

def pool3 : Array CpInfo := pool [(1, .methodref 2 3), (0, .class_ 4), (0, .nameAndType 5 6), (0, u "java/lang/Object"), (0, u "<init>"), (0, u "()V"), (12, .fieldref 20 21), (0, .class_ 22), (0, .nameAndType 23 24), (0, u "com/example/apportion/apportion/workload/SizeClass"), (0, u "minTasks"), (0, u "I"), (0, .fieldref 20 26), (0, .nameAndType 27 24), (0, u "maxTasks"), (0, .fieldref 20 29), (0, .nameAndType 30 31), (0, u "share"), (0, u "D"), (19, u "WRITTEN"), (0, u "Ljava/util/regex/Pattern;"), (36, u "(IID)V"), (67, u "FORM"), (0, u "Ljava/lang/String;"), (15, u "contains"), (0, u "(I)Z")] 43

def k3c0 : Code := { maxStack := 6, maxLocals := 5, code := prog_106_method_1_code, exceptionTable := #[], attributes := #[] }
def k3m0 : Method := { name := "<init>", desc := "(IID)V", sig := { parameters := [.int, .int, .double], returnType := none }, accessFlags := 1, code := some k3c0 }
def k3c1 : Code := { maxStack := 2, maxLocals := 2, code := prog_106_method_6_code, exceptionTable := #[], attributes := #[] }
def k3m1 : Method := { name := "contains", desc := "(I)Z", sig := { parameters := [.int], returnType := some .boolean }, accessFlags := 1, code := some k3c1 }
/-- com/example/apportion/apportion/workload/SizeClass -/
def k3 : Class := { plain "com/example/apportion/apportion/workload/SizeClass" (some 0) with
  accessFlags := 33
  interfaces := #[]
  cf := some (fileOf pool3 20 #[] #[{ accessFlags := 1, nameIndex := 5, descriptorIndex := 89, attributes := #[] }, { accessFlags := 1, nameIndex := 174, descriptorIndex := 175, attributes := #[] }] 33 2 #[] #[{ accessFlags := 26, nameIndex := 51, descriptorIndex := 52, attributes := #[] }, { accessFlags := 26, nameIndex := 157, descriptorIndex := 158, attributes := #[] }, { accessFlags := 18, nameIndex := 23, descriptorIndex := 24, attributes := #[] }, { accessFlags := 18, nameIndex := 27, descriptorIndex := 24, attributes := #[] }, { accessFlags := 18, nameIndex := 30, descriptorIndex := 31, attributes := #[] }])
  fields := #[{ name := "WRITTEN", type := (.object "java/util/regex/Pattern"), accessFlags := 26, slot := 0, constantValue := 0 }, { name := "FORM", type := (.object "java/lang/String"), accessFlags := 26, slot := 1, constantValue := 0 }, { name := "minTasks", type := .int, accessFlags := 18, slot := 0, constantValue := 0 }, { name := "maxTasks", type := .int, accessFlags := 18, slot := 1, constantValue := 0 }, { name := "share", type := .double, accessFlags := 18, slot := 2, constantValue := 0 }]
  methods := #[k3m0, k3m1]
  instanceTypes := #[.int, .int, .double]
  staticTypes := #[(.object "java/util/regex/Pattern"), (.object "java/lang/String")]
  resolved := Array.replicate 219 none
  statics := none }

def pool4 : Array CpInfo := pool [(1, u "java/lang/Cloneable"), (0, .class_ 1), (0, u "java/lang/Object"), (0, .class_ 3)] 3

/-- java/lang/Cloneable -/
def k4 : Class := { plain "java/lang/Cloneable" (some 0) with
  accessFlags := 1537
  interfaces := #[]
  cf := some (fileOf pool4 2 #[] #[] 1537 4 #[] #[])
  fields := #[]
  methods := #[]
  instanceTypes := #[]
  staticTypes := #[]
  resolved := Array.replicate 8 none
  statics := none }

def pool5 : Array CpInfo := pool [(1, u "java/io/Serializable"), (0, .class_ 1), (0, u "java/lang/Object"), (0, .class_ 3)] 3

/-- java/io/Serializable -/
def k5 : Class := { plain "java/io/Serializable" (some 0) with
  accessFlags := 1537
  interfaces := #[]
  cf := some (fileOf pool5 2 #[] #[] 1537 4 #[] #[])
  fields := #[]
  methods := #[]
  instanceTypes := #[]
  staticTypes := #[]
  resolved := Array.replicate 8 none
  statics := none }

/-- the primitive byte -/
def k6 : Class := { plain "byte" none with kind := .primitive 'B', accessFlags := 0x411 }
/-- [B -/
def k7 : Class := { plain "[B" (some 0) with kind := .array 6 .byte, interfaces := #[4, 5], accessFlags := 1041 }

/-- the primitive int -/
def k8 : Class := { plain "int" none with kind := .primitive 'I', accessFlags := 0x411 }
/-- [I -/
def k9 : Class := { plain "[I" (some 0) with kind := .array 8 .int, interfaces := #[4, 5], accessFlags := 1041 }

def heap : Heap := #[]
def classes : Array Class := #[k0, k1, k2, k3, k4, k5, k6, k7, k8, k9]
def interned : List (Array UInt16 × Addr) := []
def slotsUsed : Nat := 0
def theMethod : MethodId := ⟨1, 1⟩
def args0 : Array Value := #[.int 5, .int 5, .int 5, .int 5, .int 5, .int 5]
def aboutOver (below : List Frame) : State where
  vm := { classes := classes, interned := interned.toArray }
  heap := heap
  slotsUsed := slotsUsed
  threads := #[{ frames := .invoking theMethod args0 :: below }]
def below0 : List Frame := [.native { method := ⟨0, 0⟩, args := #[] }]
def about1 : State := aboutOver below0
def p0 : Program := .bare "" "" ""
def e0 : Env := launch0.env 0 0 0
theorem w_frames : about1.frames = Frame.invoking theMethod args0 :: below0 := rfl
set_option maxRecDepth 65536 in
theorem w_args : argsFit about1.vm theMethod args0 = true := by decide +kernel
set_option maxRecDepth 65536 in
theorem w_heap : heapFits about1 = true := by decide +kernel
set_option maxRecDepth 65536 in
theorem w_runnable : about1.curStatus? = some .runnable := by decide +kernel
set_option maxRecDepth 65536 in
theorem w_alone : about1.alone = true := by decide +kernel
set_option maxRecDepth 65536 in
theorem w_named : about1.methodNamed? x = some theMethod := by decide +kernel
set_option maxRecDepth 65536 in
theorem w_hears : about1.hears theMethod below0 = true := by decide +kernel
set_option maxRecDepth 65536 in
theorem w_ripe : about1.ripe theMethod args0 below0 = true := by decide +kernel
theorem w_running : about1.status = .running := rfl
set_option maxRecDepth 65536 in
theorem w_room : about1.hasRoom e0.platform room_1 = true :=
  launch0.hasRoom_least _ room_1 (by decide +kernel) (by decide +kernel) (by decide +kernel) (by decide +kernel) (by decide +kernel) (by decide +kernel)
theorem allAtoms_all (ts : List Jvm.Cond) (a : Array Jvm.Value) (st : Jvm.State) : (allAtoms ts).before a st = ts.all (fun c => c.before a st) := by
  induction ts with
  | nil => rfl
  | cons c t ih =>
    show (Jvm.Cond.and c (allAtoms t)).before a st = _
    rw [Jvm.Cond.before_and, ih, List.all_cons]
def words1 : List Jvm.Cond := Jvm.Cond.code x code maxLocals ret :: tables_1
/-- a 'code' word, met by the world's own term for the bytes: nothing is compared byte by byte -/
theorem code_word {y : MethodName} {bytes : ByteArray} {mx : Nat} {rt : Option FieldType} {a : Array Value} {s : State} {m : MethodId} {meth : Method} {c : Code} (h1 : s.methodNamed? y = some m) (h2 : s.vm.method? m = some meth) (h3 : meth.code = some c) (h4 : c.code = bytes)
    (h5 : (c.maxLocals == mx && c.exceptionTable.isEmpty && decide (c.maxStack ≤ mostOperands) && decide (meth.sig.returnType = rt) && !meth.locks && decide (parseMethodDescriptor y.desc = some meth.sig)) = true) : (Jvm.Cond.code y bytes mx rt).before a s = true := by
  simp only [Bool.and_eq_true, beq_iff_eq, Bool.not_eq_true', decide_eq_true_eq] at h5
  obtain ⟨⟨⟨⟨⟨g1, g2⟩, g3⟩, g4⟩, g5⟩, g6⟩ := h5
  simp [Cond.before, Cond.holds, Cond.value, h1, h2, h3, h4, g1, g2, g3, g4, g5, g6]
def isCode : Jvm.Cond → Bool
  | .code _ _ _ _ => true
  | _ => false
theorem all_split {L : List Jvm.Cond} {P : Jvm.Cond → Bool} (h1 : L.all (fun c => isCode c || P c) = true) (h2 : ∀ c ∈ L.filter isCode, P c = true) : L.all P = true := by
  refine List.all_eq_true.mpr fun c hc => ?_
  have h := List.all_eq_true.mp h1 c hc
  rcases Bool.eq_false_or_eq_true (isCode c) with hi | hi
  · exact h2 c (List.mem_filter.mpr ⟨hc, hi⟩)
  · simpa [hi] using h
set_option maxRecDepth 65536 in
theorem w_c0 : (Jvm.Cond.code x code maxLocals ret).before args0 about1 = true := code_word (m := ⟨1, 1⟩) (meth := k1m1) (c := k1c1) (by decide +kernel) rfl rfl rfl (by decide +kernel)
set_option maxRecDepth 65536 in
theorem w_c1 : (Jvm.Cond.code ({ cls := "java/lang/Math", name := "max", desc := "(II)I" } : Jvm.MethodName) jdk_29_method_65_code (2 : Nat) (Option.some Jvm.ClassFile.FieldType.int)).before args0 about1 = true := code_word (m := ⟨2, 1⟩) (meth := k2m1) (c := k2c1) (by decide +kernel) rfl rfl rfl (by decide +kernel)
set_option maxRecDepth 65536 in
theorem w_c2 : (Jvm.Cond.code ({ cls := "com/example/apportion/apportion/workload/SizeClass", name := "<init>", desc := "(IID)V" } : Jvm.MethodName) prog_106_method_1_code (5 : Nat) (Option.none : Option Jvm.ClassFile.FieldType)).before args0 about1 = true := code_word (m := ⟨3, 0⟩) (meth := k3m0) (c := k3c0) (by decide +kernel) rfl rfl rfl (by decide +kernel)
set_option maxRecDepth 65536 in
theorem w_c3 : (Jvm.Cond.code ({ cls := "java/lang/Object", name := "<init>", desc := "()V" } : Jvm.MethodName) object_method_1_code (1 : Nat) (Option.none : Option Jvm.ClassFile.FieldType)).before args0 about1 = true := code_word (m := ⟨0, 0⟩) (meth := k0m0) (c := k0c0) (by decide +kernel) rfl rfl rfl (by decide +kernel)
set_option maxRecDepth 65536 in
theorem w_c4 : (Jvm.Cond.code ({ cls := "com/example/apportion/apportion/workload/SizeClass", name := "contains", desc := "(I)Z" } : Jvm.MethodName) prog_106_method_6_code (2 : Nat) (Option.some Jvm.ClassFile.FieldType.boolean)).before args0 about1 = true := code_word (m := ⟨3, 1⟩) (meth := k3m1) (c := k3c1) (by decide +kernel) rfl rfl rfl (by decide +kernel)
def codes1 : List Jvm.Cond := [Jvm.Cond.code x code maxLocals ret, Jvm.Cond.code ({ cls := "java/lang/Math", name := "max", desc := "(II)I" } : Jvm.MethodName) jdk_29_method_65_code (2 : Nat) (Option.some Jvm.ClassFile.FieldType.int), Jvm.Cond.code ({ cls := "com/example/apportion/apportion/workload/SizeClass", name := "<init>", desc := "(IID)V" } : Jvm.MethodName) prog_106_method_1_code (5 : Nat) (Option.none : Option Jvm.ClassFile.FieldType), Jvm.Cond.code ({ cls := "java/lang/Object", name := "<init>", desc := "()V" } : Jvm.MethodName) object_method_1_code (1 : Nat) (Option.none : Option Jvm.ClassFile.FieldType), Jvm.Cond.code ({ cls := "com/example/apportion/apportion/workload/SizeClass", name := "contains", desc := "(I)Z" } : Jvm.MethodName) prog_106_method_6_code (2 : Nat) (Option.some Jvm.ClassFile.FieldType.boolean)]
set_option maxRecDepth 65536 in
theorem codes_eq : words1.filter isCode = codes1 := rfl
theorem w_codes : ∀ c ∈ words1.filter isCode, c.before args0 about1 = true := by
  rw [codes_eq]
  intro c hc
  simp only [codes1, List.mem_cons, List.not_mem_nil, or_false] at hc
  rcases hc with rfl | rfl | rfl | rfl | rfl
  · exact w_c0
  · exact w_c1
  · exact w_c2
  · exact w_c3
  · exact w_c4
set_option maxRecDepth 65536 in
theorem w_t1 : (words1.take 24).all (fun c => isCode c || c.before args0 about1) = true := by decide +kernel
set_option maxRecDepth 65536 in
theorem w_t2 : (words1.drop 24).all (fun c => isCode c || c.before args0 about1) = true := by decide +kernel
theorem w_tables : (allAtoms (Jvm.Cond.code x code maxLocals ret :: tables_1)).before args0 about1 = true := by
  rw [allAtoms_all]
  show words1.all (fun c => c.before args0 about1) = true
  refine all_split ?_ w_codes
  rw [← List.take_append_drop 24 words1, List.all_append, w_t1, w_t2]
  rfl
set_option maxRecDepth 65536 in
theorem w_case : (Jvm.Cond.and given_1 narrow_1).before args0 about1 = true := by decide +kernel
theorem w_applies : (headSpec (Jvm.Cond.code x code maxLocals ret :: tables_1) room_1).applies x e0.platform about1 = true :=
  (Spec.applies_iff w_frames).mpr ⟨w_running, w_runnable, w_alone, w_named, w_hears, w_ripe, w_room, w_tables⟩
theorem atStart : AtStart classFile x code maxLocals ret World_1 tables_1 room_1 Calls_1 rest_1 Pre_1 launch0 p0 e0 about1 theMethod args0 below0 :=
  ⟨lists_1, trivial, launch0.admits_env _ _ _, launch0.least_env, fairChoices_fair.cas, fairChoices_fair.clock, w_frames, w_args, w_heap, w_applies, trivial, trivial, w_case⟩
end start1
theorem witness_1 : WitnessClaimed_1 := ⟨start1.p0, start1.e0, start1.about1, start1.theMethod, start1.args0, start1.below0, start1.atStart⟩
end Jvm.Pilot.@@N@@
