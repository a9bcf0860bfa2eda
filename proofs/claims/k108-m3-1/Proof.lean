import JvmDerived
import JvmDerived.Pilot.@@N@@Statement
import JvmDerived.Pilot.@@N@@Code
set_option linter.unusedVariables false
set_option linter.unusedSimpArgs false
namespace Jvm.Pilot.@@N@@
open Jvm Jvm.ClassFile Sem Op Lib Jvm.Free Jvm.Stand Jvm.LawKit Jvm.RoadKit Bundle Jvm.Pilot.@@N@@.Jvm.D
section Own
variable {p : Program} {l : Launch} {e : Env} {R : Room} {s : State} {m : MethodId} {args : Array Value} {below : List Frame} {meth : Method} {c : Code} {T T' : State} {locs : List Loc} {cells slots : Nat} {Z : State} {h h' : Heap} {P : Option Value → Heap → List Loc → Prop} {cm sm : Nat} {g g' : JFrame}
/-- from where the walk stands the body comes to its end, and P says what it leaves -/
def own_Go (p : Program) (e : Env) (below : List Frame) (s : State) (P : Option Value → Heap → List Loc → Prop) (cm sm : Nat) (T : State) (g : JFrame) : Prop :=
  ∃ s₂ o, Steps p.tables e below (T.setTop g) s₂ ∧ s₂.status = .running ∧ Ended s₂ below o ∧ ∃ v L, o = .returned v ∧ P v s₂.heap L ∧ FrameEnd s o s₂ L cm sm
theorem own_st (st : ∀ t, Steps p.tables e below (T'.setTop g') t → Steps p.tables e below (T.setTop g) t) (k : own_Go p e below s P cm sm T' g') : own_Go p e below s P cm sm T g := by
  obtain ⟨s₂, o, h1, h2⟩ := k; exact ⟨s₂, o, st _ h1, h2⟩
theorem own_tr (st : Steps p.tables e below (T.setTop g) (T'.setTop g')) (k : own_Go p e below s P cm sm T' g') : own_Go p e below s P cm sm T g := own_st (fun _ q => st.trans q) k
theorem own_out (X : Stand p l e R s m args below meth c T locs cells slots) {v : Option Value} (hv : meth.sig.returnType = none → v = none) (hlk : meth.locks = false) (eT : T.heap = h)
    (hret : ∀ fs, (∀ (f : JFrame) (acts : List Action), f.method = m → f.locked = none → f.entered = [] → (doReturn e (T.setTop f) acts v).1 = T.setFrames fs) → Steps p.tables e below (T.setTop g) (T.setFrames fs))
    (hP : P v h locs) (hc : cells ≤ cm) (hs : slots ≤ sm) : own_Go p e below s P cm sm T g := by
  obtain ⟨fs, hr, hrun, hended, hW, hsame⟩ := X.leave hv hlk
  subst eT
  exact ⟨_, _, hret fs hr, hrun, hended, v, locs, rfl, hP, ⟨_, rfl⟩, hW, hsame.mono hc hs⟩
theorem own_retI (X : Stand p l e R s m args below meth c T locs cells slots) (hx : p.tables.exec = Jvm.exec) (hret : meth.sig.returnType = some .int) (hlk : meth.locks = false) (eT : T.heap = h) {pc : Nat} {Ls : Array Slot} {z : Int32} {rest : List Value} (hd : decode c.code pc = .ok (.ireturn, 1))
    (hP : P (some (.int z)) h locs) (hc : cells ≤ cm) (hs : slots ≤ sm) : own_Go p e below s P cm sm T (mkF m pc Ls (.int z :: rest)) :=
  own_out X (fun q => by rw [hret] at q; cases q) hlk eT (fun fs hr => retOut X hx hret rfl (Or.inl ⟨rfl, Or.inl rfl, z, rfl⟩) hd hr) hP hc hs
theorem own_retN (X : Stand p l e R s m args below meth c T locs cells slots) (hx : p.tables.exec = Jvm.exec) {t : FieldType} (hret : meth.sig.returnType = some t) (hlk : meth.locks = false) (eT : T.heap = h) (ht : t = .boolean ∨ t = .byte ∨ t = .char ∨ t = .short) {pc : Nat} {Ls : Array Slot} {z : Int32} {rest : List Value} (hd : decode c.code pc = .ok (.ireturn, 1))
    (hP : P (some (.int (nar t z))) h locs) (hc : cells ≤ cm) (hs : slots ≤ sm) : own_Go p e below s P cm sm T (mkF m pc Ls (.int z :: rest)) :=
  own_out X (fun q => by rw [hret] at q; cases q) hlk eT (fun fs hr => retN X hx hret ht hd hr) hP hc hs
theorem own_retJ (X : Stand p l e R s m args below meth c T locs cells slots) (hx : p.tables.exec = Jvm.exec) (hret : meth.sig.returnType = some .long) (hlk : meth.locks = false) (eT : T.heap = h) {pc : Nat} {Ls : Array Slot} {z : Int64} {rest : List Value} (hd : decode c.code pc = .ok (.lreturn, 1))
    (hP : P (some (.long z)) h locs) (hc : cells ≤ cm) (hs : slots ≤ sm) : own_Go p e below s P cm sm T (mkF m pc Ls (.long z :: rest)) :=
  own_out X (fun q => by rw [hret] at q; cases q) hlk eT (fun fs hr => retOut X hx hret rfl (Or.inr (Or.inl ⟨rfl, rfl, z, rfl⟩)) hd hr) hP hc hs
theorem own_retR (X : Stand p l e R s m args below meth c T locs cells slots) (hx : p.tables.exec = Jvm.exec) {t : FieldType} (hret : meth.sig.returnType = some t) (hlk : meth.locks = false) (eT : T.heap = h) (ht : t.isReference = true) {pc : Nat} {Ls : Array Slot} {w : Value} (hw : w.isRef = true) {rest : List Value} (hd : decode c.code pc = .ok (.areturn, 1))
    (hP : P (some w) h locs) (hc : cells ≤ cm) (hs : slots ≤ sm) : own_Go p e below s P cm sm T (mkF m pc Ls (w :: rest)) :=
  own_out X (fun q => by rw [hret] at q; cases q) hlk eT (fun fs hr => retOut X hx hret (by cases t <;> cases w <;> first | rfl | (simp [Value.isRef] at hw; done) | (simp [FieldType.isReference] at ht; done)) (Or.inr (Or.inr (Or.inr (Or.inr ⟨rfl, ht, hw⟩)))) hd hr) hP hc hs
theorem own_ret0 (X : Stand p l e R s m args below meth c T locs cells slots) (hx : p.tables.exec = Jvm.exec) (hret : meth.sig.returnType = none) (hlk : meth.locks = false) (eT : T.heap = h) {pc : Nat} {Ls : Array Slot} (hd : decode c.code pc = .ok (.return_, 1))
    (hP : P none h locs) (hc : cells ≤ cm) (hs : slots ≤ sm) : own_Go p e below s P cm sm T (mkF m pc Ls []) :=
  own_out X (fun _ => rfl) hlk eT (fun fs hr => X.returnOut hx hret hd hr) hP hc hs
/-- an array by its length and what each place holds -/
def own_Av (Z : State) (h : Heap) (a : Addr) (k : ClassId) (ty : FieldType) (n : Nat) (f : Nat → Value) : Prop := ∃ cl : Cell, Arr Z h a cl ty ∧ cl.cls = k ∧ cl.slots.size = n ∧ ∀ j, j < n → cl.slots[j]? = some (f j)
variable {a b : Addr} {k : ClassId} {ty : FieldType} {n i sl : Nat} {f : Nat → Value} {v w : Value} {ws : List Addr} {z j x : Int32} {rest : List Value}
theorem own_Av.lt (F : own_Av Z h a k ty n f) : a < h.size := by obtain ⟨cl, A, -⟩ := F; exact A.lt
theorem own_Av.ext (F : own_Av Z h a k ty n f) (E : Ext h h') : own_Av Z h' a k ty n f := by obtain ⟨cl, A, r⟩ := F; exact ⟨cl, A.ext E, r⟩
theorem own_Av.other (F : own_Av Z h b k ty n f) (W : Wr h h' a sl v) (q : b ≠ a) : own_Av Z h' b k ty n f := by obtain ⟨cl, A, r⟩ := F; exact ⟨cl, A.other W q, r⟩
theorem own_Av.keep (F : own_Av Z h a k ty n f) (K : Keep h h' ws) (q : a ∉ ws) : own_Av Z h' a k ty n f := by obtain ⟨cl, A, r⟩ := F; exact ⟨cl, ⟨K.2.1 a cl A.1 q, A.2⟩, r⟩
theorem own_Av.new (A : Arr Z h a (newA k ty z) ty) (hz : z.toNatClampNeg = n) : own_Av Z h a k ty n (fun _ => defaultValue ty) := ⟨_, A, rfl, (sz_new _ _ _).trans hz, fun q hq => by
  subst hz; simp [newA, hq]⟩
theorem own_Av.set (F : own_Av Z h a k ty n f) (W : Wr h h' a i v) (hi : i < n) : own_Av Z h' a k ty n (fun q => if q = i then v else f q) := by
  obtain ⟨cl, A, r1, r2, r3⟩ := F
  refine ⟨_, A.same W, r1, by rw [sz_set]; exact r2, fun q hq => ?_⟩
  by_cases u : q = i
  · subst u; simp [Cell.setSlot, r2, hi]
  · have := r3 q hq; simp only [Cell.setSlot, u, if_false]; rw [Array.getElem?_setIfInBounds_ne (Ne.symm u)]; exact this
theorem own_Av.to {f' : Nat → Value} (F : own_Av Z h a k ty n f) (q : ∀ j, j < n → f j = f' j) : own_Av Z h a k ty n f' := by
  obtain ⟨cl, A, r1, r2, r3⟩ := F; exact ⟨cl, A, r1, r2, fun j hj => by rw [← q j hj]; exact r3 j hj⟩
theorem own_idx (hj : j.toInt = i) : j.toNatClampNeg = i := by simp [Int32.toNatClampNeg, hj]
theorem own_inb {cl : Cell} (hj : j.toInt = i) (hs : cl.slots.size = n) (hi : i < n) : ¬ (j < 0 ∨ cl.slots.size ≤ j.toNatClampNeg) := by
  rw [own_idx hj, hs, Int32.lt_iff_toInt_lt, hj]; have : (0 : Int32).toInt = 0 := rfl; omega
theorem own_stC (X : Stand p l e R s m args below meth c T locs cells slots) (hx : p.tables.exec = Jvm.exec) (hZ : Z.Warmed39 s.vm) (eT : T.heap = h) (F : own_Av Z h a k .char n f) (hj : j.toInt = i) (hi : i < n) (hg : g.method = m) (hs : g.stack = .int x :: .int j :: .ref a :: rest) (hd : decode c.code g.pc = .ok (.castore, 1)) :
    ∃ T' h', Stand p l e R s m args below meth c T' (locs ++ [⟨a, i⟩]) cells slots ∧ T'.heap = h' ∧ Wr h h' a i (.int (nar .char x)) ∧ own_Av Z h' a k .char n (fun q => if q = i then .int (nar .char x) else f q) ∧ ∀ target, Steps p.tables e below (T'.setTop { g with pc := g.pc + 1, stack := rest }) target → Steps p.tables e below (T.setTop g) target := by
  obtain ⟨cl, A, r1, r2, r3⟩ := F
  obtain ⟨T', h', X', e', W, st⟩ := stC X hx hZ eT A (own_inb hj r2 hi) hg hs hd
  rw [own_idx hj] at X' W
  exact ⟨T', h', X', e', W, own_Av.set ⟨cl, A, r1, r2, r3⟩ W hi, st⟩
theorem own_stB (X : Stand p l e R s m args below meth c T locs cells slots) (hx : p.tables.exec = Jvm.exec) (hZ : Z.Warmed39 s.vm) (eT : T.heap = h) (F : own_Av Z h a k .byte n f) (hj : j.toInt = i) (hi : i < n) (hg : g.method = m) (hs : g.stack = .int x :: .int j :: .ref a :: rest) (hd : decode c.code g.pc = .ok (.bastore, 1)) :
    ∃ T' h', Stand p l e R s m args below meth c T' (locs ++ [⟨a, i⟩]) cells slots ∧ T'.heap = h' ∧ Wr h h' a i (.int (nar .byte x)) ∧ own_Av Z h' a k .byte n (fun q => if q = i then .int (nar .byte x) else f q) ∧ ∀ target, Steps p.tables e below (T'.setTop { g with pc := g.pc + 1, stack := rest }) target → Steps p.tables e below (T.setTop g) target := by
  obtain ⟨cl, A, r1, r2, r3⟩ := F
  obtain ⟨T', h', X', e', W, st⟩ := stB X hx hZ eT A (own_inb hj r2 hi) hg hs hd
  rw [own_idx hj] at X' W
  exact ⟨T', h', X', e', W, own_Av.set ⟨cl, A, r1, r2, r3⟩ W hi, st⟩
theorem own_stI (X : Stand p l e R s m args below meth c T locs cells slots) (hx : p.tables.exec = Jvm.exec) (hZ : Z.Warmed39 s.vm) (eT : T.heap = h) (F : own_Av Z h a k .int n f) (hj : j.toInt = i) (hi : i < n) (hg : g.method = m) (hs : g.stack = .int x :: .int j :: .ref a :: rest) (hd : decode c.code g.pc = .ok (.iastore, 1)) :
    ∃ T' h', Stand p l e R s m args below meth c T' (locs ++ [⟨a, i⟩]) cells slots ∧ T'.heap = h' ∧ Wr h h' a i (.int x) ∧ own_Av Z h' a k .int n (fun q => if q = i then .int x else f q) ∧ ∀ target, Steps p.tables e below (T'.setTop { g with pc := g.pc + 1, stack := rest }) target → Steps p.tables e below (T.setTop g) target := by
  obtain ⟨cl, A, r1, r2, r3⟩ := F
  obtain ⟨T', h', X', e', W, st⟩ := stI X hx hZ eT A (own_inb hj r2 hi) hg hs hd
  rw [own_idx hj] at X' W
  exact ⟨T', h', X', e', W, own_Av.set ⟨cl, A, r1, r2, r3⟩ W hi, st⟩
theorem own_stJ {y : Int64} (X : Stand p l e R s m args below meth c T locs cells slots) (hx : p.tables.exec = Jvm.exec) (hZ : Z.Warmed39 s.vm) (eT : T.heap = h) (F : own_Av Z h a k .long n f) (hj : j.toInt = i) (hi : i < n) (hg : g.method = m) (hs : g.stack = .long y :: .int j :: .ref a :: rest) (hd : decode c.code g.pc = .ok (.lastore, 1)) :
    ∃ T' h', Stand p l e R s m args below meth c T' (locs ++ [⟨a, i⟩]) cells slots ∧ T'.heap = h' ∧ Wr h h' a i (.long y) ∧ own_Av Z h' a k .long n (fun q => if q = i then .long y else f q) ∧ ∀ target, Steps p.tables e below (T'.setTop { g with pc := g.pc + 1, stack := rest }) target → Steps p.tables e below (T.setTop g) target := by
  obtain ⟨cl, A, r1, r2, r3⟩ := F
  obtain ⟨T', h', X', e', W, st⟩ := stJ X hx hZ eT A (own_inb hj r2 hi) hg hs hd
  rw [own_idx hj] at X' W
  exact ⟨T', h', X', e', W, own_Av.set ⟨cl, A, r1, r2, r3⟩ W hi, st⟩
theorem own_stR {C : String} (X : Stand p l e R s m args below meth c T locs cells slots) (hx : p.tables.exec = Jvm.exec) (hZ : Z.Warmed39 s.vm) (eT : T.heap = h) (F : own_Av Z h a k (.object C) n f) (O : Ovr Z k C) (I : v = .null ∨ ∃ y, v = .ref y ∧ Ins Z h y C true) (hj : j.toInt = i) (hi : i < n) (hg : g.method = m) (hs : g.stack = v :: .int j :: .ref a :: rest) (hd : decode c.code g.pc = .ok (.aastore, 1)) :
    ∃ T' h', Stand p l e R s m args below meth c T' (locs ++ [⟨a, i⟩]) cells slots ∧ T'.heap = h' ∧ Wr h h' a i v ∧ own_Av Z h' a k (.object C) n (fun q => if q = i then v else f q) ∧ ∀ target, Steps p.tables e below (T'.setTop { g with pc := g.pc + 1, stack := rest }) target → Steps p.tables e below (T.setTop g) target := by
  obtain ⟨cl, A, r1, r2, r3⟩ := F
  have St : Sto Z h a v := by
    rcases I with rfl | ⟨y, rfl, I⟩
    · exact Or.inl rfl
    · exact Sto.ofV A r1 O I
  obtain ⟨T', h', X', e', W, st⟩ := stR X hx hZ eT A (own_inb hj r2 hi) rfl St hg hs hd
  rw [own_idx hj] at X' W
  exact ⟨T', h', X', e', W, own_Av.set ⟨cl, A, r1, r2, r3⟩ W hi, st⟩
theorem own_ldC (X : Stand p l e R s m args below meth c T locs cells slots) (hx : p.tables.exec = Jvm.exec) (hZ : Z.Warmed39 s.vm) (eT : T.heap = h) (F : own_Av Z h a k .char n f) (hj : j.toInt = i) (hi : i < n) (hv : f i = v) (hg : g.method = m) (hs : g.stack = .int j :: .ref a :: rest) (hd : decode c.code g.pc = .ok (.caload, 1)) (target : State)
    (hr : Steps p.tables e below (T.setTop { g with pc := g.pc + 1, stack := v :: rest }) target) : Steps p.tables e below (T.setTop g) target := by
  obtain ⟨cl, A, r1, r2, r3⟩ := F
  exact X.caload hx (by rw [eT]; exact A.1) (State.isArrayOf_alike hZ.alike A.2.1) A.2.2 (own_inb hj r2 hi) (by rw [own_idx hj, r3 i hi, hv]) hg hs hd target hr
theorem own_ldB (X : Stand p l e R s m args below meth c T locs cells slots) (hx : p.tables.exec = Jvm.exec) (hZ : Z.Warmed39 s.vm) (eT : T.heap = h) (F : own_Av Z h a k .byte n f) (hj : j.toInt = i) (hi : i < n) (hv : f i = v) (hg : g.method = m) (hs : g.stack = .int j :: .ref a :: rest) (hd : decode c.code g.pc = .ok (.baload, 1)) (target : State)
    (hr : Steps p.tables e below (T.setTop { g with pc := g.pc + 1, stack := v :: rest }) target) : Steps p.tables e below (T.setTop g) target := by
  obtain ⟨cl, A, r1, r2, r3⟩ := F
  exact X.baloadBytes hx (by rw [eT]; exact A.1) (State.isArrayOf_alike hZ.alike A.2.1) A.2.2 (own_inb hj r2 hi) (by rw [own_idx hj, r3 i hi, hv]) hg hs hd target hr
theorem own_ldI (X : Stand p l e R s m args below meth c T locs cells slots) (hx : p.tables.exec = Jvm.exec) (hZ : Z.Warmed39 s.vm) (eT : T.heap = h) (F : own_Av Z h a k .int n f) (hj : j.toInt = i) (hi : i < n) (hv : f i = v) (hg : g.method = m) (hs : g.stack = .int j :: .ref a :: rest) (hd : decode c.code g.pc = .ok (.iaload, 1)) (target : State)
    (hr : Steps p.tables e below (T.setTop { g with pc := g.pc + 1, stack := v :: rest }) target) : Steps p.tables e below (T.setTop g) target := by
  obtain ⟨cl, A, r1, r2, r3⟩ := F
  exact X.iaload hx (by rw [eT]; exact A.1) (State.isArrayOf_alike hZ.alike A.2.1) A.2.2 (own_inb hj r2 hi) (by rw [own_idx hj, r3 i hi, hv]) hg hs hd target hr
theorem own_ldR (X : Stand p l e R s m args below meth c T locs cells slots) (hx : p.tables.exec = Jvm.exec) (hZ : Z.Warmed39 s.vm) (eT : T.heap = h) (F : own_Av Z h a k ty n f) (hty : ty.isReference = true) (hj : j.toInt = i) (hi : i < n) (hv : f i = v) (hg : g.method = m) (hs : g.stack = .int j :: .ref a :: rest) (hd : decode c.code g.pc = .ok (.aaload, 1)) (target : State)
    (hr : Steps p.tables e below (T.setTop { g with pc := g.pc + 1, stack := v :: rest }) target) : Steps p.tables e below (T.setTop g) target := by
  obtain ⟨cl, A, r1, r2, r3⟩ := F
  exact X.aaload hx (by rw [eT]; exact A.1) (State.isArrayOf_alike hZ.alike A.2.1) hty A.2.2 (own_inb hj r2 hi) (by rw [own_idx hj, r3 i hi, hv]) hg hs hd target hr
theorem own_len (X : Stand p l e R s m args below meth c T locs cells slots) (hx : p.tables.exec = Jvm.exec) (hZ : Z.Warmed39 s.vm) (eT : T.heap = h) (F : own_Av Z h a k ty n f) (hz : n.toInt32 = z) (hg : g.method = m) (hs : g.stack = .ref a :: rest) (hd : decode c.code g.pc = .ok (.arraylength, 1)) (target : State)
    (hr : Steps p.tables e below (T.setTop { g with pc := g.pc + 1, stack := .int z :: rest }) target) : Steps p.tables e below (T.setTop g) target := by
  obtain ⟨cl, A, r1, r2, r3⟩ := F
  exact X.arraylength hx (by rw [eT]; exact A.1) (State.isArrayOf_alike hZ.alike A.2.1) hg hs hd target (by rw [r2, hz]; exact hr)
theorem own_ne (q : a < h.size) (r : b = h.size) : a ≠ b := Nat.ne_of_lt (Nat.lt_of_lt_of_le q (Nat.le_of_eq r.symm))
theorem own_ne2 (q : a < h.size) (r : h.size ≤ b) : a ≠ b := Nat.ne_of_lt (Nat.lt_of_lt_of_le q r)
theorem own_ge {n0 : Nat} (q : n0 ≤ h.size) (r : b = h.size) : n0 ≤ b := Nat.le_trans q (Nat.le_of_eq r.symm)
theorem own_store1 {L : Array Slot} {o : Slot} (hv : v.isRef = true) (hold : L[i]? = some o) (ho : o = .unset ∨ ∃ w, o = .val w ∧ w.category = 1) : storeLocals L i v = some (L.setIfInBounds i (.val v)) := XS.store1 hold ho (Jvm.Free.XT.cat1 hv)
theorem own_nref (ht : ty.isReference = true) (hv : v.isRef = true) : narrow ty v = v := by cases ty <;> cases v <;> first | rfl | (simp [Value.isRef] at hv; done) | (simp [FieldType.isReference] at ht; done)
theorem own_fref (ht : ty.isReference = true) (hv : v.isRef = true) : fits ty v = true := by cases ty <;> cases v <;> first | rfl | (simp [Value.isRef] at hv; done) | (simp [FieldType.isReference] at ht; done)
theorem own_fldI {t : Term} {C nm d : String} (ev : t.eval args s none [] s = some (.ref a)) (hq : (Cond.eq (Term.field t C nm d) (Term.int z)).value args s none s [] = some true) : Fld s s.heap a C nm d (.int z) := by
  obtain ⟨x, y, hx, hy, -, -⟩ := cmp_v (Or.inl hq)
  obtain rfl : y = .int z := (Option.some.inj hy).symm
  have : x = .int z := by simp only [Cond.value, hx, hy] at hq; cases x <;> simp at hq ⊢; exact hq
  rw [fld_at ev] at hx
  exact Fld.start (this ▸ hx)
theorem own_fldJ {t : Term} {C nm d : String} {z : Int64} (ev : t.eval args s none [] s = some (.ref a)) (hq : (Cond.eq (Term.field t C nm d) (Term.long z)).value args s none s [] = some true) : Fld s s.heap a C nm d (.long z) := by
  obtain ⟨x, y, hx, hy, -, -⟩ := cmp_v (Or.inl hq)
  obtain rfl : y = .long z := (Option.some.inj hy).symm
  have : x = .long z := by simp only [Cond.value, hx, hy] at hq; cases x <;> simp at hq ⊢; exact hq
  rw [fld_at ev] at hx
  exact Fld.start (this ▸ hx)
theorem own_fldN {t : Term} {C nm d : String} (ev : t.eval args s none [] s = some (.ref a)) (hq : (Cond.eq (Term.field t C nm d) Term.null).value args s none s [] = some true) : Fld s s.heap a C nm d .null := by
  have hx := null_v hq
  rw [fld_at ev] at hx
  exact Fld.start hx
theorem own_selP {y : MethodName} {nn : Nat} {a0 : Array Value} (hZ : Z.Warmed39 s.vm) (wi : (Cond.instantiable y.cls nn).before a0 Z = true) (wp : (Cond.privateMethod y).before a0 Z = true) (wm : (Cond.instanceMethod y).before a0 Z = true) (hy : y.cls ≠ "java/lang/invoke/MethodHandle" ∧ y.cls ≠ "java/lang/invoke/VarHandle") : (Cond.selects y.cls y y).before args s = true := by
  obtain ⟨c', k', h1, h2, -, h4, -⟩ := Cond.instantiable_spec (mv (args := args) hZ wi : (Cond.instantiable y.cls nn).before args s = true)
  exact selects_self_of_private h1 h2 (by simp at h4; exact h4.1) (Cond.privateMethod_at (mvP hZ wp (args := args))) (mv hZ wm) hy
end Own
theorem d1_0 : decode jdk_29_method_65_code 0 = .ok (.iload_n 0, 1) := by decide +kernel
theorem d1_1 : decode jdk_29_method_65_code 1 = .ok (.iload_n 1, 1) := by decide +kernel
theorem d1_2 : decode jdk_29_method_65_code 2 = .ok (.if_icmp .lt 7, 3) := by decide +kernel
theorem d1_5 : decode jdk_29_method_65_code 5 = .ok (.iload_n 0, 1) := by decide +kernel
theorem d1_6 : decode jdk_29_method_65_code 6 = .ok (.goto 4, 3) := by decide +kernel
theorem d1_9 : decode jdk_29_method_65_code 9 = .ok (.iload_n 1, 1) := by decide +kernel
theorem d1_10 : decode jdk_29_method_65_code 10 = .ok (.ireturn, 1) := by decide +kernel
def own_max_Q (Z : State) (x : Int32) (y : Int32) (h0 : Heap) (n0 : Nat) (v : Option Value) (h : Heap) (L : List Loc) : Prop := v = some (.int (if x < y then y else x)) ∧ Fr n0 L ∧ h = h0
set_option maxRecDepth 65536 in
set_option maxHeartbeats 40000000 in
theorem own_max (l : Launch) (Z : State) (a0 : Array Value) (hw : ∀ d ∈ tables_1, d.before a0 Z = true) (ws : List Jvm.Cond) (x : Int32) (y : Int32) (h0 : Heap) (n0 : Nat) (Z0 : n0 ≤ h0.size) :
    MetFree l (⟨"java/lang/Math", "max", "(II)I"⟩ : MethodName) (head1 (Jvm.Cond.code (⟨"java/lang/Math", "max", "(II)I"⟩ : MethodName) jdk_29_method_65_code 2 (some .int) :: ws) ({ frames := 0, cells := 0, slots := 0, locals := 0 } : Room)) (fun aa U0 => aa = #[(.int x), (.int y)] ∧ Z.Warmed39 U0.vm ∧ U0.heap = h0) (fun _ _ _ _ _ => True) (fun _ U0 o0 U1 => ∃ v0 L0, o0 = .returned v0 ∧ own_max_Q Z x y h0 n0 v0 U1.heap L0 ∧ FrameEnd U0 o0 U1 L0 ({ frames := 0, cells := 0, slots := 0, locals := 0 } : Room).cells ({ frames := 0, cells := 0, slots := 0, locals := 0 } : Room).slots) := by
  refine MetFree.of_bodySF (Jvm.Free.JP.mathPlain rfl (by decide +kernel)) hisR ?_
  intro p e s m args below meth c s₁ Bd hml0 hP hK
  obtain ⟨rfl, hZ, hh⟩ := hP
  have hx := Bd.exec
  have hby := Bd.bytes
  have hml : c.maxLocals = 2 := hml0
  have hown : s.vm.findClass "java/lang/Math" = some m.cls := findClass_of_methodNamed Bd.named
  have hnm := (name_of_methodNamed Bd.named Bd.method).1
  have X0 : Stand p l e ({ frames := 0, cells := 0, slots := 0, locals := 0 } : Room) s m #[(.int x), (.int y)] below meth c s₁ [] 0 0 := Stand.of_body Bd
  have e0 : s₁.heap = h0 := by rw [← hh, Bd.state]; rfl
  have N0 := Fr.nil n0
  show own_Go p e below s (own_max_Q Z x y h0 n0) 0 0 s₁ (entryFrame m #[(.int x), (.int y)] 2)
  rw [show entryFrame m #[(.int x), (.int y)] 2 = mkF m 0 #[.val (.int x), .val (.int y)] [] from by first | (simp [entryFrame, mkF, argsToLocals, Value.category]; done) | rfl]
  refine own_st (T' := s₁) (g' := (mkF m 1 #[.val (.int x), .val (.int y)] [(.int x)])) (fun _ k => XS.iloadN X0.here hx rfl (hb hby d1_0) rfl k) ?_
  refine own_st (T' := s₁) (g' := (mkF m 2 #[.val (.int x), .val (.int y)] [(.int y), (.int x)])) (fun _ k => XS.iloadN X0.here hx rfl (hb hby d1_1) rfl k) ?_
  by_cases q1 : x < y
  · refine own_st (T' := s₁) (g' := (mkF m 9 #[.val (.int x), .val (.int y)] [])) (fun _ k => XS.icmpYes X0.here hx rfl (pc0 := 2) (pc' := 9) rfl (hb hby d1_2) rfl (Jvm.Free.XT.ii_lt_t q1) (by decide) (by decide) k) ?_
    refine own_st (T' := s₁) (g' := (mkF m 10 #[.val (.int x), .val (.int y)] [(.int y)])) (fun _ k => XS.iloadN X0.here hx rfl (hb hby d1_9) rfl k) ?_
    exact own_retI X0 hx Bd.returns Bd.notSynchronized e0 (hb hby d1_10) ⟨by simp [q1], N0, rfl⟩ (by decide) (by decide)
  · refine own_st (T' := s₁) (g' := (mkF m 5 #[.val (.int x), .val (.int y)] [])) (fun _ k => XS.icmpNo X0.here hx rfl (hb hby d1_2) rfl (Jvm.Free.XT.ii_lt_f q1) k) ?_
    refine own_st (T' := s₁) (g' := (mkF m 6 #[.val (.int x), .val (.int y)] [(.int x)])) (fun _ k => XS.iloadN X0.here hx rfl (hb hby d1_5) rfl k) ?_
    refine own_st (T' := s₁) (g' := (mkF m 10 #[.val (.int x), .val (.int y)] [(.int x)])) (fun _ k => XS.goto X0.here hx rfl (pc0 := 6) (pc' := 10) rfl (hb hby d1_6) (by decide) (by decide) k) ?_
    exact own_retI X0 hx Bd.returns Bd.notSynchronized e0 (hb hby d1_10) ⟨by simp [q1], N0, rfl⟩ (by decide) (by decide)
theorem d2_0 : decode prog_41_method_2_code 0 = .ok (.iload_n 0, 1) := by decide +kernel
theorem d2_1 : decode prog_41_method_2_code 1 = .ok (.iconst 1, 1) := by decide +kernel
theorem d2_2 : decode prog_41_method_2_code 2 = .ok (.if_icmp .ge 17, 3) := by decide +kernel
theorem d2_19 : decode prog_41_method_2_code 19 = .ok (.iload_n 0, 1) := by decide +kernel
theorem d2_20 : decode prog_41_method_2_code 20 = .ok (.ireturn, 1) := by decide +kernel
theorem own_pn0 : plainName "com/example/apportion/apportion/dispatch/FwpPolicy" = true := by first | (simp [plainName, overriddenIn]; done) | decide +kernel
def own_check_Q (Z : State) (x : Int32) (h0 : Heap) (n0 : Nat) (v : Option Value) (h : Heap) (L : List Loc) : Prop := v = some (.int x) ∧ Fr n0 L ∧ h = h0
set_option maxRecDepth 65536 in
set_option maxHeartbeats 40000000 in
theorem own_check (l : Launch) (Z : State) (a0 : Array Value) (hw : ∀ d ∈ tables_1, d.before a0 Z = true) (ws : List Jvm.Cond) (x : Int32) (h0 : Heap) (n0 : Nat) (Z0 : n0 ≤ h0.size) (hx1 : ¬ x < (1 : Int32)) :
    MetFree l (⟨"com/example/apportion/apportion/dispatch/FwpPolicy", "checkHistory", "(I)I"⟩ : MethodName) (head1 (Jvm.Cond.code (⟨"com/example/apportion/apportion/dispatch/FwpPolicy", "checkHistory", "(I)I"⟩ : MethodName) prog_41_method_2_code 1 (some .int) :: ws) ({ frames := 0, cells := 0, slots := 0, locals := 0 } : Room)) (fun aa U0 => aa = #[(.int x)] ∧ Z.Warmed39 U0.vm ∧ U0.heap = h0) (fun _ _ _ _ _ => True) (fun _ U0 o0 U1 => ∃ v0 L0, o0 = .returned v0 ∧ own_check_Q Z x h0 n0 v0 U1.heap L0 ∧ FrameEnd U0 o0 U1 L0 ({ frames := 0, cells := 0, slots := 0, locals := 0 } : Room).cells ({ frames := 0, cells := 0, slots := 0, locals := 0 } : Room).slots) := by
  refine MetFree.of_bodySF (plainFor_of_name own_pn0) hisR ?_
  intro p e s m args below meth c s₁ Bd hml0 hP hK
  obtain ⟨rfl, hZ, hh⟩ := hP
  have hx := Bd.exec
  have hby := Bd.bytes
  have hml : c.maxLocals = 1 := hml0
  have hown : s.vm.findClass "com/example/apportion/apportion/dispatch/FwpPolicy" = some m.cls := findClass_of_methodNamed Bd.named
  have hnm := (name_of_methodNamed Bd.named Bd.method).1
  have X0 : Stand p l e ({ frames := 0, cells := 0, slots := 0, locals := 0 } : Room) s m #[(.int x)] below meth c s₁ [] 0 0 := Stand.of_body Bd
  have e0 : s₁.heap = h0 := by rw [← hh, Bd.state]; rfl
  have N0 := Fr.nil n0
  show own_Go p e below s (own_check_Q Z x h0 n0) 0 0 s₁ (entryFrame m #[(.int x)] 1)
  rw [show entryFrame m #[(.int x)] 1 = mkF m 0 #[.val (.int x)] [] from by first | (simp [entryFrame, mkF, argsToLocals, Value.category]; done) | rfl]
  refine own_st (T' := s₁) (g' := (mkF m 1 #[.val (.int x)] [(.int x)])) (fun _ k => XS.iloadN X0.here hx rfl (hb hby d2_0) rfl k) ?_
  refine own_st (T' := s₁) (g' := (mkF m 2 #[.val (.int x)] [(.int (1 : Int32)), (.int x)])) (fun _ k => XS.iconst X0.here hx rfl (hb hby d2_1) k) ?_
  refine own_st (T' := s₁) (g' := (mkF m 19 #[.val (.int x)] [])) (fun _ k => XS.icmpYes X0.here hx rfl (pc0 := 2) (pc' := 19) rfl (hb hby d2_2) rfl (Jvm.Free.XT.ii_ge_t hx1) (by decide) (by decide) k) ?_
  refine own_st (T' := s₁) (g' := (mkF m 20 #[.val (.int x)] [(.int x)])) (fun _ k => XS.iloadN X0.here hx rfl (hb hby d2_19) rfl k) ?_
  exact own_retI X0 hx Bd.returns Bd.notSynchronized e0 (hb hby d2_20) ⟨rfl, N0, rfl⟩ (by decide) (by decide)
theorem own_pd0 : parseMethodDescriptor "(II)I" = some ⟨[.int, .int], some .int⟩ := by decide +kernel
theorem own_pd1 : parseMethodDescriptor "(I)I" = some ⟨[.int], some .int⟩ := by decide +kernel
theorem own_pn1 : plainName "com/example/apportion/apportion/dispatch/FwpPolicyCheckHistoryPinLaw" = true := by first | (simp [plainName, overriddenIn]; done) | decide +kernel
def own_law_Q (Z : State) (p0 : Int32) (h0 : Heap) (n0 : Nat) (v : Option Value) (h : Heap) (L : List Loc) : Prop := v = some (.int 1) ∧ Fr n0 L
set_option maxRecDepth 65536 in
set_option maxHeartbeats 40000000 in
theorem own_law (l : Launch) (Z : State) (a0 : Array Value) (hw : ∀ d ∈ tables_1, d.before a0 Z = true) (ws : List Jvm.Cond) (p0 : Int32) (h0 : Heap) (n0 : Nat) (Z0 : n0 ≤ h0.size) :
    MetFree l x (head1 (Jvm.Cond.code x code maxLocals ret :: ws) room_1) (fun aa U0 => aa = #[(.int p0)] ∧ Z.Warmed39 U0.vm ∧ U0.heap = h0) (fun _ _ _ _ _ => True) (fun _ U0 o0 U1 => ∃ v0 L0, o0 = .returned v0 ∧ own_law_Q Z p0 h0 n0 v0 U1.heap L0 ∧ FrameEnd U0 o0 U1 L0 0 0) := by
  refine MetFree.of_bodySF (plainFor_of_name own_pn1) hisR ?_
  intro p e s m args below meth c s₁ Bd hml0 hP hK
  obtain ⟨rfl, hZ, hh⟩ := hP
  have hx := Bd.exec
  have hby := Bd.bytes
  have hml : c.maxLocals = 2 := hml0
  have hown : s.vm.findClass "com/example/apportion/apportion/dispatch/FwpPolicyCheckHistoryPinLaw" = some m.cls := findClass_of_methodNamed Bd.named
  have hnm := (name_of_methodNamed Bd.named Bd.method).1
  have X0 : Stand p l e room_1 s m #[(.int p0)] below meth c s₁ [] 0 0 := Stand.of_body Bd
  have e0 : s₁.heap = h0 := by rw [← hh, Bd.state]; rfl
  have N0 := Fr.nil n0
  show own_Go p e below s (own_law_Q Z p0 h0 n0) 0 0 s₁ (entryFrame m #[(.int p0)] maxLocals)
  rw [show entryFrame m #[(.int p0)] maxLocals = mkF m 0 #[.val (.int p0), .unset] [] from by first | (simp [entryFrame, mkF, argsToLocals, Value.category, maxLocals]; done) | rfl]
  refine own_st (T' := s₁) (g' := (mkF m 1 #[.val (.int p0), .unset] [(.int (1 : Int32))])) (fun _ k => XS.iconst X0.here hx rfl (hb hby at_0) k) ?_
  refine own_st (T' := s₁) (g' := (mkF m 2 #[.val (.int p0), .unset] [(.int p0), (.int (1 : Int32))])) (fun _ k => XS.iloadN X0.here hx rfl (hb hby at_1) rfl k) ?_
  refine own_st (T' := s₁) (g' := (mkF m 4 #[.val (.int p0), .unset] [(.int (2147483647 : Int32)), (.int p0), (.int (1 : Int32))])) (X0.ldcInt hx hown (mvT hZ (hw _ (List.mem_of_getElem? (i := 0) rfl))) (g := (mkF m 2 #[.val (.int p0), .unset] [(.int p0), (.int (1 : Int32))])) rfl (hb hby at_2)) ?_
  refine own_st (T' := s₁) (g' := (mkF m 5 #[.val (.int p0), .unset] [(.int (p0 &&& (2147483647 : Int32))), (.int (1 : Int32))])) (fun _ k => XS.iand X0.here hx rfl (hb hby at_4) rfl k) ?_
  obtain ⟨_, _, ⟨T1, L1, k1, n1⟩, -, X1, ⟨Lc1, hQ1, l1, y1, z1⟩, st1⟩ := Jvm.LawKit.callS X0 hx (y := (⟨"java/lang/Math", "max", "(II)I"⟩ : MethodName)) hown (mvT hZ (hw _ (List.mem_of_getElem? (i := 1) rfl))) (mvT hZ (hw _ (List.mem_of_getElem? (i := 2) rfl))) (mvT hZ (hw _ (List.mem_of_getElem? (i := 3) rfl))) (mvT hZ (hw _ (List.mem_of_getElem? (i := 4) rfl))) (by decide) (backOf (W := 0) (own_max l Z a0 hw [] (1 : Int32) (p0 &&& (2147483647 : Int32)) h0 n0 Z0 ) hZ (hw _ (List.mem_of_getElem? (i := 4) rfl)) (hw _ (List.mem_of_getElem? (i := 3) rfl)) (by decide) (by decide)) (g := (mkF m 5 #[.val (.int p0), .unset] [(.int (p0 &&& (2147483647 : Int32))), (.int (1 : Int32))])) rfl (by rw [hml]; rfl) (argsL := [(.int (1 : Int32)), (.int (p0 &&& (2147483647 : Int32)))]) (rest := []) (lenOf own_pd0 rfl) rfl (by show 2 * 0 + _ ≤ _; exact Nat.le_of_eq rfl) (hb hby at_5) (fun _ _ => ⟨rfl, e0, (by decide : 0 + 0 ≤ _), (by decide : 0 + 0 ≤ _)⟩)
  dsimp only [Pt.U, Pt.locs, Pt.cells, Pt.slots] at X1 l1 y1 z1 st1 hQ1
  subst l1 y1 z1
  obtain ⟨rfl, N1q, e1⟩ := hQ1
  have N0' := Fr.app N0 N1q
  refine own_st (T' := T1) (g' := (mkF m 8 #[.val (.int p0), .unset] [(.int (if (1 : Int32) < (p0 &&& (2147483647 : Int32)) then (p0 &&& (2147483647 : Int32)) else (1 : Int32)))])) st1 ?_
  obtain ⟨y, hy⟩ : ∃ y : Int32, y = (if (1 : Int32) < (p0 &&& (2147483647 : Int32)) then (p0 &&& (2147483647 : Int32)) else (1 : Int32)) := ⟨_, rfl⟩
  rw [← hy]
  have hy1 : ¬ y < (1 : Int32) := by
    rw [hy]; split
    · rename_i q; rw [Int32.lt_iff_toInt_lt] at q ⊢; omega
    · decide
  refine own_st (T' := T1) (g' := (mkF m 9 #[.val (.int p0), .val (.int y)] [])) (fun _ k => XS.istoreN X1.here hx rfl (hb hby at_8) rfl (l' := #[.val (.int p0), .val (.int y)]) rfl k) ?_
  refine own_st (T' := T1) (g' := (mkF m 10 #[.val (.int p0), .val (.int y)] [(.int y)])) (fun _ k => XS.iloadN X1.here hx rfl (hb hby at_9) rfl k) ?_
  obtain ⟨_, _, ⟨T2, L2, k2, n2⟩, -, X2, ⟨Lc2, hQ2, l2, y2, z2⟩, st2⟩ := Jvm.LawKit.callS X1 hx (y := (⟨"com/example/apportion/apportion/dispatch/FwpPolicy", "checkHistory", "(I)I"⟩ : MethodName)) hown (mvT hZ (hw _ (List.mem_of_getElem? (i := 5) rfl))) (mvT hZ (hw _ (List.mem_of_getElem? (i := 6) rfl))) (mvT hZ (hw _ (List.mem_of_getElem? (i := 7) rfl))) (mvT hZ (hw _ (List.mem_of_getElem? (i := 8) rfl))) (by decide) (backOf (W := 0) (own_check l Z a0 hw [] y h0 n0 Z0 hy1) hZ (hw _ (List.mem_of_getElem? (i := 8) rfl)) (hw _ (List.mem_of_getElem? (i := 7) rfl)) (by decide) (by decide)) (g := (mkF m 10 #[.val (.int p0), .val (.int y)] [(.int y)])) rfl (by rw [hml]; rfl) (argsL := [(.int y)]) (rest := []) (lenOf own_pd1 rfl) rfl (by show 2 * 0 + _ ≤ _; exact Nat.le_of_eq rfl) (hb hby at_10) (fun _ _ => ⟨rfl, e1, (by decide : (0 + 0) + 0 ≤ _), (by decide : (0 + 0) + 0 ≤ _)⟩)
  dsimp only [Pt.U, Pt.locs, Pt.cells, Pt.slots] at X2 l2 y2 z2 st2 hQ2
  subst l2 y2 z2
  obtain ⟨rfl, N2q, e2⟩ := hQ2
  have N0'' := Fr.app N0' N2q
  refine own_st (T' := T2) (g' := (mkF m 13 #[.val (.int p0), .val (.int y)] [(.int y)])) st2 ?_
  refine own_st (T' := T2) (g' := (mkF m 14 #[.val (.int p0), .val (.int y)] [(.int y), (.int y)])) (fun _ k => XS.iloadN X2.here hx rfl (hb hby at_13) rfl k) ?_
  refine own_st (T' := T2) (g' := (mkF m 17 #[.val (.int p0), .val (.int y)] [])) (fun _ k => XS.icmpNo X2.here hx rfl (hb hby at_14) rfl (Jvm.Free.XT.ii_ne_f rfl) k) ?_
  refine own_st (T' := T2) (g' := (mkF m 18 #[.val (.int p0), .val (.int y)] [(.int (1 : Int32))])) (fun _ k => XS.iconst X2.here hx rfl (hb hby at_17) k) ?_
  refine own_st (T' := T2) (g' := (mkF m 22 #[.val (.int p0), .val (.int y)] [(.int (1 : Int32))])) (fun _ k => XS.goto X2.here hx rfl (pc0 := 18) (pc' := 22) rfl (hb hby at_18) (by decide) (by decide) k) ?_
  exact own_retN X2 hx Bd.returns Bd.notSynchronized e2 (by simp) (hb hby at_22) ⟨rfl, N0''⟩ (by decide) (by decide)
set_option maxRecDepth 65536 in
set_option maxHeartbeats 40000000 in
theorem comes_1 {Post : Tables → Env → Array Value → State → Outcome → State → Prop} (hpost : ∀ tb e args s v u, (limb_1_1.after args s (.returned v) u = true ∧ limb_1_2.after args s (.returned v) u = true ∧ True) → FrameEnd s (.returned v) u (Jvm.fieldLocs frame_1_writes args s ++ Jvm.arrayLocs frame_1_arrays args s ++ Jvm.staticLocs frame_1_statics s) 0 0 → Post tb e args s (.returned v) u) :
    ArmFor flags0 classFile x code maxLocals ret World_1 tables_1 room_1 Calls_1 rest_1 Pre_1 Post := by
  intro l hfl _ _ p e ha hc hk s m args below hf hA hF happ hP
  obtain ⟨hcalls, hrest, hpre⟩ := hP
  obtain ⟨-, -, -, hnamed, -, -, -, hat⟩ := (Spec.applies_iff hf).mp happ
  obtain ⟨hg, hn⟩ := and_e (Cond.before_iff.mp (show (Jvm.Cond.and given_1 narrow_1).before args s = true from hpre))
  obtain ⟨hcount, r0⟩ := and_e hg
  have hk0 := r0
  obtain ⟨w0, rfl⟩ : ∃ w0 : Value, args = #[w0] := by
    have hs : args.size = 1 := by simpa [Cond.value, given_1] using hcount
    obtain ⟨L⟩ := args
    match L, hs with
    | [w0], _ => exact ⟨w0, rfl⟩
  have hw := fun d (hd : d ∈ tables_1) => atoms_spec (ws := Jvm.Cond.code x code maxLocals ret :: tables_1) hat d (List.mem_cons_of_mem _ hd)
  have hfit : Fit s := fun {y c} hc i hi => by
    obtain ⟨ha, rfl⟩ := Array.getElem?_eq_some_iff.mp hc
    have q := List.all_eq_true.mp ((Array.all_eq_true_iff_forall_mem.mp hF) _ (Array.getElem_mem ha)) i (List.mem_range.mpr hi)
    simpa [Array.getElem?_eq_getElem hi] using q
  obtain ⟨i0, ei0⟩ := is_v hk0
  obtain rfl : w0 = (.int i0) := Option.some.inj ei0
  obtain ⟨n, o, h1, h2, h3, _, L, rfl, ⟨rfl, N⟩, hq⟩ := own_law l s _ hw tables_1 i0 s.heap s.heap.size (Nat.le_refl _) p e ha hc hk s m _ below hf ((Spec.applies_iff_loose hf).mp happ).1 ⟨rfl, State.Warmed39.refl s, rfl⟩ trivial
  refine ⟨n, _, h1, h2, h3, hpost _ _ _ _ _ _ ⟨Cond.after_iff.mpr rfl, Cond.after_iff.mpr (eq_i res_at (Term.int_eval (1)) rfl), trivial⟩ ⟨hq.1, hq.2.1, (hq.2.2.sift fun y hy => Or.inr (N y hy)).mono (by decide) (by decide)⟩⟩
theorem main_1_1 : Claimed_1_1 := comes_1 fun _ _ _ _ _ _ h hF => ⟨h.1, hF⟩
theorem main_1_2 : Claimed_1_2 := comes_1 fun _ _ _ _ _ _ h hF => ⟨h.2.1, hF⟩
end Jvm.Pilot.@@N@@
namespace Jvm.Pilot.@@N@@
open Jvm Jvm.ClassFile Sem Op Lib Jvm.Free Jvm.Stand Jvm.Pilot.@@N@@.Jvm.D
/-! MADE BY PROGRAM (witnessworld.py) out of the Statement's table words and the real class files: 12 classes; the members and pool entries that the words name. The judged class is class 1, her method 1. -/
namespace start1
open Jvm.ClassFile
def u (s : String) : CpInfo := .utf8 (stringToUtf16 s)
/-- a pool by its gaps: so many unusable entries, then the entry; so many at the end -/
def gap : Nat → List CpInfo → List CpInfo
  | 0, r => r
  | n + 1, r => .unusable :: gap n r
def poolList (es : List (Nat × CpInfo)) (last : Nat) : List CpInfo := es.foldr (fun e r => gap e.1 (e.2 :: r)) (gap last [])
def pool (es : List (Nat × CpInfo)) (last : Nat) : Array CpInfo := ⟨poolList es last⟩
def fileOf (pool : Array CpInfo) (this : Nat) (attrs : Array Attribute := #[]) (ms : Array MethodInfo := #[]) (fl : Nat := 33) (sup : Nat := 0) (ifs : Array Nat := #[]) (fds : Array FieldInfo := #[]) : ClassFile where
  minorVersion := 0
  majorVersion := 65
  constantPool := pool
  accessFlags := fl
  thisClass := this
  superClass := sup
  interfaces := ifs
  fields := fds
  methods := ms
  attributes := attrs
def plain (name : String) (sup : Option ClassId) : Class where
  name := name
  kind := .ordinary
  loader := none
  accessFlags := 33
  super := sup
  interfaces := #[]
  cf := none
  fields := #[]
  methods := #[]
  instanceTypes := #[]
  staticTypes := #[]
  resolved := #[]
  callSites := []
  init := .initialized
  statics := none
  mirror := none

def pool0 : Array CpInfo := pool [(5, u "<init>"), (0, u "()V"), (1, .class_ 10), (1, u "java/lang/Object")] 113

def k0m0 : Method := { name := "<init>", desc := "()V", sig := { parameters := [], returnType := none }, accessFlags := 1, code := none }
/-- java/lang/Object -/
def k0 : Class := { plain "java/lang/Object" none with
  accessFlags := 33
  interfaces := #[]
  cf := some (fileOf pool0 8 #[] #[{ accessFlags := 1, nameIndex := 5, descriptorIndex := 6, attributes := #[] }] 33 0 #[] #[])
  fields := #[]
  methods := #[k0m0]
  instanceTypes := #[]
  staticTypes := #[]
  resolved := Array.replicate 124 none
  statics := none }

def pool1 : Array CpInfo := pool [(2, .class_ 4), (1, u "java/lang/Object"), (0, u "<init>"), (0, u "()V"), (0, .integer 2147483647), (0, .methodref 9 10), (0, .class_ 11), (0, .nameAndType 12 13), (0, u "java/lang/Math"), (0, u "max"), (0, u "(II)I"), (0, .methodref 15 16), (0, .class_ 17), (0, .nameAndType 18 19), (0, u "com/example/apportion/apportion/dispatch/FwpPolicy"), (0, u "checkHistory"), (0, u "(I)I"), (0, .class_ 21), (0, u "com/example/apportion/apportion/dispatch/FwpPolicyCheckHistoryPinLaw"), (2, u "law"), (0, u "(I)Z")] 3

def k1m0 : Method := { name := "<init>", desc := "()V", sig := { parameters := [], returnType := none }, accessFlags := 2, code := none }
def k1c1 : Code := { maxStack := 3, maxLocals := 2, code := code, exceptionTable := #[], attributes := #[] }
def k1m1 : Method := { name := "law", desc := "(I)Z", sig := { parameters := [.int], returnType := some .boolean }, accessFlags := 9, code := some k1c1 }
/-- com/example/apportion/apportion/dispatch/FwpPolicyCheckHistoryPinLaw -/
def k1 : Class := { plain "com/example/apportion/apportion/dispatch/FwpPolicyCheckHistoryPinLaw" (some 0) with
  accessFlags := 49
  interfaces := #[]
  cf := some (fileOf pool1 20 #[] #[{ accessFlags := 2, nameIndex := 5, descriptorIndex := 6, attributes := #[] }, { accessFlags := 9, nameIndex := 24, descriptorIndex := 25, attributes := #[] }] 49 2 #[] #[])
  fields := #[]
  methods := #[k1m0, k1m1]
  instanceTypes := #[]
  staticTypes := #[]
  resolved := Array.replicate 29 none
  statics := none }

def pool2 : Array CpInfo := pool [(1, .class_ 2), (0, u "java/lang/Math"), (1, .class_ 6), (1, u "java/lang/Object"), (0, u "<init>"), (0, u "()V"), (89, .class_ 100), (1, u "java/lang/Math$RandomNumberGeneratorHolder"), (71, u "negativeZeroFloatBits"), (0, u "J"), (2, u "negativeZeroDoubleBits"), (21, u "max"), (46, u "$assertionsDisabled"), (0, u "Z"), (88, u "(II)I"), (2, u "twoToTheDoubleScaleDown"), (0, u "D"), (4, u "twoToTheDoubleScaleUp"), (9, u "E"), (3, u "PI"), (2, u "TAU"), (2, u "DEGREES_TO_RADIANS"), (0, u "RADIANS_TO_DEGREES")] 94

def k2m0 : Method := { name := "<init>", desc := "()V", sig := { parameters := [], returnType := none }, accessFlags := 2, code := none }
def k2c1 : Code := { maxStack := 2, maxLocals := 2, code := jdk_29_method_65_code, exceptionTable := #[], attributes := #[] }
def k2m1 : Method := { name := "max", desc := "(II)I", sig := { parameters := [.int, .int], returnType := some .int }, accessFlags := 9, code := some k2c1 }
/-- java/lang/Math -/
def k2 : Class := { plain "java/lang/Math" (some 0) with
  accessFlags := 49
  interfaces := #[]
  cf := some (fileOf pool2 1 #[.nestMembers #[98]] #[{ accessFlags := 2, nameIndex := 7, descriptorIndex := 8, attributes := #[] }, { accessFlags := 9, nameIndex := 198, descriptorIndex := 335, attributes := #[] }] 49 4 #[] #[{ accessFlags := 25, nameIndex := 354, descriptorIndex := 339, attributes := #[] }, { accessFlags := 25, nameIndex := 358, descriptorIndex := 339, attributes := #[] }, { accessFlags := 25, nameIndex := 361, descriptorIndex := 339, attributes := #[] }, { accessFlags := 26, nameIndex := 364, descriptorIndex := 339, attributes := #[] }, { accessFlags := 26, nameIndex := 365, descriptorIndex := 339, attributes := #[] }, { accessFlags := 26, nameIndex := 172, descriptorIndex := 173, attributes := #[] }, { accessFlags := 26, nameIndex := 176, descriptorIndex := 173, attributes := #[] }, { accessFlags := 8, nameIndex := 344, descriptorIndex := 339, attributes := #[] }, { accessFlags := 8, nameIndex := 338, descriptorIndex := 339, attributes := #[] }, { accessFlags := 4120, nameIndex := 245, descriptorIndex := 246, attributes := #[] }])
  fields := #[{ name := "E", type := .double, accessFlags := 25, slot := 0, constantValue := 0 }, { name := "PI", type := .double, accessFlags := 25, slot := 1, constantValue := 0 }, { name := "TAU", type := .double, accessFlags := 25, slot := 2, constantValue := 0 }, { name := "DEGREES_TO_RADIANS", type := .double, accessFlags := 26, slot := 3, constantValue := 0 }, { name := "RADIANS_TO_DEGREES", type := .double, accessFlags := 26, slot := 4, constantValue := 0 }, { name := "negativeZeroFloatBits", type := .long, accessFlags := 26, slot := 5, constantValue := 0 }, { name := "negativeZeroDoubleBits", type := .long, accessFlags := 26, slot := 6, constantValue := 0 }, { name := "twoToTheDoubleScaleUp", type := .double, accessFlags := 8, slot := 7, constantValue := 0 }, { name := "twoToTheDoubleScaleDown", type := .double, accessFlags := 8, slot := 8, constantValue := 0 }, { name := "$assertionsDisabled", type := .boolean, accessFlags := 4120, slot := 9, constantValue := 0 }]
  methods := #[k2m0, k2m1]
  instanceTypes := #[]
  staticTypes := #[.double, .double, .double, .double, .double, .long, .long, .double, .double, .boolean]
  resolved := Array.replicate 460 none
  statics := none }

def pool3 : Array CpInfo := pool [(7, .class_ 8), (0, u "com/example/apportion/apportion/simulation/Policy"), (0, .class_ 10), (0, u "java/lang/Object")] 18

/-- com/example/apportion/apportion/simulation/Policy -/
def k3 : Class := { plain "com/example/apportion/apportion/simulation/Policy" (some 0) with
  accessFlags := 1537
  interfaces := #[]
  cf := some (fileOf pool3 7 #[] #[] 1537 9 #[] #[])
  fields := #[]
  methods := #[]
  instanceTypes := #[]
  staticTypes := #[]
  resolved := Array.replicate 29 none
  statics := none }

def pool4 : Array CpInfo := pool [(2, .class_ 4), (1, u "java/lang/Object"), (6, .class_ 13), (1, u "com/example/apportion/apportion/dispatch/WorkflowPriority"), (0, u "arrived"), (0, u "Ljava/util/Map;"), (25, u "served"), (0, u "Ljava/util/NavigableSet;"), (6, .class_ 50), (0, u "com/example/apportion/apportion/dispatch/WorkflowPriority$Arrived"), (47, .class_ 99), (0, u "com/example/apportion/apportion/dispatch/WorkflowPriority$EligibleTasks"), (74, .class_ 175), (0, u "com/example/apportion/apportion/simulation/Policy")] 52

/-- com/example/apportion/apportion/dispatch/WorkflowPriority -/
def k4 : Class := { plain "com/example/apportion/apportion/dispatch/WorkflowPriority" (some 0) with
  accessFlags := 1057
  interfaces := #[3]
  cf := some (fileOf pool4 11 #[.nestMembers #[49, 98]] #[] 1057 2 #[174] #[{ accessFlags := 18, nameIndex := 14, descriptorIndex := 15, attributes := #[] }, { accessFlags := 18, nameIndex := 41, descriptorIndex := 42, attributes := #[] }])
  fields := #[{ name := "arrived", type := (.object "java/util/Map"), accessFlags := 18, slot := 0, constantValue := 0 }, { name := "served", type := (.object "java/util/NavigableSet"), accessFlags := 18, slot := 1, constantValue := 0 }]
  methods := #[]
  instanceTypes := #[(.object "java/util/Map"), (.object "java/util/NavigableSet")]
  staticTypes := #[]
  resolved := Array.replicate 228 none
  statics := none }

def pool5 : Array CpInfo := pool [(6, .class_ 8), (1, u "com/example/apportion/apportion/dispatch/WorkflowPriority"), (8, .class_ 19), (1, u "com/example/apportion/apportion/dispatch/FwpPolicy"), (0, u "recentSlowdowns"), (0, u "Ljava/util/Deque;"), (7, u "recentSum"), (0, u "Lcom/example/apportion/apportion/BoundedSum;"), (5, u "Lcom/example/apportion/apportion/Rational;"), (2, u "target"), (2, u "checkHistory"), (0, u "(I)I"), (5, u "history"), (0, u "I"), (5, u "recentRuntimes"), (0, u "Lcom/example/apportion/apportion/SlidingSum;"), (2, u "recentEstimates"), (10, .class_ 72), (0, u "com/example/apportion/apportion/dispatch/FwpPolicy$TargetSlack"), (142, u "DEFAULT_HISTORY"), (2, u "DEFAULT_TASKS"), (1, u "TARGET_DECIMALS")] 73

def k5c0 : Code := { maxStack := 3, maxLocals := 1, code := prog_41_method_2_code, exceptionTable := #[], attributes := #[] }
def k5m0 : Method := { name := "checkHistory", desc := "(I)I", sig := { parameters := [.int], returnType := some .int }, accessFlags := 9, code := some k5c0 }
/-- com/example/apportion/apportion/dispatch/FwpPolicy -/
def k5 : Class := { plain "com/example/apportion/apportion/dispatch/FwpPolicy" (some 4) with
  accessFlags := 33
  interfaces := #[]
  cf := some (fileOf pool5 17 #[.nestMembers #[71]] #[{ accessFlags := 9, nameIndex := 42, descriptorIndex := 43, attributes := #[] }] 33 6 #[] #[{ accessFlags := 25, nameIndex := 215, descriptorIndex := 50, attributes := #[] }, { accessFlags := 25, nameIndex := 218, descriptorIndex := 50, attributes := #[] }, { accessFlags := 24, nameIndex := 220, descriptorIndex := 50, attributes := #[] }, { accessFlags := 18, nameIndex := 49, descriptorIndex := 50, attributes := #[] }, { accessFlags := 18, nameIndex := 20, descriptorIndex := 21, attributes := #[] }, { accessFlags := 18, nameIndex := 29, descriptorIndex := 30, attributes := #[] }, { accessFlags := 2, nameIndex := 39, descriptorIndex := 36, attributes := #[] }, { accessFlags := 18, nameIndex := 56, descriptorIndex := 57, attributes := #[] }, { accessFlags := 18, nameIndex := 60, descriptorIndex := 57, attributes := #[] }])
  fields := #[{ name := "DEFAULT_HISTORY", type := .int, accessFlags := 25, slot := 0, constantValue := 0 }, { name := "DEFAULT_TASKS", type := .int, accessFlags := 25, slot := 1, constantValue := 0 }, { name := "TARGET_DECIMALS", type := .int, accessFlags := 24, slot := 2, constantValue := 0 }, { name := "history", type := .int, accessFlags := 18, slot := 2, constantValue := 0 }, { name := "recentSlowdowns", type := (.object "java/util/Deque"), accessFlags := 18, slot := 3, constantValue := 0 }, { name := "recentSum", type := (.object "com/example/apportion/apportion/BoundedSum"), accessFlags := 18, slot := 4, constantValue := 0 }, { name := "target", type := (.object "com/example/apportion/apportion/Rational"), accessFlags := 2, slot := 5, constantValue := 0 }, { name := "recentRuntimes", type := (.object "com/example/apportion/apportion/SlidingSum"), accessFlags := 18, slot := 6, constantValue := 0 }, { name := "recentEstimates", type := (.object "com/example/apportion/apportion/SlidingSum"), accessFlags := 18, slot := 7, constantValue := 0 }]
  methods := #[k5m0]
  instanceTypes := #[(.object "java/util/Map"), (.object "java/util/NavigableSet"), .int, (.object "java/util/Deque"), (.object "com/example/apportion/apportion/BoundedSum"), (.object "com/example/apportion/apportion/Rational"), (.object "com/example/apportion/apportion/SlidingSum"), (.object "com/example/apportion/apportion/SlidingSum")]
  staticTypes := #[.int, .int, .int]
  resolved := Array.replicate 294 none
  statics := none }

def pool6 : Array CpInfo := pool [(1, u "java/lang/Cloneable"), (0, .class_ 1), (0, u "java/lang/Object"), (0, .class_ 3)] 3

/-- java/lang/Cloneable -/
def k6 : Class := { plain "java/lang/Cloneable" (some 0) with
  accessFlags := 1537
  interfaces := #[]
  cf := some (fileOf pool6 2 #[] #[] 1537 4 #[] #[])
  fields := #[]
  methods := #[]
  instanceTypes := #[]
  staticTypes := #[]
  resolved := Array.replicate 8 none
  statics := none }

def pool7 : Array CpInfo := pool [(1, u "java/io/Serializable"), (0, .class_ 1), (0, u "java/lang/Object"), (0, .class_ 3)] 3

/-- java/io/Serializable -/
def k7 : Class := { plain "java/io/Serializable" (some 0) with
  accessFlags := 1537
  interfaces := #[]
  cf := some (fileOf pool7 2 #[] #[] 1537 4 #[] #[])
  fields := #[]
  methods := #[]
  instanceTypes := #[]
  staticTypes := #[]
  resolved := Array.replicate 8 none
  statics := none }

/-- the primitive byte -/
def k8 : Class := { plain "byte" none with kind := .primitive 'B', accessFlags := 0x411 }
/-- [B -/
def k9 : Class := { plain "[B" (some 0) with kind := .array 8 .byte, interfaces := #[6, 7], accessFlags := 1041 }

/-- the primitive int -/
def k10 : Class := { plain "int" none with kind := .primitive 'I', accessFlags := 0x411 }
/-- [I -/
def k11 : Class := { plain "[I" (some 0) with kind := .array 10 .int, interfaces := #[6, 7], accessFlags := 1041 }

def heap : Heap := #[]
def classes : Array Class := #[k0, k1, k2, k3, k4, k5, k6, k7, k8, k9, k10, k11]
def interned : List (Array UInt16 × Addr) := []
def slotsUsed : Nat := 0
def theMethod : MethodId := ⟨1, 1⟩
def args0 : Array Value := #[.int 5]
def aboutOver (below : List Frame) : State where
  vm := { classes := classes, interned := interned.toArray }
  heap := heap
  slotsUsed := slotsUsed
  threads := #[{ frames := .invoking theMethod args0 :: below }]
def below0 : List Frame := [.native { method := ⟨0, 0⟩, args := #[] }]
def about1 : State := aboutOver below0
def p0 : Program := .bare "" "" ""
def e0 : Env := launch0.env 0 0 0
theorem w_frames : about1.frames = Frame.invoking theMethod args0 :: below0 := rfl
set_option maxRecDepth 65536 in
theorem w_args : argsFit about1.vm theMethod args0 = true := by decide +kernel
set_option maxRecDepth 65536 in
theorem w_heap : heapFits about1 = true := by decide +kernel
set_option maxRecDepth 65536 in
theorem w_runnable : about1.curStatus? = some .runnable := by decide +kernel
set_option maxRecDepth 65536 in
theorem w_alone : about1.alone = true := by decide +kernel
set_option maxRecDepth 65536 in
theorem w_named : about1.methodNamed? x = some theMethod := by decide +kernel
set_option maxRecDepth 65536 in
theorem w_hears : about1.hears theMethod below0 = true := by decide +kernel
set_option maxRecDepth 65536 in
theorem w_ripe : about1.ripe theMethod args0 below0 = true := by decide +kernel
theorem w_running : about1.status = .running := rfl
set_option maxRecDepth 65536 in
theorem w_room : about1.hasRoom e0.platform room_1 = true :=
  launch0.hasRoom_least _ room_1 (by decide +kernel) (by decide +kernel) (by decide +kernel) (by decide +kernel) (by decide +kernel) (by decide +kernel)
theorem allAtoms_all (ts : List Jvm.Cond) (a : Array Jvm.Value) (st : Jvm.State) : (allAtoms ts).before a st = ts.all (fun c => c.before a st) := by
  induction ts with
  | nil => rfl
  | cons c t ih =>
    show (Jvm.Cond.and c (allAtoms t)).before a st = _
    rw [Jvm.Cond.before_and, ih, List.all_cons]
def words1 : List Jvm.Cond := Jvm.Cond.code x code maxLocals ret :: tables_1
/-- a 'code' word, met by the world's own term for the bytes: nothing is compared byte by byte -/
theorem code_word {y : MethodName} {bytes : ByteArray} {mx : Nat} {rt : Option FieldType} {a : Array Value} {s : State} {m : MethodId} {meth : Method} {c : Code} (h1 : s.methodNamed? y = some m) (h2 : s.vm.method? m = some meth) (h3 : meth.code = some c) (h4 : c.code = bytes)
    (h5 : (c.maxLocals == mx && c.exceptionTable.isEmpty && decide (c.maxStack ≤ mostOperands) && decide (meth.sig.returnType = rt) && !meth.locks && decide (parseMethodDescriptor y.desc = some meth.sig)) = true) : (Jvm.Cond.code y bytes mx rt).before a s = true := by
  simp only [Bool.and_eq_true, beq_iff_eq, Bool.not_eq_true', decide_eq_true_eq] at h5
  obtain ⟨⟨⟨⟨⟨g1, g2⟩, g3⟩, g4⟩, g5⟩, g6⟩ := h5
  simp [Cond.before, Cond.holds, Cond.value, h1, h2, h3, h4, g1, g2, g3, g4, g5, g6]
def isCode : Jvm.Cond → Bool
  | .code _ _ _ _ => true
  | _ => false
theorem all_split {L : List Jvm.Cond} {P : Jvm.Cond → Bool} (h1 : L.all (fun c => isCode c || P c) = true) (h2 : ∀ c ∈ L.filter isCode, P c = true) : L.all P = true := by
  refine List.all_eq_true.mpr fun c hc => ?_
  have h := List.all_eq_true.mp h1 c hc
  rcases Bool.eq_false_or_eq_true (isCode c) with hi | hi
  · exact h2 c (List.mem_filter.mpr ⟨hc, hi⟩)
  · simpa [hi] using h
set_option maxRecDepth 65536 in
theorem w_c0 : (Jvm.Cond.code x code maxLocals ret).before args0 about1 = true := code_word (m := ⟨1, 1⟩) (meth := k1m1) (c := k1c1) (by decide +kernel) rfl rfl rfl (by decide +kernel)
set_option maxRecDepth 65536 in
theorem w_c1 : (Jvm.Cond.code ({ cls := "java/lang/Math", name := "max", desc := "(II)I" } : Jvm.MethodName) jdk_29_method_65_code (2 : Nat) (Option.some Jvm.ClassFile.FieldType.int)).before args0 about1 = true := code_word (m := ⟨2, 1⟩) (meth := k2m1) (c := k2c1) (by decide +kernel) rfl rfl rfl (by decide +kernel)
set_option maxRecDepth 65536 in
theorem w_c2 : (Jvm.Cond.code ({ cls := "com/example/apportion/apportion/dispatch/FwpPolicy", name := "checkHistory", desc := "(I)I" } : Jvm.MethodName) prog_41_method_2_code (1 : Nat) (Option.some Jvm.ClassFile.FieldType.int)).before args0 about1 = true := code_word (m := ⟨5, 0⟩) (meth := k5m0) (c := k5c0) (by decide +kernel) rfl rfl rfl (by decide +kernel)
def codes1 : List Jvm.Cond := [Jvm.Cond.code x code maxLocals ret, Jvm.Cond.code ({ cls := "java/lang/Math", name := "max", desc := "(II)I" } : Jvm.MethodName) jdk_29_method_65_code (2 : Nat) (Option.some Jvm.ClassFile.FieldType.int), Jvm.Cond.code ({ cls := "com/example/apportion/apportion/dispatch/FwpPolicy", name := "checkHistory", desc := "(I)I" } : Jvm.MethodName) prog_41_method_2_code (1 : Nat) (Option.some Jvm.ClassFile.FieldType.int)]
set_option maxRecDepth 65536 in
theorem codes_eq : words1.filter isCode = codes1 := rfl
theorem w_codes : ∀ c ∈ words1.filter isCode, c.before args0 about1 = true := by
  rw [codes_eq]
  intro c hc
  simp only [codes1, List.mem_cons, List.not_mem_nil, or_false] at hc
  rcases hc with rfl | rfl | rfl
  · exact w_c0
  · exact w_c1
  · exact w_c2
set_option maxRecDepth 65536 in
theorem w_t1 : words1.all (fun c => isCode c || c.before args0 about1) = true := by decide +kernel
theorem w_tables : (allAtoms (Jvm.Cond.code x code maxLocals ret :: tables_1)).before args0 about1 = true := by
  rw [allAtoms_all]
  show words1.all (fun c => c.before args0 about1) = true
  refine all_split ?_ w_codes
  rw [w_t1]
set_option maxRecDepth 65536 in
theorem w_case : (Jvm.Cond.and given_1 narrow_1).before args0 about1 = true := by decide +kernel
theorem w_applies : (headSpec (Jvm.Cond.code x code maxLocals ret :: tables_1) room_1).applies x e0.platform about1 = true :=
  (Spec.applies_iff w_frames).mpr ⟨w_running, w_runnable, w_alone, w_named, w_hears, w_ripe, w_room, w_tables⟩
theorem atStart : AtStart classFile x code maxLocals ret World_1 tables_1 room_1 Calls_1 rest_1 Pre_1 launch0 p0 e0 about1 theMethod args0 below0 :=
  ⟨lists_1, trivial, launch0.admits_env _ _ _, launch0.least_env, fairChoices_fair.cas, fairChoices_fair.clock, w_frames, w_args, w_heap, w_applies, trivial, trivial, w_case⟩
end start1
theorem witness_1 : WitnessClaimed_1 := ⟨start1.p0, start1.e0, start1.about1, start1.theMethod, start1.args0, start1.below0, start1.atStart⟩
end Jvm.Pilot.@@N@@
