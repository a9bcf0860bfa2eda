import JvmDerived
import JvmDerived.Pilot.@@N@@Statement
import JvmDerived.Pilot.@@N@@Code
set_option linter.unusedVariables false
set_option linter.unusedSimpArgs false
namespace Jvm.Pilot.@@N@@
open Jvm Jvm.ClassFile Sem Op Lib Jvm.Free Jvm.Stand Jvm.LawKit Jvm.RoadKit Bundle Jvm.Pilot.@@N@@.Jvm.D
section Own
variable {p : Program} {l : Launch} {e : Env} {R : Room} {s : State} {m : MethodId} {args : Array Value} {below : List Frame} {meth : Method} {c : Code} {T T' : State} {locs : List Loc} {cells slots : Nat} {Z : State} {h h' : Heap} {P : Option Value → Heap → List Loc → Prop} {cm sm : Nat} {g g' : JFrame}
/-- from where the walk stands the body comes to its end, and P says what it leaves -/
def own_Go (p : Program) (e : Env) (below : List Frame) (s : State) (P : Option Value → Heap → List Loc → Prop) (cm sm : Nat) (T : State) (g : JFrame) : Prop :=
  ∃ s₂ o, Steps p.tables e below (T.setTop g) s₂ ∧ s₂.status = .running ∧ Ended s₂ below o ∧ ∃ v L, o = .returned v ∧ P v s₂.heap L ∧ FrameEnd s o s₂ L cm sm
theorem own_st (st : ∀ t, Steps p.tables e below (T'.setTop g') t → Steps p.tables e below (T.setTop g) t) (k : own_Go p e below s P cm sm T' g') : own_Go p e below s P cm sm T g := by
  obtain ⟨s₂, o, h1, h2⟩ := k; exact ⟨s₂, o, st _ h1, h2⟩
theorem own_tr (st : Steps p.tables e below (T.setTop g) (T'.setTop g')) (k : own_Go p e below s P cm sm T' g') : own_Go p e below s P cm sm T g := own_st (fun _ q => st.trans q) k
theorem own_out (X : Stand p l e R s m args below meth c T locs cells slots) {v : Option Value} (hv : meth.sig.returnType = none → v = none) (hlk : meth.locks = false) (eT : T.heap = h)
    (hret : ∀ fs, (∀ (f : JFrame) (acts : List Action), f.method = m → f.locked = none → f.entered = [] → (doReturn e (T.setTop f) acts v).1 = T.setFrames fs) → Steps p.tables e below (T.setTop g) (T.setFrames fs))
    (hP : P v h locs) (hc : cells ≤ cm) (hs : slots ≤ sm) : own_Go p e below s P cm sm T g := by
  obtain ⟨fs, hr, hrun, hended, hW, hsame⟩ := X.leave hv hlk
  subst eT
  exact ⟨_, _, hret fs hr, hrun, hended, v, locs, rfl, hP, ⟨_, rfl⟩, hW, hsame.mono hc hs⟩
theorem own_retI (X : Stand p l e R s m args below meth c T locs cells slots) (hx : p.tables.exec = Jvm.exec) (hret : meth.sig.returnType = some .int) (hlk : meth.locks = false) (eT : T.heap = h) {pc : Nat} {Ls : Array Slot} {z : Int32} {rest : List Value} (hd : decode c.code pc = .ok (.ireturn, 1))
    (hP : P (some (.int z)) h locs) (hc : cells ≤ cm) (hs : slots ≤ sm) : own_Go p e below s P cm sm T (mkF m pc Ls (.int z :: rest)) :=
  own_out X (fun q => by rw [hret] at q; cases q) hlk eT (fun fs hr => retOut X hx hret rfl (Or.inl ⟨rfl, Or.inl rfl, z, rfl⟩) hd hr) hP hc hs
theorem own_retN (X : Stand p l e R s m args below meth c T locs cells slots) (hx : p.tables.exec = Jvm.exec) {t : FieldType} (hret : meth.sig.returnType = some t) (hlk : meth.locks = false) (eT : T.heap = h) (ht : t = .boolean ∨ t = .byte ∨ t = .char ∨ t = .short) {pc : Nat} {Ls : Array Slot} {z : Int32} {rest : List Value} (hd : decode c.code pc = .ok (.ireturn, 1))
    (hP : P (some (.int (nar t z))) h locs) (hc : cells ≤ cm) (hs : slots ≤ sm) : own_Go p e below s P cm sm T (mkF m pc Ls (.int z :: rest)) :=
  own_out X (fun q => by rw [hret] at q; cases q) hlk eT (fun fs hr => retN X hx hret ht hd hr) hP hc hs
theorem own_retJ (X : Stand p l e R s m args below meth c T locs cells slots) (hx : p.tables.exec = Jvm.exec) (hret : meth.sig.returnType = some .long) (hlk : meth.locks = false) (eT : T.heap = h) {pc : Nat} {Ls : Array Slot} {z : Int64} {rest : List Value} (hd : decode c.code pc = .ok (.lreturn, 1))
    (hP : P (some (.long z)) h locs) (hc : cells ≤ cm) (hs : slots ≤ sm) : own_Go p e below s P cm sm T (mkF m pc Ls (.long z :: rest)) :=
  own_out X (fun q => by rw [hret] at q; cases q) hlk eT (fun fs hr => retOut X hx hret rfl (Or.inr (Or.inl ⟨rfl, rfl, z, rfl⟩)) hd hr) hP hc hs
theorem own_retR (X : Stand p l e R s m args below meth c T locs cells slots) (hx : p.tables.exec = Jvm.exec) {t : FieldType} (hret : meth.sig.returnType = some t) (hlk : meth.locks = false) (eT : T.heap = h) (ht : t.isReference = true) {pc : Nat} {Ls : Array Slot} {w : Value} (hw : w.isRef = true) {rest : List Value} (hd : decode c.code pc = .ok (.areturn, 1))
    (hP : P (some w) h locs) (hc : cells ≤ cm) (hs : slots ≤ sm) : own_Go p e below s P cm sm T (mkF m pc Ls (w :: rest)) :=
  own_out X (fun q => by rw [hret] at q; cases q) hlk eT (fun fs hr => retOut X hx hret (by cases t <;> cases w <;> first | rfl | (simp [Value.isRef] at hw; done) | (simp [FieldType.isReference] at ht; done)) (Or.inr (Or.inr (Or.inr (Or.inr ⟨rfl, ht, hw⟩)))) hd hr) hP hc hs
theorem own_ret0 (X : Stand p l e R s m args below meth c T locs cells slots) (hx : p.tables.exec = Jvm.exec) (hret : meth.sig.returnType = none) (hlk : meth.locks = false) (eT : T.heap = h) {pc : Nat} {Ls : Array Slot} (hd : decode c.code pc = .ok (.return_, 1))
    (hP : P none h locs) (hc : cells ≤ cm) (hs : slots ≤ sm) : own_Go p e below s P cm sm T (mkF m pc Ls []) :=
  own_out X (fun _ => rfl) hlk eT (fun fs hr => X.returnOut hx hret hd hr) hP hc hs
/-- an array by its length and what each place holds -/
def own_Av (Z : State) (h : Heap) (a : Addr) (k : ClassId) (ty : FieldType) (n : Nat) (f : Nat → Value) : Prop := ∃ cl : Cell, Arr Z h a cl ty ∧ cl.cls = k ∧ cl.slots.size = n ∧ ∀ j, j < n → cl.slots[j]? = some (f j)
variable {a b : Addr} {k : ClassId} {ty : FieldType} {n i sl : Nat} {f : Nat → Value} {v w : Value} {ws : List Addr} {z j x : Int32} {rest : List Value}
theorem own_Av.lt (F : own_Av Z h a k ty n f) : a < h.size := by obtain ⟨cl, A, -⟩ := F; exact A.lt
theorem own_Av.ext (F : own_Av Z h a k ty n f) (E : Ext h h') : own_Av Z h' a k ty n f := by obtain ⟨cl, A, r⟩ := F; exact ⟨cl, A.ext E, r⟩
theorem own_Av.other (F : own_Av Z h b k ty n f) (W : Wr h h' a sl v) (q : b ≠ a) : own_Av Z h' b k ty n f := by obtain ⟨cl, A, r⟩ := F; exact ⟨cl, A.other W q, r⟩
theorem own_Av.keep (F : own_Av Z h a k ty n f) (K : Keep h h' ws) (q : a ∉ ws) : own_Av Z h' a k ty n f := by obtain ⟨cl, A, r⟩ := F; exact ⟨cl, ⟨K.2.1 a cl A.1 q, A.2⟩, r⟩
theorem own_Av.new (A : Arr Z h a (newA k ty z) ty) (hz : z.toNatClampNeg = n) : own_Av Z h a k ty n (fun _ => defaultValue ty) := ⟨_, A, rfl, (sz_new _ _ _).trans hz, fun q hq => by
  subst hz; simp [newA, hq]⟩
theorem own_Av.set (F : own_Av Z h a k ty n f) (W : Wr h h' a i v) (hi : i < n) : own_Av Z h' a k ty n (fun q => if q = i then v else f q) := by
  obtain ⟨cl, A, r1, r2, r3⟩ := F
  refine ⟨_, A.same W, r1, by rw [sz_set]; exact r2, fun q hq => ?_⟩
  by_cases u : q = i
  · subst u; simp [Cell.setSlot, r2, hi]
  · have := r3 q hq; simp only [Cell.setSlot, u, if_false]; rw [Array.getElem?_setIfInBounds_ne (Ne.symm u)]; exact this
theorem own_Av.to {f' : Nat → Value} (F : own_Av Z h a k ty n f) (q : ∀ j, j < n → f j = f' j) : own_Av Z h a k ty n f' := by
  obtain ⟨cl, A, r1, r2, r3⟩ := F; exact ⟨cl, A, r1, r2, fun j hj => by rw [← q j hj]; exact r3 j hj⟩
theorem own_idx (hj : j.toInt = i) : j.toNatClampNeg = i := by simp [Int32.toNatClampNeg, hj]
theorem own_inb {cl : Cell} (hj : j.toInt = i) (hs : cl.slots.size = n) (hi : i < n) : ¬ (j < 0 ∨ cl.slots.size ≤ j.toNatClampNeg) := by
  rw [own_idx hj, hs, Int32.lt_iff_toInt_lt, hj]; have : (0 : Int32).toInt = 0 := rfl; omega
theorem own_stC (X : Stand p l e R s m args below meth c T locs cells slots) (hx : p.tables.exec = Jvm.exec) (hZ : Z.Warmed39 s.vm) (eT : T.heap = h) (F : own_Av Z h a k .char n f) (hj : j.toInt = i) (hi : i < n) (hg : g.method = m) (hs : g.stack = .int x :: .int j :: .ref a :: rest) (hd : decode c.code g.pc = .ok (.castore, 1)) :
    ∃ T' h', Stand p l e R s m args below meth c T' (locs ++ [⟨a, i⟩]) cells slots ∧ T'.heap = h' ∧ Wr h h' a i (.int (nar .char x)) ∧ own_Av Z h' a k .char n (fun q => if q = i then .int (nar .char x) else f q) ∧ ∀ target, Steps p.tables e below (T'.setTop { g with pc := g.pc + 1, stack := rest }) target → Steps p.tables e below (T.setTop g) target := by
  obtain ⟨cl, A, r1, r2, r3⟩ := F
  obtain ⟨T', h', X', e', W, st⟩ := stC X hx hZ eT A (own_inb hj r2 hi) hg hs hd
  rw [own_idx hj] at X' W
  exact ⟨T', h', X', e', W, own_Av.set ⟨cl, A, r1, r2, r3⟩ W hi, st⟩
theorem own_stB (X : Stand p l e R s m args below meth c T locs cells slots) (hx : p.tables.exec = Jvm.exec) (hZ : Z.Warmed39 s.vm) (eT : T.heap = h) (F : own_Av Z h a k .byte n f) (hj : j.toInt = i) (hi : i < n) (hg : g.method = m) (hs : g.stack = .int x :: .int j :: .ref a :: rest) (hd : decode c.code g.pc = .ok (.bastore, 1)) :
    ∃ T' h', Stand p l e R s m args below meth c T' (locs ++ [⟨a, i⟩]) cells slots ∧ T'.heap = h' ∧ Wr h h' a i (.int (nar .byte x)) ∧ own_Av Z h' a k .byte n (fun q => if q = i then .int (nar .byte x) else f q) ∧ ∀ target, Steps p.tables e below (T'.setTop { g with pc := g.pc + 1, stack := rest }) target → Steps p.tables e below (T.setTop g) target := by
  obtain ⟨cl, A, r1, r2, r3⟩ := F
  obtain ⟨T', h', X', e', W, st⟩ := stB X hx hZ eT A (own_inb hj r2 hi) hg hs hd
  rw [own_idx hj] at X' W
  exact ⟨T', h', X', e', W, own_Av.set ⟨cl, A, r1, r2, r3⟩ W hi, st⟩
theorem own_stI (X : Stand p l e R s m args below meth c T locs cells slots) (hx : p.tables.exec = Jvm.exec) (hZ : Z.Warmed39 s.vm) (eT : T.heap = h) (F : own_Av Z h a k .int n f) (hj : j.toInt = i) (hi : i < n) (hg : g.method = m) (hs : g.stack = .int x :: .int j :: .ref a :: rest) (hd : decode c.code g.pc = .ok (.iastore, 1)) :
    ∃ T' h', Stand p l e R s m args below meth c T' (locs ++ [⟨a, i⟩]) cells slots ∧ T'.heap = h' ∧ Wr h h' a i (.int x) ∧ own_Av Z h' a k .int n (fun q => if q = i then .int x else f q) ∧ ∀ target, Steps p.tables e below (T'.setTop { g with pc := g.pc + 1, stack := rest }) target → Steps p.tables e below (T.setTop g) target := by
  obtain ⟨cl, A, r1, r2, r3⟩ := F
  obtain ⟨T', h', X', e', W, st⟩ := stI X hx hZ eT A (own_inb hj r2 hi) hg hs hd
  rw [own_idx hj] at X' W
  exact ⟨T', h', X', e', W, own_Av.set ⟨cl, A, r1, r2, r3⟩ W hi, st⟩
theorem own_stJ {y : Int64} (X : Stand p l e R s m args below meth c T locs cells slots) (hx : p.tables.exec = Jvm.exec) (hZ : Z.Warmed39 s.vm) (eT : T.heap = h) (F : own_Av Z h a k .long n f) (hj : j.toInt = i) (hi : i < n) (hg : g.method = m) (hs : g.stack = .long y :: .int j :: .ref a :: rest) (hd : decode c.code g.pc = .ok (.lastore, 1)) :
    ∃ T' h', Stand p l e R s m args below meth c T' (locs ++ [⟨a, i⟩]) cells slots ∧ T'.heap = h' ∧ Wr h h' a i (.long y) ∧ own_Av Z h' a k .long n (fun q => if q = i then .long y else f q) ∧ ∀ target, Steps p.tables e below (T'.setTop { g with pc := g.pc + 1, stack := rest }) target → Steps p.tables e below (T.setTop g) target := by
  obtain ⟨cl, A, r1, r2, r3⟩ := F
  obtain ⟨T', h', X', e', W, st⟩ := stJ X hx hZ eT A (own_inb hj r2 hi) hg hs hd
  rw [own_idx hj] at X' W
  exact ⟨T', h', X', e', W, own_Av.set ⟨cl, A, r1, r2, r3⟩ W hi, st⟩
theorem own_stR {C : String} (X : Stand p l e R s m args below meth c T locs cells slots) (hx : p.tables.exec = Jvm.exec) (hZ : Z.Warmed39 s.vm) (eT : T.heap = h) (F : own_Av Z h a k (.object C) n f) (O : Ovr Z k C) (I : v = .null ∨ ∃ y, v = .ref y ∧ Ins Z h y C true) (hj : j.toInt = i) (hi : i < n) (hg : g.method = m) (hs : g.stack = v :: .int j :: .ref a :: rest) (hd : decode c.code g.pc = .ok (.aastore, 1)) :
    ∃ T' h', Stand p l e R s m args below meth c T' (locs ++ [⟨a, i⟩]) cells slots ∧ T'.heap = h' ∧ Wr h h' a i v ∧ own_Av Z h' a k (.object C) n (fun q => if q = i then v else f q) ∧ ∀ target, Steps p.tables e below (T'.setTop { g with pc := g.pc + 1, stack := rest }) target → Steps p.tables e below (T.setTop g) target := by
  obtain ⟨cl, A, r1, r2, r3⟩ := F
  have St : Sto Z h a v := by
    rcases I with rfl | ⟨y, rfl, I⟩
    · exact Or.inl rfl
    · exact Sto.ofV A r1 O I
  obtain ⟨T', h', X', e', W, st⟩ := stR X hx hZ eT A (own_inb hj r2 hi) rfl St hg hs hd
  rw [own_idx hj] at X' W
  exact ⟨T', h', X', e', W, own_Av.set ⟨cl, A, r1, r2, r3⟩ W hi, st⟩
theorem own_ldC (X : Stand p l e R s m args below meth c T locs cells slots) (hx : p.tables.exec = Jvm.exec) (hZ : Z.Warmed39 s.vm) (eT : T.heap = h) (F : own_Av Z h a k .char n f) (hj : j.toInt = i) (hi : i < n) (hv : f i = v) (hg : g.method = m) (hs : g.stack = .int j :: .ref a :: rest) (hd : decode c.code g.pc = .ok (.caload, 1)) (target : State)
    (hr : Steps p.tables e below (T.setTop { g with pc := g.pc + 1, stack := v :: rest }) target) : Steps p.tables e below (T.setTop g) target := by
  obtain ⟨cl, A, r1, r2, r3⟩ := F
  exact X.caload hx (by rw [eT]; exact A.1) (State.isArrayOf_alike hZ.alike A.2.1) A.2.2 (own_inb hj r2 hi) (by rw [own_idx hj, r3 i hi, hv]) hg hs hd target hr
theorem own_ldB (X : Stand p l e R s m args below meth c T locs cells slots) (hx : p.tables.exec = Jvm.exec) (hZ : Z.Warmed39 s.vm) (eT : T.heap = h) (F : own_Av Z h a k .byte n f) (hj : j.toInt = i) (hi : i < n) (hv : f i = v) (hg : g.method = m) (hs : g.stack = .int j :: .ref a :: rest) (hd : decode c.code g.pc = .ok (.baload, 1)) (target : State)
    (hr : Steps p.tables e below (T.setTop { g with pc := g.pc + 1, stack := v :: rest }) target) : Steps p.tables e below (T.setTop g) target := by
  obtain ⟨cl, A, r1, r2, r3⟩ := F
  exact X.baloadBytes hx (by rw [eT]; exact A.1) (State.isArrayOf_alike hZ.alike A.2.1) A.2.2 (own_inb hj r2 hi) (by rw [own_idx hj, r3 i hi, hv]) hg hs hd target hr
theorem own_ldI (X : Stand p l e R s m args below meth c T locs cells slots) (hx : p.tables.exec = Jvm.exec) (hZ : Z.Warmed39 s.vm) (eT : T.heap = h) (F : own_Av Z h a k .int n f) (hj : j.toInt = i) (hi : i < n) (hv : f i = v) (hg : g.method = m) (hs : g.stack = .int j :: .ref a :: rest) (hd : decode c.code g.pc = .ok (.iaload, 1)) (target : State)
    (hr : Steps p.tables e below (T.setTop { g with pc := g.pc + 1, stack := v :: rest }) target) : Steps p.tables e below (T.setTop g) target := by
  obtain ⟨cl, A, r1, r2, r3⟩ := F
  exact X.iaload hx (by rw [eT]; exact A.1) (State.isArrayOf_alike hZ.alike A.2.1) A.2.2 (own_inb hj r2 hi) (by rw [own_idx hj, r3 i hi, hv]) hg hs hd target hr
theorem own_ldR (X : Stand p l e R s m args below meth c T locs cells slots) (hx : p.tables.exec = Jvm.exec) (hZ : Z.Warmed39 s.vm) (eT : T.heap = h) (F : own_Av Z h a k ty n f) (hty : ty.isReference = true) (hj : j.toInt = i) (hi : i < n) (hv : f i = v) (hg : g.method = m) (hs : g.stack = .int j :: .ref a :: rest) (hd : decode c.code g.pc = .ok (.aaload, 1)) (target : State)
    (hr : Steps p.tables e below (T.setTop { g with pc := g.pc + 1, stack := v :: rest }) target) : Steps p.tables e below (T.setTop g) target := by
  obtain ⟨cl, A, r1, r2, r3⟩ := F
  exact X.aaload hx (by rw [eT]; exact A.1) (State.isArrayOf_alike hZ.alike A.2.1) hty A.2.2 (own_inb hj r2 hi) (by rw [own_idx hj, r3 i hi, hv]) hg hs hd target hr
theorem own_len (X : Stand p l e R s m args below meth c T locs cells slots) (hx : p.tables.exec = Jvm.exec) (hZ : Z.Warmed39 s.vm) (eT : T.heap = h) (F : own_Av Z h a k ty n f) (hz : n.toInt32 = z) (hg : g.method = m) (hs : g.stack = .ref a :: rest) (hd : decode c.code g.pc = .ok (.arraylength, 1)) (target : State)
    (hr : Steps p.tables e below (T.setTop { g with pc := g.pc + 1, stack := .int z :: rest }) target) : Steps p.tables e below (T.setTop g) target := by
  obtain ⟨cl, A, r1, r2, r3⟩ := F
  exact X.arraylength hx (by rw [eT]; exact A.1) (State.isArrayOf_alike hZ.alike A.2.1) hg hs hd target (by rw [r2, hz]; exact hr)
theorem own_ne (q : a < h.size) (r : b = h.size) : a ≠ b := Nat.ne_of_lt (Nat.lt_of_lt_of_le q (Nat.le_of_eq r.symm))
theorem own_ne2 (q : a < h.size) (r : h.size ≤ b) : a ≠ b := Nat.ne_of_lt (Nat.lt_of_lt_of_le q r)
theorem own_ge {n0 : Nat} (q : n0 ≤ h.size) (r : b = h.size) : n0 ≤ b := Nat.le_trans q (Nat.le_of_eq r.symm)
theorem own_store1 {L : Array Slot} {o : Slot} (hv : v.isRef = true) (hold : L[i]? = some o) (ho : o = .unset ∨ ∃ w, o = .val w ∧ w.category = 1) : storeLocals L i v = some (L.setIfInBounds i (.val v)) := XS.store1 hold ho (Jvm.Free.XT.cat1 hv)
theorem own_nref (ht : ty.isReference = true) (hv : v.isRef = true) : narrow ty v = v := by cases ty <;> cases v <;> first | rfl | (simp [Value.isRef] at hv; done) | (simp [FieldType.isReference] at ht; done)
theorem own_fref (ht : ty.isReference = true) (hv : v.isRef = true) : fits ty v = true := by cases ty <;> cases v <;> first | rfl | (simp [Value.isRef] at hv; done) | (simp [FieldType.isReference] at ht; done)
theorem own_fldI {t : Term} {C nm d : String} (ev : t.eval args s none [] s = some (.ref a)) (hq : (Cond.eq (Term.field t C nm d) (Term.int z)).value args s none s [] = some true) : Fld s s.heap a C nm d (.int z) := by
  obtain ⟨x, y, hx, hy, -, -⟩ := cmp_v (Or.inl hq)
  obtain rfl : y = .int z := (Option.some.inj hy).symm
  have : x = .int z := by simp only [Cond.value, hx, hy] at hq; cases x <;> simp at hq ⊢; exact hq
  rw [fld_at ev] at hx
  exact Fld.start (this ▸ hx)
theorem own_fldJ {t : Term} {C nm d : String} {z : Int64} (ev : t.eval args s none [] s = some (.ref a)) (hq : (Cond.eq (Term.field t C nm d) (Term.long z)).value args s none s [] = some true) : Fld s s.heap a C nm d (.long z) := by
  obtain ⟨x, y, hx, hy, -, -⟩ := cmp_v (Or.inl hq)
  obtain rfl : y = .long z := (Option.some.inj hy).symm
  have : x = .long z := by simp only [Cond.value, hx, hy] at hq; cases x <;> simp at hq ⊢; exact hq
  rw [fld_at ev] at hx
  exact Fld.start (this ▸ hx)
theorem own_fldN {t : Term} {C nm d : String} (ev : t.eval args s none [] s = some (.ref a)) (hq : (Cond.eq (Term.field t C nm d) Term.null).value args s none s [] = some true) : Fld s s.heap a C nm d .null := by
  have hx := null_v hq
  rw [fld_at ev] at hx
  exact Fld.start hx
theorem own_selP {y : MethodName} {nn : Nat} {a0 : Array Value} (hZ : Z.Warmed39 s.vm) (wi : (Cond.instantiable y.cls nn).before a0 Z = true) (wp : (Cond.privateMethod y).before a0 Z = true) (wm : (Cond.instanceMethod y).before a0 Z = true) (hy : y.cls ≠ "java/lang/invoke/MethodHandle" ∧ y.cls ≠ "java/lang/invoke/VarHandle") : (Cond.selects y.cls y y).before args s = true := by
  obtain ⟨c', k', h1, h2, -, h4, -⟩ := Cond.instantiable_spec (mv (args := args) hZ wi : (Cond.instantiable y.cls nn).before args s = true)
  exact selects_self_of_private h1 h2 (by simp at h4; exact h4.1) (Cond.privateMethod_at (mvP hZ wp (args := args))) (mv hZ wm) hy
end Own
def own_rng (q : Int64) : Int32 := if q < 0 then 0 else if 1000000 < q then 0 else 1
theorem d2_0 : decode jdk_30_method_1_code 0 = .ok (.aload_n 0, 1) := by decide +kernel
theorem d2_1 : decode jdk_30_method_1_code 1 = .ok (.invokespecial 1, 3) := by decide +kernel
theorem d2_4 : decode jdk_30_method_1_code 4 = .ok (.return_, 1) := by decide +kernel
theorem own_pn0 : plainName "java/lang/Record" = true := by first | (simp [plainName, overriddenIn]; done) | decide +kernel
def own_rec_Q (Z : State) (a : Addr) (h0 : Heap) (n0 : Nat) (v : Option Value) (h : Heap) (L : List Loc) : Prop := v = none ∧ Fr n0 L ∧ h = h0
set_option maxRecDepth 65536 in
set_option maxHeartbeats 40000000 in
theorem own_rec (l : Launch) (Z : State) (a0 : Array Value) (hw : ∀ d ∈ tables_1, d.before a0 Z = true) (ws : List Jvm.Cond) (a : Addr) (h0 : Heap) (n0 : Nat) (Z0 : n0 ≤ h0.size) :
    MetFree l (⟨"java/lang/Record", "<init>", "()V"⟩ : MethodName) (head1 (Jvm.Cond.code (⟨"java/lang/Record", "<init>", "()V"⟩ : MethodName) jdk_30_method_1_code 1 none :: ws) ({ frames := 1, cells := 0, slots := 0, locals := 12 } : Room)) (fun aa U0 => aa = #[(.ref a)] ∧ Z.Warmed39 U0.vm ∧ U0.heap = h0) (fun _ _ _ _ _ => True) (fun _ U0 o0 U1 => ∃ v0 L0, o0 = .returned v0 ∧ own_rec_Q Z a h0 n0 v0 U1.heap L0 ∧ FrameEnd U0 o0 U1 L0 ({ frames := 1, cells := 0, slots := 0, locals := 12 } : Room).cells ({ frames := 1, cells := 0, slots := 0, locals := 12 } : Room).slots) := by
  refine MetFree.of_bodySF (plainFor_of_name own_pn0) hisR ?_
  intro p e s m args below meth c s₁ Bd hml0 hP hK
  obtain ⟨rfl, hZ, hh⟩ := hP
  have hx := Bd.exec
  have hby := Bd.bytes
  have hml : c.maxLocals = 1 := hml0
  have hown : s.vm.findClass "java/lang/Record" = some m.cls := findClass_of_methodNamed Bd.named
  have hnm := (name_of_methodNamed Bd.named Bd.method).1
  have X0 : Stand p l e ({ frames := 1, cells := 0, slots := 0, locals := 12 } : Room) s m #[(.ref a)] below meth c s₁ [] 0 0 := Stand.of_body Bd
  have e0 : s₁.heap = h0 := by rw [← hh, Bd.state]; rfl
  have N0 := Fr.nil n0
  show own_Go p e below s (own_rec_Q Z a h0 n0) 0 0 s₁ (entryFrame m #[(.ref a)] 1)
  rw [show entryFrame m #[(.ref a)] 1 = mkF m 0 #[.val (.ref a)] [] from by first | (simp [entryFrame, mkF, argsToLocals, Value.category]; done) | rfl]
  refine own_st (T' := s₁) (g' := (mkF m 1 #[.val (.ref a)] [(.ref a)])) (fun _ k => XS.aloadN X0.here hx rfl (hb hby d2_0) rfl rfl k) ?_
  obtain ⟨T1, X1, e1, st1⟩ := initO X0 hx hZ hown (hw _ (List.mem_of_getElem? (i := 11) rfl)) (hw _ (List.mem_of_getElem? (i := 12) rfl)) (hw _ (List.mem_of_getElem? (i := 13) rfl)) e0 (g := (mkF m 1 #[.val (.ref a)] [(.ref a)])) rfl (by rw [hml]; rfl) rfl (hb hby d2_1) (by decide) (W := 0) (by show 2 * 0 + _ ≤ _; exact Nat.le_of_eq rfl) (by decide)
  refine own_st (T' := T1) (g' := (mkF m 4 #[.val (.ref a)] [])) st1 ?_
  exact own_ret0 X1 hx Bd.returns Bd.notSynchronized e1 (hb hby d2_4) ⟨rfl, N0, rfl⟩ (by decide) (by decide)
theorem own_pd0 : parseMethodDescriptor "()V" = some ⟨[], none⟩ := by decide +kernel
theorem d1_0 : decode prog_70_method_1_code 0 = .ok (.aload_n 0, 1) := by decide +kernel
theorem d1_1 : decode prog_70_method_1_code 1 = .ok (.invokespecial 1, 3) := by decide +kernel
theorem d1_4 : decode prog_70_method_1_code 4 = .ok (.aload_n 0, 1) := by decide +kernel
theorem d1_5 : decode prog_70_method_1_code 5 = .ok (.lload_n 1, 1) := by decide +kernel
theorem d1_6 : decode prog_70_method_1_code 6 = .ok (.putfield 7, 3) := by decide +kernel
theorem d1_9 : decode prog_70_method_1_code 9 = .ok (.return_, 1) := by decide +kernel
theorem own_pn1 : plainName "com/example/reckoner/reckoner/model/Percent" = true := by first | (simp [plainName, overriddenIn]; done) | decide +kernel
def own_ini_Q (Z : State) (a : Addr) (q : Int64) (u : Int64) (h0 : Heap) (n0 : Nat) (v : Option Value) (h : Heap) (L : List Loc) : Prop := v = none ∧ Fr n0 L ∧ Keep h0 h [a] ∧ Exa Z h a "com/example/reckoner/reckoner/model/Percent" ∧ Fld Z h a "com/example/reckoner/reckoner/model/Percent" "tenThousandths" "J" (.long q)
set_option maxRecDepth 65536 in
set_option maxHeartbeats 40000000 in
theorem own_ini (l : Launch) (Z : State) (a0 : Array Value) (hw : ∀ d ∈ tables_1, d.before a0 Z = true) (ws : List Jvm.Cond) (a : Addr) (q : Int64) (u : Int64) (h0 : Heap) (n0 : Nat) (Z0 : n0 ≤ h0.size) (Fq : Fld Z h0 a "com/example/reckoner/reckoner/model/Percent" "tenThousandths" "J" (.long u)) (Eq : Exa Z h0 a "com/example/reckoner/reckoner/model/Percent") (ga : n0 ≤ a) :
    MetFree l (⟨"com/example/reckoner/reckoner/model/Percent", "<init>", "(J)V"⟩ : MethodName) (head1 (Jvm.Cond.code (⟨"com/example/reckoner/reckoner/model/Percent", "<init>", "(J)V"⟩ : MethodName) prog_70_method_1_code 3 none :: ws) ({ frames := 2, cells := 0, slots := 0, locals := 24 } : Room)) (fun aa U0 => aa = #[(.ref a), (.long q)] ∧ Z.Warmed39 U0.vm ∧ U0.heap = h0) (fun _ _ _ _ _ => True) (fun _ U0 o0 U1 => ∃ v0 L0, o0 = .returned v0 ∧ own_ini_Q Z a q u h0 n0 v0 U1.heap L0 ∧ FrameEnd U0 o0 U1 L0 ({ frames := 2, cells := 0, slots := 0, locals := 24 } : Room).cells ({ frames := 2, cells := 0, slots := 0, locals := 24 } : Room).slots) := by
  refine MetFree.of_bodySF (plainFor_of_name own_pn1) hisR ?_
  intro p e s m args below meth c s₁ Bd hml0 hP hK
  obtain ⟨rfl, hZ, hh⟩ := hP
  have hx := Bd.exec
  have hby := Bd.bytes
  have hml : c.maxLocals = 3 := hml0
  have hown : s.vm.findClass "com/example/reckoner/reckoner/model/Percent" = some m.cls := findClass_of_methodNamed Bd.named
  have hnm := (name_of_methodNamed Bd.named Bd.method).1
  have X0 : Stand p l e ({ frames := 2, cells := 0, slots := 0, locals := 24 } : Room) s m #[(.ref a), (.long q)] below meth c s₁ [] 0 0 := Stand.of_body Bd
  have e0 : s₁.heap = h0 := by rw [← hh, Bd.state]; rfl
  have N0 := Fr.nil n0
  show own_Go p e below s (own_ini_Q Z a q u h0 n0) 0 0 s₁ (entryFrame m #[(.ref a), (.long q)] 3)
  rw [show entryFrame m #[(.ref a), (.long q)] 3 = mkF m 0 #[.val (.ref a), .val (.long q), .second] [] from by first | (simp [entryFrame, mkF, argsToLocals, Value.category]; done) | rfl]
  have Kp := Keep.refl h0 [a]
  refine own_st (T' := s₁) (g' := (mkF m 1 #[.val (.ref a), .val (.long q), .second] [(.ref a)])) (fun _ k => XS.aloadN X0.here hx rfl (hb hby d1_0) rfl rfl k) ?_
  obtain ⟨_, _, ⟨T2, L2, k2, n2⟩, -, X2, ⟨Lc2, hQ2, l2, y2, z2⟩, st2⟩ := X0.specialBack hx (y := (⟨"java/lang/Record", "<init>", "()V"⟩ : MethodName)) rfl hown (mvT hZ (hw _ (List.mem_of_getElem? (i := 6) rfl))) (mvT hZ (hw _ (List.mem_of_getElem? (i := 7) rfl))) (mvT hZ (hw _ (List.mem_of_getElem? (i := 10) rfl))) (by decide) (backOf (W := 0) (own_rec l Z a0 hw [] a h0 n0 Z0 ) hZ (hw _ (List.mem_of_getElem? (i := 10) rfl)) (hw _ (List.mem_of_getElem? (i := 9) rfl)) (by decide) (by decide)) (g := (mkF m 1 #[.val (.ref a), .val (.long q), .second] [(.ref a)])) rfl (by rw [hml]; rfl) (Steps.refl _) (a := a) (argsL := []) (rest := []) (lenOf own_pd0 rfl) rfl (by show 2 * 0 + _ ≤ _; exact Nat.le_of_eq rfl) (hb hby d1_1) (fun _ _ => ⟨rfl, e0, (by decide : 0 + 0 ≤ _), (by decide : 0 + 0 ≤ _)⟩)
  dsimp only [Pt.U, Pt.locs, Pt.cells, Pt.slots] at X2 l2 y2 z2 st2 hQ2
  subst l2 y2 z2
  obtain ⟨rfl, N2q, e2⟩ := hQ2
  have N0' := Fr.app N0 N2q
  refine own_tr (T' := T2) (g' := (mkF m 4 #[.val (.ref a), .val (.long q), .second] [])) st2 ?_
  refine own_st (T' := T2) (g' := (mkF m 5 #[.val (.ref a), .val (.long q), .second] [(.ref a)])) (fun _ k => XS.aloadN X2.here hx rfl (hb hby d1_4) rfl rfl k) ?_
  refine own_st (T' := T2) (g' := (mkF m 6 #[.val (.ref a), .val (.long q), .second] [(.long q), (.ref a)])) (fun _ k => XS.lloadN X2.here hx rfl (hb hby d1_5) rfl k) ?_
  obtain ⟨T3, h3, X3, e3, W3, st3⟩ := putF X2 hx hZ hown (host := "") (Or.inl (hw _ (List.mem_of_getElem? (i := 14) rfl))) Via.refl e2 Fq Eq (Or.inr ⟨(hw _ (List.mem_of_getElem? (i := 15) rfl)), rfl, hnm⟩) (hw _ (List.mem_of_getElem? (i := 1) rfl)) (ty := .long) (by decide) rfl rfl (g := (mkF m 6 #[.val (.ref a), .val (.long q), .second] [(.long q), (.ref a)])) rfl rfl (hb hby d1_6)
  have Eq := Eq.wr W3
  have Z0' := Nat.le_trans Z0 (Keep.of_wr W3).1
  have Kp := Kp.wr W3 (Or.inl (List.mem_of_getElem? (i := 0) rfl))
  have N0'' := Fr.snoc X3 N0' ga
  have Fq := Fq.same W3
  refine own_st (T' := T3) (g' := (mkF m 9 #[.val (.ref a), .val (.long q), .second] [])) st3 ?_
  exact own_ret0 X3 hx Bd.returns Bd.notSynchronized e3 (hb hby d1_9) ⟨rfl, N0'', Kp, Eq, Fq⟩ (by decide) (by decide)
theorem d4_0 : decode prog_70_method_4_code 0 = .ok (.aload_n 0, 1) := by decide +kernel
theorem d4_1 : decode prog_70_method_4_code 1 = .ok (.getfield 7, 3) := by decide +kernel
theorem d4_4 : decode prog_70_method_4_code 4 = .ok (.lconst 0, 1) := by decide +kernel
theorem d4_5 : decode prog_70_method_4_code 5 = .ok (.lcmp, 1) := by decide +kernel
theorem d4_6 : decode prog_70_method_4_code 6 = .ok (.ifCond .lt 21, 3) := by decide +kernel
theorem d4_9 : decode prog_70_method_4_code 9 = .ok (.aload_n 0, 1) := by decide +kernel
theorem d4_10 : decode prog_70_method_4_code 10 = .ok (.getfield 7, 3) := by decide +kernel
theorem d4_13 : decode prog_70_method_4_code 13 = .ok (.getstatic 51, 3) := by decide +kernel
theorem d4_16 : decode prog_70_method_4_code 16 = .ok (.getfield 7, 3) := by decide +kernel
theorem d4_19 : decode prog_70_method_4_code 19 = .ok (.lcmp, 1) := by decide +kernel
theorem d4_20 : decode prog_70_method_4_code 20 = .ok (.ifCond .gt 7, 3) := by decide +kernel
theorem d4_23 : decode prog_70_method_4_code 23 = .ok (.iconst 1, 1) := by decide +kernel
theorem d4_24 : decode prog_70_method_4_code 24 = .ok (.goto 4, 3) := by decide +kernel
theorem d4_27 : decode prog_70_method_4_code 27 = .ok (.iconst 0, 1) := by decide +kernel
theorem d4_28 : decode prog_70_method_4_code 28 = .ok (.ireturn, 1) := by decide +kernel
def own_isf_Q (Z : State) (a : Addr) (q : Int64) (aH : Addr) (h0 : Heap) (n0 : Nat) (v : Option Value) (h : Heap) (L : List Loc) : Prop := v = some (.int (own_rng q)) ∧ Fr n0 L ∧ h = h0
set_option maxRecDepth 65536 in
set_option maxHeartbeats 40000000 in
theorem own_isf (l : Launch) (Z : State) (a0 : Array Value) (hw : ∀ d ∈ tables_1, d.before a0 Z = true) (ws : List Jvm.Cond) (a : Addr) (q : Int64) (aH : Addr) (h0 : Heap) (n0 : Nat) (Z0 : n0 ≤ h0.size) (Fq : Fld Z h0 a "com/example/reckoner/reckoner/model/Percent" "tenThousandths" "J" (.long q)) (Fh : Fld Z h0 aH "com/example/reckoner/reckoner/model/Percent" "tenThousandths" "J" (.long (1000000 : Int64))) (Sh : Sta Z h0 "com/example/reckoner/reckoner/model/Percent" "HUNDRED" "Lcom/example/reckoner/reckoner/model/Percent;" (.ref aH)) :
    MetFree l (⟨"com/example/reckoner/reckoner/model/Percent", "isFromZeroToHundred", "()Z"⟩ : MethodName) (head1 (Jvm.Cond.code (⟨"com/example/reckoner/reckoner/model/Percent", "isFromZeroToHundred", "()Z"⟩ : MethodName) prog_70_method_4_code 1 (some .boolean) :: ws) ({ frames := 0, cells := 0, slots := 0, locals := 0 } : Room)) (fun aa U0 => aa = #[(.ref a)] ∧ Z.Warmed39 U0.vm ∧ U0.heap = h0) (fun _ _ _ _ _ => True) (fun _ U0 o0 U1 => ∃ v0 L0, o0 = .returned v0 ∧ own_isf_Q Z a q aH h0 n0 v0 U1.heap L0 ∧ FrameEnd U0 o0 U1 L0 ({ frames := 0, cells := 0, slots := 0, locals := 0 } : Room).cells ({ frames := 0, cells := 0, slots := 0, locals := 0 } : Room).slots) := by
  refine MetFree.of_bodySF (plainFor_of_name own_pn1) hisR ?_
  intro p e s m args below meth c s₁ Bd hml0 hP hK
  obtain ⟨rfl, hZ, hh⟩ := hP
  have hx := Bd.exec
  have hby := Bd.bytes
  have hml : c.maxLocals = 1 := hml0
  have hown : s.vm.findClass "com/example/reckoner/reckoner/model/Percent" = some m.cls := findClass_of_methodNamed Bd.named
  have hnm := (name_of_methodNamed Bd.named Bd.method).1
  have X0 : Stand p l e ({ frames := 0, cells := 0, slots := 0, locals := 0 } : Room) s m #[(.ref a)] below meth c s₁ [] 0 0 := Stand.of_body Bd
  have e0 : s₁.heap = h0 := by rw [← hh, Bd.state]; rfl
  have N0 := Fr.nil n0
  show own_Go p e below s (own_isf_Q Z a q aH h0 n0) 0 0 s₁ (entryFrame m #[(.ref a)] 1)
  rw [show entryFrame m #[(.ref a)] 1 = mkF m 0 #[.val (.ref a)] [] from by first | (simp [entryFrame, mkF, argsToLocals, Value.category]; done) | rfl]
  refine own_st (T' := s₁) (g' := (mkF m 1 #[.val (.ref a)] [(.ref a)])) (fun _ k => XS.aloadN X0.here hx rfl (hb hby d4_0) rfl rfl k) ?_
  obtain ⟨T4, X4, e4, st4⟩ := getF X0 hx hZ hown (host := "") (Or.inl (hw _ (List.mem_of_getElem? (i := 14) rfl))) Via.refl e0 Fq (g := (mkF m 1 #[.val (.ref a)] [(.ref a)])) rfl rfl (hb hby d4_1)
  refine own_st (T' := T4) (g' := (mkF m 4 #[.val (.ref a)] [(.long q)])) st4 ?_
  refine own_st (T' := T4) (g' := (mkF m 5 #[.val (.ref a)] [(.long (0 : Int64)), (.long q)])) (fun _ k => XS.lconst X4.here hx rfl (hb hby d4_4) k) ?_
  refine own_st (T' := T4) (g' := (mkF m 6 #[.val (.ref a)] [(.int (lcmpW q (0 : Int64)))])) (fun _ k => XS.lcmp X4.here hx rfl (hb hby d4_5) rfl k) ?_
  by_cases q1 : q < (0 : Int64)
  · refine own_st (T' := T4) (g' := (mkF m 27 #[.val (.ref a)] [])) (fun _ k => XS.ifYes X4.here hx rfl (pc0 := 6) (pc' := 27) rfl (hb hby d4_6) rfl (Jvm.Free.XT.i0_lt_t ((lw_lt q (0 : Int64)).mpr q1)) (by decide) (by decide) k) ?_
    refine own_st (T' := T4) (g' := (mkF m 28 #[.val (.ref a)] [(.int (0 : Int32))])) (fun _ k => XS.iconst X4.here hx rfl (hb hby d4_27) k) ?_
    exact own_retN X4 hx Bd.returns Bd.notSynchronized e4 (by simp) (hb hby d4_28) ⟨by simp [own_rng, q1, nar], N0, rfl⟩ (by decide) (by decide)
  · refine own_st (T' := T4) (g' := (mkF m 9 #[.val (.ref a)] [])) (fun _ k => XS.ifNo X4.here hx rfl (hb hby d4_6) rfl (Jvm.Free.XT.i0_lt_f (mt (lw_lt q (0 : Int64)).mp q1)) k) ?_
    refine own_st (T' := T4) (g' := (mkF m 10 #[.val (.ref a)] [(.ref a)])) (fun _ k => XS.aloadN X4.here hx rfl (hb hby d4_9) rfl rfl k) ?_
    obtain ⟨T5, X5, e5, st5⟩ := getF X4 hx hZ hown (host := "") (Or.inl (hw _ (List.mem_of_getElem? (i := 14) rfl))) Via.refl e4 Fq (g := (mkF m 10 #[.val (.ref a)] [(.ref a)])) rfl rfl (hb hby d4_10)
    refine own_st (T' := T5) (g' := (mkF m 13 #[.val (.ref a)] [(.long q)])) st5 ?_
    obtain ⟨T6, X6, e6, st6⟩ := getS2 X5 hx hZ hown (host := "") (Or.inl (hw _ (List.mem_of_getElem? (i := 21) rfl))) Via.refl e5 Sh (g := (mkF m 13 #[.val (.ref a)] [(.long q)])) rfl (hb hby d4_13)
    refine own_st (T' := T6) (g' := (mkF m 16 #[.val (.ref a)] [(.ref aH), (.long q)])) st6 ?_
    obtain ⟨T7, X7, e7, st7⟩ := getF X6 hx hZ hown (host := "") (Or.inl (hw _ (List.mem_of_getElem? (i := 14) rfl))) Via.refl e6 Fh (g := (mkF m 16 #[.val (.ref a)] [(.ref aH), (.long q)])) rfl rfl (hb hby d4_16)
    refine own_st (T' := T7) (g' := (mkF m 19 #[.val (.ref a)] [(.long (1000000 : Int64)), (.long q)])) st7 ?_
    refine own_st (T' := T7) (g' := (mkF m 20 #[.val (.ref a)] [(.int (lcmpW q (1000000 : Int64)))])) (fun _ k => XS.lcmp X7.here hx rfl (hb hby d4_19) rfl k) ?_
    by_cases q2 : (1000000 : Int64) < q
    · refine own_st (T' := T7) (g' := (mkF m 27 #[.val (.ref a)] [])) (fun _ k => XS.ifYes X7.here hx rfl (pc0 := 20) (pc' := 27) rfl (hb hby d4_20) rfl (Jvm.Free.XT.i0_gt_t ((lw_gt q (1000000 : Int64)).mpr q2)) (by decide) (by decide) k) ?_
      refine own_st (T' := T7) (g' := (mkF m 28 #[.val (.ref a)] [(.int (0 : Int32))])) (fun _ k => XS.iconst X7.here hx rfl (hb hby d4_27) k) ?_
      exact own_retN X7 hx Bd.returns Bd.notSynchronized e7 (by simp) (hb hby d4_28) ⟨by simp [own_rng, q1, q2, nar], N0, rfl⟩ (by decide) (by decide)
    · refine own_st (T' := T7) (g' := (mkF m 23 #[.val (.ref a)] [])) (fun _ k => XS.ifNo X7.here hx rfl (hb hby d4_20) rfl (Jvm.Free.XT.i0_gt_f (mt (lw_gt q (1000000 : Int64)).mp q2)) k) ?_
      refine own_st (T' := T7) (g' := (mkF m 24 #[.val (.ref a)] [(.int (1 : Int32))])) (fun _ k => XS.iconst X7.here hx rfl (hb hby d4_23) k) ?_
      refine own_st (T' := T7) (g' := (mkF m 28 #[.val (.ref a)] [(.int (1 : Int32))])) (fun _ k => XS.goto X7.here hx rfl (pc0 := 24) (pc' := 28) rfl (hb hby d4_24) (by decide) (by decide) k) ?_
      exact own_retN X7 hx Bd.returns Bd.notSynchronized e7 (by simp) (hb hby d4_28) ⟨by simp [own_rng, q1, q2, nar], N0, rfl⟩ (by decide) (by decide)
theorem d5_0 : decode method_3_code 0 = .ok (.lload_n 0, 1) := by decide +kernel
theorem d5_1 : decode method_3_code 1 = .ok (.lconst 0, 1) := by decide +kernel
theorem d5_2 : decode method_3_code 2 = .ok (.lcmp, 1) := by decide +kernel
theorem d5_3 : decode method_3_code 3 = .ok (.ifCond .ge 5, 3) := by decide +kernel
theorem d5_6 : decode method_3_code 6 = .ok (.iconst 0, 1) := by decide +kernel
theorem d5_7 : decode method_3_code 7 = .ok (.ireturn, 1) := by decide +kernel
theorem d5_8 : decode method_3_code 8 = .ok (.lload_n 0, 1) := by decide +kernel
theorem d5_9 : decode method_3_code 9 = .ok (.ldc2_w 7, 3) := by decide +kernel
theorem d5_12 : decode method_3_code 12 = .ok (.lcmp, 1) := by decide +kernel
theorem d5_13 : decode method_3_code 13 = .ok (.ifCond .le 5, 3) := by decide +kernel
theorem d5_16 : decode method_3_code 16 = .ok (.iconst 0, 1) := by decide +kernel
theorem d5_17 : decode method_3_code 17 = .ok (.ireturn, 1) := by decide +kernel
theorem d5_18 : decode method_3_code 18 = .ok (.iconst 1, 1) := by decide +kernel
theorem d5_19 : decode method_3_code 19 = .ok (.ireturn, 1) := by decide +kernel
theorem own_pn2 : plainName "com/example/reckoner/reckoner/model/PercentIsFromZeroToHundredPinLaw" = true := by first | (simp [plainName, overriddenIn]; done) | decide +kernel
def own_inr_Q (Z : State) (q : Int64) (h0 : Heap) (n0 : Nat) (v : Option Value) (h : Heap) (L : List Loc) : Prop := v = some (.int (own_rng q)) ∧ Fr n0 L ∧ h = h0
set_option maxRecDepth 65536 in
set_option maxHeartbeats 40000000 in
theorem own_inr (l : Launch) (Z : State) (a0 : Array Value) (hw : ∀ d ∈ tables_1, d.before a0 Z = true) (ws : List Jvm.Cond) (q : Int64) (h0 : Heap) (n0 : Nat) (Z0 : n0 ≤ h0.size) :
    MetFree l (⟨"com/example/reckoner/reckoner/model/PercentIsFromZeroToHundredPinLaw", "inRange", "(J)Z"⟩ : MethodName) (head1 (Jvm.Cond.code (⟨"com/example/reckoner/reckoner/model/PercentIsFromZeroToHundredPinLaw", "inRange", "(J)Z"⟩ : MethodName) method_3_code 2 (some .boolean) :: ws) ({ frames := 0, cells := 0, slots := 0, locals := 0 } : Room)) (fun aa U0 => aa = #[(.long q)] ∧ Z.Warmed39 U0.vm ∧ U0.heap = h0) (fun _ _ _ _ _ => True) (fun _ U0 o0 U1 => ∃ v0 L0, o0 = .returned v0 ∧ own_inr_Q Z q h0 n0 v0 U1.heap L0 ∧ FrameEnd U0 o0 U1 L0 ({ frames := 0, cells := 0, slots := 0, locals := 0 } : Room).cells ({ frames := 0, cells := 0, slots := 0, locals := 0 } : Room).slots) := by
  refine MetFree.of_bodySF (plainFor_of_name own_pn2) hisR ?_
  intro p e s m args below meth c s₁ Bd hml0 hP hK
  obtain ⟨rfl, hZ, hh⟩ := hP
  have hx := Bd.exec
  have hby := Bd.bytes
  have hml : c.maxLocals = 2 := hml0
  have hown : s.vm.findClass "com/example/reckoner/reckoner/model/PercentIsFromZeroToHundredPinLaw" = some m.cls := findClass_of_methodNamed Bd.named
  have hnm := (name_of_methodNamed Bd.named Bd.method).1
  have X0 : Stand p l e ({ frames := 0, cells := 0, slots := 0, locals := 0 } : Room) s m #[(.long q)] below meth c s₁ [] 0 0 := Stand.of_body Bd
  have e0 : s₁.heap = h0 := by rw [← hh, Bd.state]; rfl
  have N0 := Fr.nil n0
  show own_Go p e below s (own_inr_Q Z q h0 n0) 0 0 s₁ (entryFrame m #[(.long q)] 2)
  rw [show entryFrame m #[(.long q)] 2 = mkF m 0 #[.val (.long q), .second] [] from by first | (simp [entryFrame, mkF, argsToLocals, Value.category]; done) | rfl]
  refine own_st (T' := s₁) (g' := (mkF m 1 #[.val (.long q), .second] [(.long q)])) (fun _ k => XS.lloadN X0.here hx rfl (hb hby d5_0) rfl k) ?_
  refine own_st (T' := s₁) (g' := (mkF m 2 #[.val (.long q), .second] [(.long (0 : Int64)), (.long q)])) (fun _ k => XS.lconst X0.here hx rfl (hb hby d5_1) k) ?_
  refine own_st (T' := s₁) (g' := (mkF m 3 #[.val (.long q), .second] [(.int (lcmpW q (0 : Int64)))])) (fun _ k => XS.lcmp X0.here hx rfl (hb hby d5_2) rfl k) ?_
  by_cases q1 : q < (0 : Int64)
  · refine own_st (T' := s₁) (g' := (mkF m 6 #[.val (.long q), .second] [])) (fun _ k => XS.ifNo X0.here hx rfl (hb hby d5_3) rfl (Jvm.Free.XT.i0_ge_f ((lw_lt q (0 : Int64)).mpr q1)) k) ?_
    refine own_st (T' := s₁) (g' := (mkF m 7 #[.val (.long q), .second] [(.int (0 : Int32))])) (fun _ k => XS.iconst X0.here hx rfl (hb hby d5_6) k) ?_
    exact own_retN X0 hx Bd.returns Bd.notSynchronized e0 (by simp) (hb hby d5_7) ⟨by simp [own_rng, q1, nar], N0, rfl⟩ (by decide) (by decide)
  · refine own_st (T' := s₁) (g' := (mkF m 8 #[.val (.long q), .second] [])) (fun _ k => XS.ifYes X0.here hx rfl (pc0 := 3) (pc' := 8) rfl (hb hby d5_3) rfl (Jvm.Free.XT.i0_ge_t (mt (lw_lt q (0 : Int64)).mp q1)) (by decide) (by decide) k) ?_
    refine own_st (T' := s₁) (g' := (mkF m 9 #[.val (.long q), .second] [(.long q)])) (fun _ k => XS.lloadN X0.here hx rfl (hb hby d5_8) rfl k) ?_
    refine own_st (T' := s₁) (g' := (mkF m 12 #[.val (.long q), .second] [(.long (1000000 : Int64)), (.long q)])) (X0.ldc2Long hx hown (mvT hZ (hw _ (List.mem_of_getElem? (i := 27) rfl))) (g := (mkF m 9 #[.val (.long q), .second] [(.long q)])) rfl (hb hby d5_9)) ?_
    refine own_st (T' := s₁) (g' := (mkF m 13 #[.val (.long q), .second] [(.int (lcmpW q (1000000 : Int64)))])) (fun _ k => XS.lcmp X0.here hx rfl (hb hby d5_12) rfl k) ?_
    by_cases q2 : (1000000 : Int64) < q
    · refine own_st (T' := s₁) (g' := (mkF m 16 #[.val (.long q), .second] [])) (fun _ k => XS.ifNo X0.here hx rfl (hb hby d5_13) rfl (Jvm.Free.XT.i0_le_f ((lw_gt q (1000000 : Int64)).mpr q2)) k) ?_
      refine own_st (T' := s₁) (g' := (mkF m 17 #[.val (.long q), .second] [(.int (0 : Int32))])) (fun _ k => XS.iconst X0.here hx rfl (hb hby d5_16) k) ?_
      exact own_retN X0 hx Bd.returns Bd.notSynchronized e0 (by simp) (hb hby d5_17) ⟨by simp [own_rng, q1, q2, nar], N0, rfl⟩ (by decide) (by decide)
    · refine own_st (T' := s₁) (g' := (mkF m 18 #[.val (.long q), .second] [])) (fun _ k => XS.ifYes X0.here hx rfl (pc0 := 13) (pc' := 18) rfl (hb hby d5_13) rfl (Jvm.Free.XT.i0_le_t (mt (lw_gt q (1000000 : Int64)).mp q2)) (by decide) (by decide) k) ?_
      refine own_st (T' := s₁) (g' := (mkF m 19 #[.val (.long q), .second] [(.int (1 : Int32))])) (fun _ k => XS.iconst X0.here hx rfl (hb hby d5_18) k) ?_
      exact own_retN X0 hx Bd.returns Bd.notSynchronized e0 (by simp) (hb hby d5_19) ⟨by simp [own_rng, q1, q2, nar], N0, rfl⟩ (by decide) (by decide)
theorem own_pd1 : parseMethodDescriptor "(J)V" = some ⟨[.long], none⟩ := by decide +kernel
theorem own_pd2 : parseMethodDescriptor "()Z" = some ⟨[], some .boolean⟩ := by decide +kernel
theorem own_pd3 : parseMethodDescriptor "(J)Z" = some ⟨[.long], some .boolean⟩ := by decide +kernel
def own_law_Q (Z : State) (p0 : Int64) (p1 : Int32) (aH : Addr) (h0 : Heap) (n0 : Nat) (v : Option Value) (h : Heap) (L : List Loc) : Prop := v = some (.int 1) ∧ Fr n0 L
set_option maxRecDepth 65536 in
set_option maxHeartbeats 40000000 in
theorem own_law (l : Launch) (Z : State) (a0 : Array Value) (hw : ∀ d ∈ tables_1, d.before a0 Z = true) (ws : List Jvm.Cond) (p0 : Int64) (p1 : Int32) (aH : Addr) (h0 : Heap) (n0 : Nat) (Z0 : n0 ≤ h0.size) (O : Old Z n0 h0) (FH0 : Fld Z Z.heap aH "com/example/reckoner/reckoner/model/Percent" "tenThousandths" "J" (.long (1000000 : Int64))) (SH0 : Sta Z Z.heap "com/example/reckoner/reckoner/model/Percent" "HUNDRED" "Lcom/example/reckoner/reckoner/model/Percent;" (.ref aH)) :
    MetFree l x (head1 (Jvm.Cond.code x code maxLocals ret :: ws) room_1) (fun aa U0 => aa = #[(.long p0), (.int p1)] ∧ Z.Warmed39 U0.vm ∧ U0.heap = h0) (fun _ _ _ _ _ => True) (fun _ U0 o0 U1 => ∃ v0 L0, o0 = .returned v0 ∧ own_law_Q Z p0 p1 aH h0 n0 v0 U1.heap L0 ∧ FrameEnd U0 o0 U1 L0 16 128) := by
  refine MetFree.of_bodySF (plainFor_of_name own_pn2) hisR ?_
  intro p e s m args below meth c s₁ Bd hml0 hP hK
  obtain ⟨rfl, hZ, hh⟩ := hP
  have hx := Bd.exec
  have hby := Bd.bytes
  have hml : c.maxLocals = 9 := hml0
  have hown : s.vm.findClass "com/example/reckoner/reckoner/model/PercentIsFromZeroToHundredPinLaw" = some m.cls := findClass_of_methodNamed Bd.named
  have hnm := (name_of_methodNamed Bd.named Bd.method).1
  have X0 : Stand p l e room_1 s m #[(.long p0), (.int p1)] below meth c s₁ [] 0 0 := Stand.of_body Bd
  have e0 : s₁.heap = h0 := by rw [← hh, Bd.state]; rfl
  have N0 := Fr.nil n0
  show own_Go p e below s (own_law_Q Z p0 p1 aH h0 n0) 16 128 s₁ (entryFrame m #[(.long p0), (.int p1)] maxLocals)
  rw [show entryFrame m #[(.long p0), (.int p1)] maxLocals = mkF m 0 #[.val (.long p0), .second, .val (.int p1), .unset, .unset, .unset, .unset, .unset, .unset] [] from by first | (simp [entryFrame, mkF, argsToLocals, Value.category, maxLocals]; done) | rfl]
  have J26 : ∀ (edge : Int64) (near : Int64), own_Go p e below s (own_law_Q Z p0 p1 aH h0 n0) 16 128 s₁ (mkF m 26 #[.val (.long p0), .second, .val (.int p1), .val (.long edge), .second, .val (.long near), .second, .unset, .unset] []) := by
    intro edge near
    obtain ⟨T8, h8, X8, e8, E8, A8, D8, -, st8⟩ := newO X0 hx hZ hown (hw _ (List.mem_of_getElem? (i := 0) rfl)) (hw _ (List.mem_of_getElem? (i := 1) rfl)) (hw _ (List.mem_of_getElem? (i := 2) rfl)) e0 (g := (mkF m 26 #[.val (.long p0), .second, .val (.int p1), .val (.long edge), .second, .val (.long near), .second, .unset, .unset] [])) rfl (hb hby at_26) (by decide) (by decide)
    obtain ⟨b1, gb1⟩ : ∃ z, z = h0.size := ⟨_, rfl⟩
    rw [← gb1] at A8 D8 st8
    have ge_b1 : n0 ≤ b1 := own_ge Z0 gb1
    have O := O.ext E8
    have Z0' := Nat.le_trans Z0 E8.1
    have E_b1 := A8
    have F_tenThousandths_b1 : Fld Z h8 b1 "com/example/reckoner/reckoner/model/Percent" "tenThousandths" "J" (.long (0 : Int64)) := D8 (Or.inr (hw _ (List.mem_of_getElem? (i := 15) rfl))) (ty := .long) (by decide)
    refine own_st (T' := T8) (g' := (mkF m 29 #[.val (.long p0), .second, .val (.int p1), .val (.long edge), .second, .val (.long near), .second, .unset, .unset] [(.ref b1)])) st8 ?_
    refine own_st (T' := T8) (g' := (mkF m 30 #[.val (.long p0), .second, .val (.int p1), .val (.long edge), .second, .val (.long near), .second, .unset, .unset] [(.ref b1), (.ref b1)])) (fun _ k => XS.dup X8.here hx rfl (hb hby at_29) rfl rfl k) ?_
    refine own_st (T' := T8) (g' := (mkF m 31 #[.val (.long p0), .second, .val (.int p1), .val (.long edge), .second, .val (.long near), .second, .unset, .unset] [(.long p0), (.ref b1), (.ref b1)])) (fun _ k => XS.lloadN X8.here hx rfl (hb hby at_30) rfl k) ?_
    obtain ⟨_, _, ⟨T9, L9, k9, n9⟩, -, X9, ⟨Lc9, hQ9, l9, y9, z9⟩, st9⟩ := X8.specialBack hx (y := (⟨"com/example/reckoner/reckoner/model/Percent", "<init>", "(J)V"⟩ : MethodName)) rfl hown (mvT hZ (hw _ (List.mem_of_getElem? (i := 3) rfl))) (mvT hZ (hw _ (List.mem_of_getElem? (i := 4) rfl))) (mvT hZ (hw _ (List.mem_of_getElem? (i := 5) rfl))) (by decide) (backOf (W := 1) (own_ini l Z a0 hw [] b1 p0 (0 : Int64) h8 n0 Z0' F_tenThousandths_b1 E_b1 ge_b1) hZ (hw _ (List.mem_of_getElem? (i := 5) rfl)) (hw _ (List.mem_of_getElem? (i := 2) rfl)) (by decide) (by decide)) (g := (mkF m 31 #[.val (.long p0), .second, .val (.int p1), .val (.long edge), .second, .val (.long near), .second, .unset, .unset] [(.long p0), (.ref b1), (.ref b1)])) rfl (by rw [hml]; rfl) (Steps.refl _) (a := b1) (argsL := [(.long p0)]) (rest := [(.ref b1)]) (lenOf own_pd1 rfl) rfl (by show 2 * 0 + _ ≤ _; exact Nat.le_of_eq rfl) (hb hby at_31) (fun _ _ => ⟨rfl, e8, (by decide : (0 + 1) + 0 ≤ _), (by decide : (0 + 1) + 0 ≤ _)⟩)
    dsimp only [Pt.U, Pt.locs, Pt.cells, Pt.slots] at X9 l9 y9 z9 st9 hQ9
    subst l9 y9 z9
    obtain ⟨rfl, N9q, K9, ge_E, ge_F⟩ := hQ9
    have N0' := Fr.app N0 N9q
    have O := O.keep K9 ((allS ge_b1 all0))
    have E_b1 := E_b1.keep K9
    have Z0'' := Nat.le_trans Z0' K9.1
    have F_tenThousandths_b1 := ge_F
    refine own_tr (T' := T9) (g' := (mkF m 34 #[.val (.long p0), .second, .val (.int p1), .val (.long edge), .second, .val (.long near), .second, .unset, .unset] [(.ref b1)])) st9 ?_
    obtain ⟨cq10, kq10, q10a, q10b, q10c⟩ := isOf hZ rfl E_b1
    obtain ⟨_, _, ⟨T10, L10, k10, n10⟩, -, X10, ⟨Lc10, hQ10, l10, y10, z10⟩, st10⟩ := X9.virtualBack hx (y := (⟨"com/example/reckoner/reckoner/model/Percent", "isFromZeroToHundred", "()Z"⟩ : MethodName)) (z := (⟨"com/example/reckoner/reckoner/model/Percent", "isFromZeroToHundred", "()Z"⟩ : MethodName)) hown (mvT hZ (hw _ (List.mem_of_getElem? (i := 16) rfl))) (mvT hZ (hw _ (List.mem_of_getElem? (i := 17) rfl))) (notFace_of_selects (args := #[]) (mvT hZ (hw _ (List.mem_of_getElem? (i := 19) rfl)))) (mvT hZ (hw _ (List.mem_of_getElem? (i := 19) rfl))) (mvT hZ (hw _ (List.mem_of_getElem? (i := 18) rfl))) (by decide) (backOf (W := 0) (own_isf l Z a0 hw [] b1 p0 aH T9.heap n0 Z0'' F_tenThousandths_b1 (FH0.ext O.2) (SH0.ext O.2)) hZ (hw _ (List.mem_of_getElem? (i := 20) rfl)) (hw _ (List.mem_of_getElem? (i := 2) rfl)) (by decide) (by decide)) q10a q10c (g := (mkF m 34 #[.val (.long p0), .second, .val (.int p1), .val (.long edge), .second, .val (.long near), .second, .unset, .unset] [(.ref b1)])) rfl (by rw [hml]; rfl) (Steps.refl _) (argsL := []) (rest := []) (lenOf own_pd2 rfl) rfl (by show 2 * 0 + _ ≤ _; exact Nat.le_of_eq rfl) (hb hby at_34) (fun _ _ => ⟨rfl, rfl, (by decide : ((0 + 1) + 0) + 0 ≤ _), (by decide : ((0 + 1) + 0) + 0 ≤ _)⟩)
    dsimp only [Pt.U, Pt.locs, Pt.cells, Pt.slots] at X10 l10 y10 z10 st10 hQ10
    subst l10 y10 z10
    obtain ⟨rfl, N10q, e10⟩ := hQ10
    have N0'' := Fr.app N0' N10q
    refine own_tr (T' := T10) (g' := (mkF m 37 #[.val (.long p0), .second, .val (.int p1), .val (.long edge), .second, .val (.long near), .second, .unset, .unset] [(.int (own_rng p0))])) st10 ?_
    refine own_st (T' := T10) (g' := (mkF m 39 #[.val (.long p0), .second, .val (.int p1), .val (.long edge), .second, .val (.long near), .second, .val (.int (own_rng p0)), .unset] [])) (fun _ k => XS.istore X10.here hx rfl (hb hby at_37) rfl (l' := #[.val (.long p0), .second, .val (.int p1), .val (.long edge), .second, .val (.long near), .second, .val (.int (own_rng p0)), .unset]) rfl k) ?_
    obtain ⟨T11, h11, X11, e11, E11, A11, D11, -, st11⟩ := newO X10 hx hZ hown (hw _ (List.mem_of_getElem? (i := 0) rfl)) (hw _ (List.mem_of_getElem? (i := 1) rfl)) (hw _ (List.mem_of_getElem? (i := 2) rfl)) e10 (g := (mkF m 39 #[.val (.long p0), .second, .val (.int p1), .val (.long edge), .second, .val (.long near), .second, .val (.int (own_rng p0)), .unset] [])) rfl (hb hby at_39) (by decide) (by decide)
    obtain ⟨b2, gb2⟩ : ∃ z, z = T9.heap.size := ⟨_, rfl⟩
    rw [← gb2] at A11 D11 st11
    have ne_b1_b2 : b1 ≠ b2 := own_ne E_b1.lt gb2
    have ge_b2 : n0 ≤ b2 := own_ge Z0'' gb2
    have O := O.ext E11
    have E_b1 := E_b1.ext E11
    have F_tenThousandths_b1 := F_tenThousandths_b1.ext E11
    have Z0''' := Nat.le_trans Z0'' E11.1
    have E_b2 := A11
    have F_tenThousandths_b2 : Fld Z h11 b2 "com/example/reckoner/reckoner/model/Percent" "tenThousandths" "J" (.long (0 : Int64)) := D11 (Or.inr (hw _ (List.mem_of_getElem? (i := 15) rfl))) (ty := .long) (by decide)
    refine own_st (T' := T11) (g' := (mkF m 42 #[.val (.long p0), .second, .val (.int p1), .val (.long edge), .second, .val (.long near), .second, .val (.int (own_rng p0)), .unset] [(.ref b2)])) st11 ?_
    refine own_st (T' := T11) (g' := (mkF m 43 #[.val (.long p0), .second, .val (.int p1), .val (.long edge), .second, .val (.long near), .second, .val (.int (own_rng p0)), .unset] [(.ref b2), (.ref b2)])) (fun _ k => XS.dup X11.here hx rfl (hb hby at_42) rfl rfl k) ?_
    refine own_st (T' := T11) (g' := (mkF m 45 #[.val (.long p0), .second, .val (.int p1), .val (.long edge), .second, .val (.long near), .second, .val (.int (own_rng p0)), .unset] [(.long near), (.ref b2), (.ref b2)])) (fun _ k => XS.lload X11.here hx rfl (hb hby at_43) rfl k) ?_
    obtain ⟨_, _, ⟨T12, L12, k12, n12⟩, -, X12, ⟨Lc12, hQ12, l12, y12, z12⟩, st12⟩ := X11.specialBack hx (y := (⟨"com/example/reckoner/reckoner/model/Percent", "<init>", "(J)V"⟩ : MethodName)) rfl hown (mvT hZ (hw _ (List.mem_of_getElem? (i := 3) rfl))) (mvT hZ (hw _ (List.mem_of_getElem? (i := 4) rfl))) (mvT hZ (hw _ (List.mem_of_getElem? (i := 5) rfl))) (by decide) (backOf (W := 1) (own_ini l Z a0 hw [] b2 near (0 : Int64) h11 n0 Z0''' F_tenThousandths_b2 E_b2 ge_b2) hZ (hw _ (List.mem_of_getElem? (i := 5) rfl)) (hw _ (List.mem_of_getElem? (i := 2) rfl)) (by decide) (by decide)) (g := (mkF m 45 #[.val (.long p0), .second, .val (.int p1), .val (.long edge), .second, .val (.long near), .second, .val (.int (own_rng p0)), .unset] [(.long near), (.ref b2), (.ref b2)])) rfl (by rw [hml]; rfl) (Steps.refl _) (a := b2) (argsL := [(.long near)]) (rest := [(.ref b2)]) (lenOf own_pd1 rfl) rfl (by show 2 * 0 + _ ≤ _; exact Nat.le_of_eq rfl) (hb hby at_45) (fun _ _ => ⟨rfl, e11, (by decide : ((((0 + 1) + 0) + 0) + 1) + 0 ≤ _), (by decide : ((((0 + 1) + 0) + 0) + 1) + 0 ≤ _)⟩)
    dsimp only [Pt.U, Pt.locs, Pt.cells, Pt.slots] at X12 l12 y12 z12 st12 hQ12
    subst l12 y12 z12
    obtain ⟨rfl, N12q, K12, ge_E, ge_F⟩ := hQ12
    have N0''' := Fr.app N0'' N12q
    have O := O.keep K12 ((allS ge_b2 all0))
    have E_b1 := E_b1.keep K12
    have F_tenThousandths_b1 := F_tenThousandths_b1.keep K12 (ninS ne_b1_b2 nin0)
    have E_b2 := E_b2.keep K12
    have Z0'''' := Nat.le_trans Z0''' K12.1
    have F_tenThousandths_b2 := ge_F
    refine own_tr (T' := T12) (g' := (mkF m 48 #[.val (.long p0), .second, .val (.int p1), .val (.long edge), .second, .val (.long near), .second, .val (.int (own_rng p0)), .unset] [(.ref b2)])) st12 ?_
    obtain ⟨cq13, kq13, q13a, q13b, q13c⟩ := isOf hZ rfl E_b2
    obtain ⟨_, _, ⟨T13, L13, k13, n13⟩, -, X13, ⟨Lc13, hQ13, l13, y13, z13⟩, st13⟩ := X12.virtualBack hx (y := (⟨"com/example/reckoner/reckoner/model/Percent", "isFromZeroToHundred", "()Z"⟩ : MethodName)) (z := (⟨"com/example/reckoner/reckoner/model/Percent", "isFromZeroToHundred", "()Z"⟩ : MethodName)) hown (mvT hZ (hw _ (List.mem_of_getElem? (i := 16) rfl))) (mvT hZ (hw _ (List.mem_of_getElem? (i := 17) rfl))) (notFace_of_selects (args := #[]) (mvT hZ (hw _ (List.mem_of_getElem? (i := 19) rfl)))) (mvT hZ (hw _ (List.mem_of_getElem? (i := 19) rfl))) (mvT hZ (hw _ (List.mem_of_getElem? (i := 18) rfl))) (by decide) (backOf (W := 0) (own_isf l Z a0 hw [] b2 near aH T12.heap n0 Z0'''' F_tenThousandths_b2 (FH0.ext O.2) (SH0.ext O.2)) hZ (hw _ (List.mem_of_getElem? (i := 20) rfl)) (hw _ (List.mem_of_getElem? (i := 2) rfl)) (by decide) (by decide)) q13a q13c (g := (mkF m 48 #[.val (.long p0), .second, .val (.int p1), .val (.long edge), .second, .val (.long near), .second, .val (.int (own_rng p0)), .unset] [(.ref b2)])) rfl (by rw [hml]; rfl) (Steps.refl _) (argsL := []) (rest := []) (lenOf own_pd2 rfl) rfl (by show 2 * 0 + _ ≤ _; exact Nat.le_of_eq rfl) (hb hby at_48) (fun _ _ => ⟨rfl, rfl, (by decide : (((((0 + 1) + 0) + 0) + 1) + 0) + 0 ≤ _), (by decide : (((((0 + 1) + 0) + 0) + 1) + 0) + 0 ≤ _)⟩)
    dsimp only [Pt.U, Pt.locs, Pt.cells, Pt.slots] at X13 l13 y13 z13 st13 hQ13
    subst l13 y13 z13
    obtain ⟨rfl, N13q, e13⟩ := hQ13
    have N0'''' := Fr.app N0''' N13q
    refine own_tr (T' := T13) (g' := (mkF m 51 #[.val (.long p0), .second, .val (.int p1), .val (.long edge), .second, .val (.long near), .second, .val (.int (own_rng p0)), .unset] [(.int (own_rng near))])) st13 ?_
    refine own_st (T' := T13) (g' := (mkF m 53 #[.val (.long p0), .second, .val (.int p1), .val (.long edge), .second, .val (.long near), .second, .val (.int (own_rng p0)), .val (.int (own_rng near))] [])) (fun _ k => XS.istore X13.here hx rfl (hb hby at_51) rfl (l' := #[.val (.long p0), .second, .val (.int p1), .val (.long edge), .second, .val (.long near), .second, .val (.int (own_rng p0)), .val (.int (own_rng near))]) rfl k) ?_
    refine own_st (T' := T13) (g' := (mkF m 55 #[.val (.long p0), .second, .val (.int p1), .val (.long edge), .second, .val (.long near), .second, .val (.int (own_rng p0)), .val (.int (own_rng near))] [(.int (own_rng p0))])) (fun _ k => XS.iload X13.here hx rfl (hb hby at_53) rfl k) ?_
    refine own_st (T' := T13) (g' := (mkF m 56 #[.val (.long p0), .second, .val (.int p1), .val (.long edge), .second, .val (.long near), .second, .val (.int (own_rng p0)), .val (.int (own_rng near))] [(.long p0), (.int (own_rng p0))])) (fun _ k => XS.lloadN X13.here hx rfl (hb hby at_55) rfl k) ?_
    obtain ⟨_, _, ⟨T14, L14, k14, n14⟩, -, X14, ⟨Lc14, hQ14, l14, y14, z14⟩, st14⟩ := Jvm.LawKit.callS X13 hx (y := (⟨"com/example/reckoner/reckoner/model/PercentIsFromZeroToHundredPinLaw", "inRange", "(J)Z"⟩ : MethodName)) hown (mvT hZ (hw _ (List.mem_of_getElem? (i := 23) rfl))) (mvT hZ (hw _ (List.mem_of_getElem? (i := 24) rfl))) (mvT hZ (hw _ (List.mem_of_getElem? (i := 25) rfl))) (mvT hZ (hw _ (List.mem_of_getElem? (i := 26) rfl))) (by decide) (backOf (W := 1) (own_inr l Z a0 hw [] p0 T12.heap n0 Z0'''' ) hZ (hw _ (List.mem_of_getElem? (i := 26) rfl)) (hw _ (List.mem_of_getElem? (i := 25) rfl)) (by decide) (by decide)) (g := (mkF m 56 #[.val (.long p0), .second, .val (.int p1), .val (.long edge), .second, .val (.long near), .second, .val (.int (own_rng p0)), .val (.int (own_rng near))] [(.long p0), (.int (own_rng p0))])) rfl (by rw [hml]; rfl) (argsL := [(.long p0)]) (rest := [(.int (own_rng p0))]) (lenOf own_pd3 rfl) rfl (by show 2 * 0 + _ ≤ _; exact Nat.le_of_eq rfl) (hb hby at_56) (fun _ _ => ⟨rfl, e13, (by decide : ((((((0 + 1) + 0) + 0) + 1) + 0) + 0) + 0 ≤ _), (by decide : ((((((0 + 1) + 0) + 0) + 1) + 0) + 0) + 0 ≤ _)⟩)
    dsimp only [Pt.U, Pt.locs, Pt.cells, Pt.slots] at X14 l14 y14 z14 st14 hQ14
    subst l14 y14 z14
    obtain ⟨rfl, N14q, e14⟩ := hQ14
    have N0''''' := Fr.app N0'''' N14q
    refine own_st (T' := T14) (g' := (mkF m 59 #[.val (.long p0), .second, .val (.int p1), .val (.long edge), .second, .val (.long near), .second, .val (.int (own_rng p0)), .val (.int (own_rng near))] [(.int (own_rng p0)), (.int (own_rng p0))])) st14 ?_
    refine own_st (T' := T14) (g' := (mkF m 62 #[.val (.long p0), .second, .val (.int p1), .val (.long edge), .second, .val (.long near), .second, .val (.int (own_rng p0)), .val (.int (own_rng near))] [])) (fun _ k => XS.icmpNo X14.here hx rfl (hb hby at_59) rfl (Jvm.Free.XT.ii_ne_f rfl) k) ?_
    refine own_st (T' := T14) (g' := (mkF m 64 #[.val (.long p0), .second, .val (.int p1), .val (.long edge), .second, .val (.long near), .second, .val (.int (own_rng p0)), .val (.int (own_rng near))] [(.int (own_rng near))])) (fun _ k => XS.iload X14.here hx rfl (hb hby at_62) rfl k) ?_
    refine own_st (T' := T14) (g' := (mkF m 66 #[.val (.long p0), .second, .val (.int p1), .val (.long edge), .second, .val (.long near), .second, .val (.int (own_rng p0)), .val (.int (own_rng near))] [(.long near), (.int (own_rng near))])) (fun _ k => XS.lload X14.here hx rfl (hb hby at_64) rfl k) ?_
    obtain ⟨_, _, ⟨T15, L15, k15, n15⟩, -, X15, ⟨Lc15, hQ15, l15, y15, z15⟩, st15⟩ := Jvm.LawKit.callS X14 hx (y := (⟨"com/example/reckoner/reckoner/model/PercentIsFromZeroToHundredPinLaw", "inRange", "(J)Z"⟩ : MethodName)) hown (mvT hZ (hw _ (List.mem_of_getElem? (i := 23) rfl))) (mvT hZ (hw _ (List.mem_of_getElem? (i := 24) rfl))) (mvT hZ (hw _ (List.mem_of_getElem? (i := 25) rfl))) (mvT hZ (hw _ (List.mem_of_getElem? (i := 26) rfl))) (by decide) (backOf (W := 1) (own_inr l Z a0 hw [] near T12.heap n0 Z0'''' ) hZ (hw _ (List.mem_of_getElem? (i := 26) rfl)) (hw _ (List.mem_of_getElem? (i := 25) rfl)) (by decide) (by decide)) (g := (mkF m 66 #[.val (.long p0), .second, .val (.int p1), .val (.long edge), .second, .val (.long near), .second, .val (.int (own_rng p0)), .val (.int (own_rng near))] [(.long near), (.int (own_rng near))])) rfl (by rw [hml]; rfl) (argsL := [(.long near)]) (rest := [(.int (own_rng near))]) (lenOf own_pd3 rfl) rfl (by show 2 * 0 + _ ≤ _; exact Nat.le_of_eq rfl) (hb hby at_66) (fun _ _ => ⟨rfl, e14, (by decide : (((((((0 + 1) + 0) + 0) + 1) + 0) + 0) + 0) + 0 ≤ _), (by decide : (((((((0 + 1) + 0) + 0) + 1) + 0) + 0) + 0) + 0 ≤ _)⟩)
    dsimp only [Pt.U, Pt.locs, Pt.cells, Pt.slots] at X15 l15 y15 z15 st15 hQ15
    subst l15 y15 z15
    obtain ⟨rfl, N15q, e15⟩ := hQ15
    have N0'''''' := Fr.app N0''''' N15q
    refine own_st (T' := T15) (g' := (mkF m 69 #[.val (.long p0), .second, .val (.int p1), .val (.long edge), .second, .val (.long near), .second, .val (.int (own_rng p0)), .val (.int (own_rng near))] [(.int (own_rng near)), (.int (own_rng near))])) st15 ?_
    refine own_st (T' := T15) (g' := (mkF m 72 #[.val (.long p0), .second, .val (.int p1), .val (.long edge), .second, .val (.long near), .second, .val (.int (own_rng p0)), .val (.int (own_rng near))] [])) (fun _ k => XS.icmpNo X15.here hx rfl (hb hby at_69) rfl (Jvm.Free.XT.ii_ne_f rfl) k) ?_
    refine own_st (T' := T15) (g' := (mkF m 73 #[.val (.long p0), .second, .val (.int p1), .val (.long edge), .second, .val (.long near), .second, .val (.int (own_rng p0)), .val (.int (own_rng near))] [(.int (1 : Int32))])) (fun _ k => XS.iconst X15.here hx rfl (hb hby at_72) k) ?_
    refine own_st (T' := T15) (g' := (mkF m 77 #[.val (.long p0), .second, .val (.int p1), .val (.long edge), .second, .val (.long near), .second, .val (.int (own_rng p0)), .val (.int (own_rng near))] [(.int (1 : Int32))])) (fun _ k => XS.goto X15.here hx rfl (pc0 := 73) (pc' := 77) rfl (hb hby at_73) (by decide) (by decide) k) ?_
    exact own_retN X15 hx Bd.returns Bd.notSynchronized e15 (by simp) (hb hby at_77) ⟨rfl, N0''''''⟩ (by decide) (by decide)
  refine own_st (T' := s₁) (g' := (mkF m 1 #[.val (.long p0), .second, .val (.int p1), .unset, .unset, .unset, .unset, .unset, .unset] [(.int p1)])) (fun _ k => XS.iloadN X0.here hx rfl (hb hby at_0) rfl k) ?_
  refine own_st (T' := s₁) (g' := (mkF m 2 #[.val (.long p0), .second, .val (.int p1), .unset, .unset, .unset, .unset, .unset, .unset] [(.int (1 : Int32)), (.int p1)])) (fun _ k => XS.iconst X0.here hx rfl (hb hby at_1) k) ?_
  refine own_st (T' := s₁) (g' := (mkF m 3 #[.val (.long p0), .second, .val (.int p1), .unset, .unset, .unset, .unset, .unset, .unset] [(.int (p1 &&& (1 : Int32)))])) (fun _ k => XS.iand X0.here hx rfl (hb hby at_2) rfl k) ?_
  by_cases q0 : (p1 &&& (1 : Int32)) = (0 : Int32)
  · refine own_st (T' := s₁) (g' := (mkF m 6 #[.val (.long p0), .second, .val (.int p1), .unset, .unset, .unset, .unset, .unset, .unset] [])) (fun _ k => XS.ifNo X0.here hx rfl (hb hby at_3) rfl (Jvm.Free.XT.i0_ne_f q0) k) ?_
    refine own_st (T' := s₁) (g' := (mkF m 7 #[.val (.long p0), .second, .val (.int p1), .unset, .unset, .unset, .unset, .unset, .unset] [(.long (0 : Int64))])) (fun _ k => XS.lconst X0.here hx rfl (hb hby at_6) k) ?_
    refine own_st (T' := s₁) (g' := (mkF m 13 #[.val (.long p0), .second, .val (.int p1), .unset, .unset, .unset, .unset, .unset, .unset] [(.long (0 : Int64))])) (fun _ k => XS.goto X0.here hx rfl (pc0 := 7) (pc' := 13) rfl (hb hby at_7) (by decide) (by decide) k) ?_
    refine own_st (T' := s₁) (g' := (mkF m 14 #[.val (.long p0), .second, .val (.int p1), .val (.long (0 : Int64)), .second, .unset, .unset, .unset, .unset] [])) (fun _ k => XS.lstoreN X0.here hx rfl (hb hby at_13) rfl (l' := #[.val (.long p0), .second, .val (.int p1), .val (.long (0 : Int64)), .second, .unset, .unset, .unset, .unset]) rfl k) ?_
    refine own_st (T' := s₁) (g' := (mkF m 15 #[.val (.long p0), .second, .val (.int p1), .val (.long (0 : Int64)), .second, .unset, .unset, .unset, .unset] [(.long (0 : Int64))])) (fun _ k => XS.lloadN X0.here hx rfl (hb hby at_14) rfl k) ?_
    refine own_st (T' := s₁) (g' := (mkF m 16 #[.val (.long p0), .second, .val (.int p1), .val (.long (0 : Int64)), .second, .unset, .unset, .unset, .unset] [(.int p1), (.long (0 : Int64))])) (fun _ k => XS.iloadN X0.here hx rfl (hb hby at_15) rfl k) ?_
    refine own_st (T' := s₁) (g' := (mkF m 17 #[.val (.long p0), .second, .val (.int p1), .val (.long (0 : Int64)), .second, .unset, .unset, .unset, .unset] [(.int (1 : Int32)), (.int p1), (.long (0 : Int64))])) (fun _ k => XS.iconst X0.here hx rfl (hb hby at_16) k) ?_
    refine own_st (T' := s₁) (g' := (mkF m 18 #[.val (.long p0), .second, .val (.int p1), .val (.long (0 : Int64)), .second, .unset, .unset, .unset, .unset] [(.int (p1 >>> ((1 : Int32) &&& 31))), (.long (0 : Int64))])) (fun _ k => XS.ishr X0.here hx rfl (hb hby at_17) rfl k) ?_
    refine own_st (T' := s₁) (g' := (mkF m 19 #[.val (.long p0), .second, .val (.int p1), .val (.long (0 : Int64)), .second, .unset, .unset, .unset, .unset] [(.int (3 : Int32)), (.int (p1 >>> ((1 : Int32) &&& 31))), (.long (0 : Int64))])) (fun _ k => XS.iconst X0.here hx rfl (hb hby at_18) k) ?_
    refine own_st (T' := s₁) (g' := (mkF m 20 #[.val (.long p0), .second, .val (.int p1), .val (.long (0 : Int64)), .second, .unset, .unset, .unset, .unset] [(.int ((p1 >>> ((1 : Int32) &&& 31)) &&& (3 : Int32))), (.long (0 : Int64))])) (fun _ k => XS.iand X0.here hx rfl (hb hby at_19) rfl k) ?_
    refine own_st (T' := s₁) (g' := (mkF m 21 #[.val (.long p0), .second, .val (.int p1), .val (.long (0 : Int64)), .second, .unset, .unset, .unset, .unset] [(.int (1 : Int32)), (.int ((p1 >>> ((1 : Int32) &&& 31)) &&& (3 : Int32))), (.long (0 : Int64))])) (fun _ k => XS.iconst X0.here hx rfl (hb hby at_20) k) ?_
    refine own_st (T' := s₁) (g' := (mkF m 22 #[.val (.long p0), .second, .val (.int p1), .val (.long (0 : Int64)), .second, .unset, .unset, .unset, .unset] [(.int (((p1 >>> ((1 : Int32) &&& 31)) &&& (3 : Int32)) - (1 : Int32))), (.long (0 : Int64))])) (fun _ k => XS.isub X0.here hx rfl (hb hby at_21) rfl k) ?_
    refine own_st (T' := s₁) (g' := (mkF m 23 #[.val (.long p0), .second, .val (.int p1), .val (.long (0 : Int64)), .second, .unset, .unset, .unset, .unset] [(.long ((((p1 >>> ((1 : Int32) &&& 31)) &&& (3 : Int32)) - (1 : Int32)).toInt64)), (.long (0 : Int64))])) (fun _ k => XS.i2l X0.here hx rfl (hb hby at_22) rfl k) ?_
    refine own_st (T' := s₁) (g' := (mkF m 24 #[.val (.long p0), .second, .val (.int p1), .val (.long (0 : Int64)), .second, .unset, .unset, .unset, .unset] [(.long ((0 : Int64) + ((((p1 >>> ((1 : Int32) &&& 31)) &&& (3 : Int32)) - (1 : Int32)).toInt64)))])) (fun _ k => XS.ladd X0.here hx rfl (hb hby at_23) rfl k) ?_
    refine own_st (T' := s₁) (g' := (mkF m 26 #[.val (.long p0), .second, .val (.int p1), .val (.long (0 : Int64)), .second, .val (.long ((0 : Int64) + ((((p1 >>> ((1 : Int32) &&& 31)) &&& (3 : Int32)) - (1 : Int32)).toInt64))), .second, .unset, .unset] [])) (fun _ k => XS.lstore X0.here hx rfl (hb hby at_24) rfl (l' := #[.val (.long p0), .second, .val (.int p1), .val (.long (0 : Int64)), .second, .val (.long ((0 : Int64) + ((((p1 >>> ((1 : Int32) &&& 31)) &&& (3 : Int32)) - (1 : Int32)).toInt64))), .second, .unset, .unset]) rfl k) ?_
    exact J26 _ _
  · refine own_st (T' := s₁) (g' := (mkF m 10 #[.val (.long p0), .second, .val (.int p1), .unset, .unset, .unset, .unset, .unset, .unset] [])) (fun _ k => XS.ifYes X0.here hx rfl (pc0 := 3) (pc' := 10) rfl (hb hby at_3) rfl (Jvm.Free.XT.i0_ne_t q0) (by decide) (by decide) k) ?_
    refine own_st (T' := s₁) (g' := (mkF m 13 #[.val (.long p0), .second, .val (.int p1), .unset, .unset, .unset, .unset, .unset, .unset] [(.long (1000000 : Int64))])) (X0.ldc2Long hx hown (mvT hZ (hw _ (List.mem_of_getElem? (i := 27) rfl))) (g := (mkF m 10 #[.val (.long p0), .second, .val (.int p1), .unset, .unset, .unset, .unset, .unset, .unset] [])) rfl (hb hby at_10)) ?_
    refine own_st (T' := s₁) (g' := (mkF m 14 #[.val (.long p0), .second, .val (.int p1), .val (.long (1000000 : Int64)), .second, .unset, .unset, .unset, .unset] [])) (fun _ k => XS.lstoreN X0.here hx rfl (hb hby at_13) rfl (l' := #[.val (.long p0), .second, .val (.int p1), .val (.long (1000000 : Int64)), .second, .unset, .unset, .unset, .unset]) rfl k) ?_
    refine own_st (T' := s₁) (g' := (mkF m 15 #[.val (.long p0), .second, .val (.int p1), .val (.long (1000000 : Int64)), .second, .unset, .unset, .unset, .unset] [(.long (1000000 : Int64))])) (fun _ k => XS.lloadN X0.here hx rfl (hb hby at_14) rfl k) ?_
    refine own_st (T' := s₁) (g' := (mkF m 16 #[.val (.long p0), .second, .val (.int p1), .val (.long (1000000 : Int64)), .second, .unset, .unset, .unset, .unset] [(.int p1), (.long (1000000 : Int64))])) (fun _ k => XS.iloadN X0.here hx rfl (hb hby at_15) rfl k) ?_
    refine own_st (T' := s₁) (g' := (mkF m 17 #[.val (.long p0), .second, .val (.int p1), .val (.long (1000000 : Int64)), .second, .unset, .unset, .unset, .unset] [(.int (1 : Int32)), (.int p1), (.long (1000000 : Int64))])) (fun _ k => XS.iconst X0.here hx rfl (hb hby at_16) k) ?_
    refine own_st (T' := s₁) (g' := (mkF m 18 #[.val (.long p0), .second, .val (.int p1), .val (.long (1000000 : Int64)), .second, .unset, .unset, .unset, .unset] [(.int (p1 >>> ((1 : Int32) &&& 31))), (.long (1000000 : Int64))])) (fun _ k => XS.ishr X0.here hx rfl (hb hby at_17) rfl k) ?_
    refine own_st (T' := s₁) (g' := (mkF m 19 #[.val (.long p0), .second, .val (.int p1), .val (.long (1000000 : Int64)), .second, .unset, .unset, .unset, .unset] [(.int (3 : Int32)), (.int (p1 >>> ((1 : Int32) &&& 31))), (.long (1000000 : Int64))])) (fun _ k => XS.iconst X0.here hx rfl (hb hby at_18) k) ?_
    refine own_st (T' := s₁) (g' := (mkF m 20 #[.val (.long p0), .second, .val (.int p1), .val (.long (1000000 : Int64)), .second, .unset, .unset, .unset, .unset] [(.int ((p1 >>> ((1 : Int32) &&& 31)) &&& (3 : Int32))), (.long (1000000 : Int64))])) (fun _ k => XS.iand X0.here hx rfl (hb hby at_19) rfl k) ?_
    refine own_st (T' := s₁) (g' := (mkF m 21 #[.val (.long p0), .second, .val (.int p1), .val (.long (1000000 : Int64)), .second, .unset, .unset, .unset, .unset] [(.int (1 : Int32)), (.int ((p1 >>> ((1 : Int32) &&& 31)) &&& (3 : Int32))), (.long (1000000 : Int64))])) (fun _ k => XS.iconst X0.here hx rfl (hb hby at_20) k) ?_
    refine own_st (T' := s₁) (g' := (mkF m 22 #[.val (.long p0), .second, .val (.int p1), .val (.long (1000000 : Int64)), .second, .unset, .unset, .unset, .unset] [(.int (((p1 >>> ((1 : Int32) &&& 31)) &&& (3 : Int32)) - (1 : Int32))), (.long (1000000 : Int64))])) (fun _ k => XS.isub X0.here hx rfl (hb hby at_21) rfl k) ?_
    refine own_st (T' := s₁) (g' := (mkF m 23 #[.val (.long p0), .second, .val (.int p1), .val (.long (1000000 : Int64)), .second, .unset, .unset, .unset, .unset] [(.long ((((p1 >>> ((1 : Int32) &&& 31)) &&& (3 : Int32)) - (1 : Int32)).toInt64)), (.long (1000000 : Int64))])) (fun _ k => XS.i2l X0.here hx rfl (hb hby at_22) rfl k) ?_
    refine own_st (T' := s₁) (g' := (mkF m 24 #[.val (.long p0), .second, .val (.int p1), .val (.long (1000000 : Int64)), .second, .unset, .unset, .unset, .unset] [(.long ((1000000 : Int64) + ((((p1 >>> ((1 : Int32) &&& 31)) &&& (3 : Int32)) - (1 : Int32)).toInt64)))])) (fun _ k => XS.ladd X0.here hx rfl (hb hby at_23) rfl k) ?_
    refine own_st (T' := s₁) (g' := (mkF m 26 #[.val (.long p0), .second, .val (.int p1), .val (.long (1000000 : Int64)), .second, .val (.long ((1000000 : Int64) + ((((p1 >>> ((1 : Int32) &&& 31)) &&& (3 : Int32)) - (1 : Int32)).toInt64))), .second, .unset, .unset] [])) (fun _ k => XS.lstore X0.here hx rfl (hb hby at_24) rfl (l' := #[.val (.long p0), .second, .val (.int p1), .val (.long (1000000 : Int64)), .second, .val (.long ((1000000 : Int64) + ((((p1 >>> ((1 : Int32) &&& 31)) &&& (3 : Int32)) - (1 : Int32)).toInt64))), .second, .unset, .unset]) rfl k) ?_
    exact J26 _ _
set_option maxRecDepth 65536 in
set_option maxHeartbeats 40000000 in
theorem comes_1 {Post : Tables → Env → Array Value → State → Outcome → State → Prop} (hpost : ∀ tb e args s v u, (limb_1_1.after args s (.returned v) u = true ∧ limb_1_2.after args s (.returned v) u = true ∧ True) → FrameEnd s (.returned v) u (Jvm.fieldLocs frame_1_writes args s ++ Jvm.arrayLocs frame_1_arrays args s ++ Jvm.staticLocs frame_1_statics s) 16 128 → Post tb e args s (.returned v) u) :
    ArmFor flags0 classFile x code maxLocals ret World_1 tables_1 room_1 Calls_1 rest_1 Pre_1 Post := by
  intro l hfl _ _ p e ha hc hk s m args below hf hA hF happ hP
  obtain ⟨hcalls, hrest, hpre⟩ := hP
  obtain ⟨-, -, -, hnamed, -, -, -, hat⟩ := (Spec.applies_iff hf).mp happ
  obtain ⟨hg, hn⟩ := and_e (Cond.before_iff.mp (show (Jvm.Cond.and given_1 narrow_1).before args s = true from hpre))
  obtain ⟨hcount, r0⟩ := and_e hg
  obtain ⟨hk0, r1⟩ := and_e r0
  have hk1 := r1
  obtain ⟨w0, w1, rfl⟩ : ∃ w0 w1 : Value, args = #[w0, w1] := by
    have hs : args.size = 2 := by simpa [Cond.value, given_1] using hcount
    obtain ⟨L⟩ := args
    match L, hs with
    | [w0, w1], _ => exact ⟨w0, w1, rfl⟩
  have hw := fun d (hd : d ∈ tables_1) => atoms_spec (ws := Jvm.Cond.code x code maxLocals ret :: tables_1) hat d (List.mem_cons_of_mem _ hd)
  have hfit : Fit s := fun {y c} hc i hi => by
    obtain ⟨ha, rfl⟩ := Array.getElem?_eq_some_iff.mp hc
    have q := List.all_eq_true.mp ((Array.all_eq_true_iff_forall_mem.mp hF) _ (Array.getElem_mem ha)) i (List.mem_range.mpr hi)
    simpa [Array.getElem?_eq_getElem hi] using q
  obtain ⟨i0, ei0⟩ := isL_v hk0
  obtain rfl : w0 = (.long i0) := Option.some.inj ei0
  obtain ⟨i1, ei1⟩ := is_v hk1
  obtain rfl : w1 = (.int i1) := Option.some.inj ei1
  obtain ⟨nH, oH⟩ := and_e hn
  obtain ⟨aH, evH⟩ := exa_v nH
  have SH := Sta.start evH (Or.inr ⟨(hw _ (List.mem_of_getElem? (i := 2) rfl)), (hw _ (List.mem_of_getElem? (i := 22) rfl))⟩)
  have FH := own_fldJ evH oH
  obtain ⟨n, o, h1, h2, h3, _, L, rfl, ⟨rfl, N⟩, hq⟩ := own_law l s _ hw tables_1 i0 i1 aH s.heap s.heap.size (Nat.le_refl _) (Old.start s) FH SH p e ha hc hk s m _ below hf ((Spec.applies_iff_loose hf).mp happ).1 ⟨rfl, State.Warmed39.refl s, rfl⟩ trivial
  refine ⟨n, _, h1, h2, h3, hpost _ _ _ _ _ _ ⟨Cond.after_iff.mpr rfl, Cond.after_iff.mpr (eq_i res_at (Term.int_eval (1)) rfl), trivial⟩ ⟨hq.1, hq.2.1, (hq.2.2.sift fun y hy => Or.inr (N y hy)).mono (by decide) (by decide)⟩⟩
theorem main_1_1 : Claimed_1_1 := comes_1 fun _ _ _ _ _ _ h hF => ⟨h.1, hF⟩
theorem main_1_2 : Claimed_1_2 := comes_1 fun _ _ _ _ _ _ h hF => ⟨h.2.1, hF⟩
end Jvm.Pilot.@@N@@
namespace Jvm.Pilot.@@N@@
open Jvm Jvm.ClassFile Sem Op Lib Jvm.Free Jvm.Stand Jvm.Pilot.@@N@@.Jvm.D
/-! MADE BY PROGRAM (witnessworld.py) out of the Statement's table words and the real class files: 10 classes; the members and pool entries that the words name. The judged class is class 1, her method 1. -/
namespace start1
open Jvm.ClassFile
def u (s : String) : CpInfo := .utf8 (stringToUtf16 s)
/-- a pool by its gaps: so many unusable entries, then the entry; so many at the end -/
def gap : Nat → List CpInfo → List CpInfo
  | 0, r => r
  | n + 1, r => .unusable :: gap n r
def poolList (es : List (Nat × CpInfo)) (last : Nat) : List CpInfo := es.foldr (fun e r => gap e.1 (e.2 :: r)) (gap last [])
def pool (es : List (Nat × CpInfo)) (last : Nat) : Array CpInfo := ⟨poolList es last⟩
def fileOf (pool : Array CpInfo) (this : Nat) (attrs : Array Attribute := #[]) (ms : Array MethodInfo := #[]) (fl : Nat := 33) (sup : Nat := 0) (ifs : Array Nat := #[]) (fds : Array FieldInfo := #[]) : ClassFile where
  minorVersion := 0
  majorVersion := 65
  constantPool := pool
  accessFlags := fl
  thisClass := this
  superClass := sup
  interfaces := ifs
  fields := fds
  methods := ms
  attributes := attrs
def plain (name : String) (sup : Option ClassId) : Class where
  name := name
  kind := .ordinary
  loader := none
  accessFlags := 33
  super := sup
  interfaces := #[]
  cf := none
  fields := #[]
  methods := #[]
  instanceTypes := #[]
  staticTypes := #[]
  resolved := #[]
  callSites := []
  init := .initialized
  statics := none
  mirror := none

def pool0 : Array CpInfo := pool [(5, u "<init>"), (0, u "()V"), (1, .class_ 10), (1, u "java/lang/Object")] 113

def k0c0 : Code := { maxStack := 0, maxLocals := 1, code := object_method_1_code, exceptionTable := #[], attributes := #[] }
def k0m0 : Method := { name := "<init>", desc := "()V", sig := { parameters := [], returnType := none }, accessFlags := 1, code := some k0c0 }
/-- java/lang/Object -/
def k0 : Class := { plain "java/lang/Object" none with
  accessFlags := 33
  interfaces := #[]
  cf := some (fileOf pool0 8 #[] #[{ accessFlags := 1, nameIndex := 5, descriptorIndex := 6, attributes := #[] }] 33 0 #[] #[])
  fields := #[]
  methods := #[k0m0]
  instanceTypes := #[]
  staticTypes := #[]
  resolved := Array.replicate 124 none
  statics := none }

def pool1 : Array CpInfo := pool [(2, .class_ 4), (1, u "java/lang/Object"), (0, u "<init>"), (0, u "()V"), (0, .long 1000000), (1, .class_ 10), (0, u "com/example/reckoner/reckoner/model/Percent"), (0, .methodref 9 12), (0, .nameAndType 5 13), (0, u "(J)V"), (0, .methodref 9 15), (0, .nameAndType 16 17), (0, u "isFromZeroToHundred"), (0, u "()Z"), (0, .methodref 19 20), (0, .class_ 21), (0, .nameAndType 22 23), (0, u "com/example/reckoner/reckoner/model/PercentIsFromZeroToHundredPinLaw"), (0, u "inRange"), (0, u "(J)Z"), (2, u "law"), (0, u "(JI)Z")] 3

def k1m0 : Method := { name := "<init>", desc := "()V", sig := { parameters := [], returnType := none }, accessFlags := 1, code := none }
def k1c1 : Code := { maxStack := 4, maxLocals := 9, code := code, exceptionTable := #[], attributes := #[] }
def k1m1 : Method := { name := "law", desc := "(JI)Z", sig := { parameters := [.long, .int], returnType := some .boolean }, accessFlags := 9, code := some k1c1 }
def k1c2 : Code := { maxStack := 4, maxLocals := 2, code := method_3_code, exceptionTable := #[], attributes := #[] }
def k1m2 : Method := { name := "inRange", desc := "(J)Z", sig := { parameters := [.long], returnType := some .boolean }, accessFlags := 10, code := some k1c2 }
/-- com/example/reckoner/reckoner/model/PercentIsFromZeroToHundredPinLaw -/
def k1 : Class := { plain "com/example/reckoner/reckoner/model/PercentIsFromZeroToHundredPinLaw" (some 0) with
  accessFlags := 49
  interfaces := #[]
  cf := some (fileOf pool1 19 #[] #[{ accessFlags := 1, nameIndex := 5, descriptorIndex := 6, attributes := #[] }, { accessFlags := 9, nameIndex := 26, descriptorIndex := 27, attributes := #[] }, { accessFlags := 10, nameIndex := 22, descriptorIndex := 23, attributes := #[] }] 49 2 #[] #[])
  fields := #[]
  methods := #[k1m0, k1m1, k1m2]
  instanceTypes := #[]
  staticTypes := #[]
  resolved := Array.replicate 31 none
  statics := none }

def pool2 : Array CpInfo := pool [(1, .methodref 2 3), (0, .class_ 4), (0, .nameAndType 5 6), (0, u "java/lang/Object"), (0, u "<init>"), (0, u "()V"), (0, .class_ 8), (0, u "java/lang/Record")] 13

def k2c0 : Code := { maxStack := 1, maxLocals := 1, code := jdk_30_method_1_code, exceptionTable := #[], attributes := #[] }
def k2m0 : Method := { name := "<init>", desc := "()V", sig := { parameters := [], returnType := none }, accessFlags := 4, code := some k2c0 }
/-- java/lang/Record -/
def k2 : Class := { plain "java/lang/Record" (some 0) with
  accessFlags := 1057
  interfaces := #[]
  cf := some (fileOf pool2 7 #[] #[{ accessFlags := 4, nameIndex := 5, descriptorIndex := 6, attributes := #[] }] 1057 2 #[] #[])
  fields := #[]
  methods := #[k2m0]
  instanceTypes := #[]
  staticTypes := #[]
  resolved := Array.replicate 22 none
  statics := none }

def pool3 : Array CpInfo := pool [(1, .methodref 2 3), (0, .class_ 4), (0, .nameAndType 5 6), (0, u "java/lang/Record"), (0, u "<init>"), (0, u "()V"), (0, .fieldref 8 9), (0, .class_ 10), (0, .nameAndType 11 12), (0, u "com/example/reckoner/reckoner/model/Percent"), (0, u "tenThousandths"), (0, u "J"), (2, u "WRITTEN"), (0, u "Lcom/example/reckoner/reckoner/model/FixedPoint;"), (8, u "(J)V"), (25, .fieldref 8 52), (0, .nameAndType 53 54), (0, u "HUNDRED"), (0, u "Lcom/example/reckoner/reckoner/model/Percent;"), (40, u "DECIMALS"), (0, u "I"), (11, u "isFromZeroToHundred"), (0, u "()Z")] 37

def k3c0 : Code := { maxStack := 3, maxLocals := 3, code := prog_70_method_1_code, exceptionTable := #[], attributes := #[] }
def k3m0 : Method := { name := "<init>", desc := "(J)V", sig := { parameters := [.long], returnType := none }, accessFlags := 1, code := some k3c0 }
def k3c1 : Code := { maxStack := 4, maxLocals := 1, code := prog_70_method_4_code, exceptionTable := #[], attributes := #[] }
def k3m1 : Method := { name := "isFromZeroToHundred", desc := "()Z", sig := { parameters := [], returnType := some .boolean }, accessFlags := 1, code := some k3c1 }
/-- com/example/reckoner/reckoner/model/Percent -/
def k3 : Class := { plain "com/example/reckoner/reckoner/model/Percent" (some 2) with
  accessFlags := 49
  interfaces := #[]
  cf := some (fileOf pool3 8 #[] #[{ accessFlags := 1, nameIndex := 5, descriptorIndex := 25, attributes := #[] }, { accessFlags := 1, nameIndex := 108, descriptorIndex := 109, attributes := #[] }] 49 2 #[] #[{ accessFlags := 18, nameIndex := 11, descriptorIndex := 12, attributes := #[] }, { accessFlags := 25, nameIndex := 53, descriptorIndex := 54, attributes := #[] }, { accessFlags := 26, nameIndex := 95, descriptorIndex := 96, attributes := #[] }, { accessFlags := 26, nameIndex := 15, descriptorIndex := 16, attributes := #[] }])
  fields := #[{ name := "tenThousandths", type := .long, accessFlags := 18, slot := 0, constantValue := 0 }, { name := "HUNDRED", type := (.object "com/example/reckoner/reckoner/model/Percent"), accessFlags := 25, slot := 0, constantValue := 0 }, { name := "DECIMALS", type := .int, accessFlags := 26, slot := 1, constantValue := 0 }, { name := "WRITTEN", type := (.object "com/example/reckoner/reckoner/model/FixedPoint"), accessFlags := 26, slot := 2, constantValue := 0 }]
  methods := #[k3m0, k3m1]
  instanceTypes := #[.long]
  staticTypes := #[(.object "com/example/reckoner/reckoner/model/Percent"), .int, (.object "com/example/reckoner/reckoner/model/FixedPoint")]
  resolved := Array.replicate 147 none
  statics := some 0 }

def pool4 : Array CpInfo := pool [(1, u "java/lang/Cloneable"), (0, .class_ 1), (0, u "java/lang/Object"), (0, .class_ 3)] 3

/-- java/lang/Cloneable -/
def k4 : Class := { plain "java/lang/Cloneable" (some 0) with
  accessFlags := 1537
  interfaces := #[]
  cf := some (fileOf pool4 2 #[] #[] 1537 4 #[] #[])
  fields := #[]
  methods := #[]
  instanceTypes := #[]
  staticTypes := #[]
  resolved := Array.replicate 8 none
  statics := none }

def pool5 : Array CpInfo := pool [(1, u "java/io/Serializable"), (0, .class_ 1), (0, u "java/lang/Object"), (0, .class_ 3)] 3

/-- java/io/Serializable -/
def k5 : Class := { plain "java/io/Serializable" (some 0) with
  accessFlags := 1537
  interfaces := #[]
  cf := some (fileOf pool5 2 #[] #[] 1537 4 #[] #[])
  fields := #[]
  methods := #[]
  instanceTypes := #[]
  staticTypes := #[]
  resolved := Array.replicate 8 none
  statics := none }

/-- the primitive byte -/
def k6 : Class := { plain "byte" none with kind := .primitive 'B', accessFlags := 0x411 }
/-- [B -/
def k7 : Class := { plain "[B" (some 0) with kind := .array 6 .byte, interfaces := #[4, 5], accessFlags := 1041 }

/-- the primitive int -/
def k8 : Class := { plain "int" none with kind := .primitive 'I', accessFlags := 0x411 }
/-- [I -/
def k9 : Class := { plain "[I" (some 0) with kind := .array 8 .int, interfaces := #[4, 5], accessFlags := 1041 }

def heap : Heap := #[{ cls := 3, slots := #[.ref 1, .int 0, .null], vm := .statics 3 },
  { cls := 3, slots := #[.long 1000000], vm := .none }]
def classes : Array Class := #[k0, k1, k2, k3, k4, k5, k6, k7, k8, k9]
def interned : List (Array UInt16 × Addr) := []
def slotsUsed : Nat := 4
def theMethod : MethodId := ⟨1, 1⟩
def args0 : Array Value := #[.long 5, .int 3]
def aboutOver (below : List Frame) : State where
  vm := { classes := classes, interned := interned.toArray }
  heap := heap
  slotsUsed := slotsUsed
  threads := #[{ frames := .invoking theMethod args0 :: below }]
def below0 : List Frame := [.native { method := ⟨0, 0⟩, args := #[] }]
def about1 : State := aboutOver below0
def p0 : Program := .bare "" "" ""
def e0 : Env := launch0.env 0 0 0
theorem w_frames : about1.frames = Frame.invoking theMethod args0 :: below0 := rfl
set_option maxRecDepth 65536 in
theorem w_args : argsFit about1.vm theMethod args0 = true := by decide +kernel
set_option maxRecDepth 65536 in
theorem w_heap : heapFits about1 = true := by decide +kernel
set_option maxRecDepth 65536 in
theorem w_runnable : about1.curStatus? = some .runnable := by decide +kernel
set_option maxRecDepth 65536 in
theorem w_alone : about1.alone = true := by decide +kernel
set_option maxRecDepth 65536 in
theorem w_named : about1.methodNamed? x = some theMethod := by decide +kernel
set_option maxRecDepth 65536 in
theorem w_hears : about1.hears theMethod below0 = true := by decide +kernel
set_option maxRecDepth 65536 in
theorem w_ripe : about1.ripe theMethod args0 below0 = true := by decide +kernel
theorem w_running : about1.status = .running := rfl
set_option maxRecDepth 65536 in
theorem w_room : about1.hasRoom e0.platform room_1 = true :=
  launch0.hasRoom_least _ room_1 (by decide +kernel) (by decide +kernel) (by decide +kernel) (by decide +kernel) (by decide +kernel) (by decide +kernel)
theorem allAtoms_all (ts : List Jvm.Cond) (a : Array Jvm.Value) (st : Jvm.State) : (allAtoms ts).before a st = ts.all (fun c => c.before a st) := by
  induction ts with
  | nil => rfl
  | cons c t ih =>
    show (Jvm.Cond.and c (allAtoms t)).before a st = _
    rw [Jvm.Cond.before_and, ih, List.all_cons]
def words1 : List Jvm.Cond := Jvm.Cond.code x code maxLocals ret :: tables_1
/-- a 'code' word, met by the world's own term for the bytes: nothing is compared byte by byte -/
theorem code_word {y : MethodName} {bytes : ByteArray} {mx : Nat} {rt : Option FieldType} {a : Array Value} {s : State} {m : MethodId} {meth : Method} {c : Code} (h1 : s.methodNamed? y = some m) (h2 : s.vm.method? m = some meth) (h3 : meth.code = some c) (h4 : c.code = bytes)
    (h5 : (c.maxLocals == mx && c.exceptionTable.isEmpty && decide (c.maxStack ≤ mostOperands) && decide (meth.sig.returnType = rt) && !meth.locks && decide (parseMethodDescriptor y.desc = some meth.sig)) = true) : (Jvm.Cond.code y bytes mx rt).before a s = true := by
  simp only [Bool.and_eq_true, beq_iff_eq, Bool.not_eq_true', decide_eq_true_eq] at h5
  obtain ⟨⟨⟨⟨⟨g1, g2⟩, g3⟩, g4⟩, g5⟩, g6⟩ := h5
  simp [Cond.before, Cond.holds, Cond.value, h1, h2, h3, h4, g1, g2, g3, g4, g5, g6]
def isCode : Jvm.Cond → Bool
  | .code _ _ _ _ => true
  | _ => false
theorem all_split {L : List Jvm.Cond} {P : Jvm.Cond → Bool} (h1 : L.all (fun c => isCode c || P c) = true) (h2 : ∀ c ∈ L.filter isCode, P c = true) : L.all P = true := by
  refine List.all_eq_true.mpr fun c hc => ?_
  have h := List.all_eq_true.mp h1 c hc
  rcases Bool.eq_false_or_eq_true (isCode c) with hi | hi
  · exact h2 c (List.mem_filter.mpr ⟨hc, hi⟩)
  · simpa [hi] using h
set_option maxRecDepth 65536 in
theorem w_c0 : (Jvm.Cond.code x code maxLocals ret).before args0 about1 = true := code_word (m := ⟨1, 1⟩) (meth := k1m1) (c := k1c1) (by decide +kernel) rfl rfl rfl (by decide +kernel)
set_option maxRecDepth 65536 in
theorem w_c1 : (Jvm.Cond.code ({ cls := "com/example/reckoner/reckoner/model/Percent", name := "<init>", desc := "(J)V" } : Jvm.MethodName) prog_70_method_1_code (3 : Nat) (Option.none : Option Jvm.ClassFile.FieldType)).before args0 about1 = true := code_word (m := ⟨3, 0⟩) (meth := k3m0) (c := k3c0) (by decide +kernel) rfl rfl rfl (by decide +kernel)
set_option maxRecDepth 65536 in
theorem w_c2 : (Jvm.Cond.code ({ cls := "java/lang/Record", name := "<init>", desc := "()V" } : Jvm.MethodName) jdk_30_method_1_code (1 : Nat) (Option.none : Option Jvm.ClassFile.FieldType)).before args0 about1 = true := code_word (m := ⟨2, 0⟩) (meth := k2m0) (c := k2c0) (by decide +kernel) rfl rfl rfl (by decide +kernel)
set_option maxRecDepth 65536 in
theorem w_c3 : (Jvm.Cond.code ({ cls := "java/lang/Object", name := "<init>", desc := "()V" } : Jvm.MethodName) object_method_1_code (1 : Nat) (Option.none : Option Jvm.ClassFile.FieldType)).before args0 about1 = true := code_word (m := ⟨0, 0⟩) (meth := k0m0) (c := k0c0) (by decide +kernel) rfl rfl rfl (by decide +kernel)
set_option maxRecDepth 65536 in
theorem w_c4 : (Jvm.Cond.code ({ cls := "com/example/reckoner/reckoner/model/Percent", name := "isFromZeroToHundred", desc := "()Z" } : Jvm.MethodName) prog_70_method_4_code (1 : Nat) (Option.some Jvm.ClassFile.FieldType.boolean)).before args0 about1 = true := code_word (m := ⟨3, 1⟩) (meth := k3m1) (c := k3c1) (by decide +kernel) rfl rfl rfl (by decide +kernel)
set_option maxRecDepth 65536 in
theorem w_c5 : (Jvm.Cond.code ({ cls := "com/example/reckoner/reckoner/model/PercentIsFromZeroToHundredPinLaw", name := "inRange", desc := "(J)Z" } : Jvm.MethodName) method_3_code (2 : Nat) (Option.some Jvm.ClassFile.FieldType.boolean)).before args0 about1 = true := code_word (m := ⟨1, 2⟩) (meth := k1m2) (c := k1c2) (by decide +kernel) rfl rfl rfl (by decide +kernel)
def codes1 : List Jvm.Cond := [Jvm.Cond.code x code maxLocals ret, Jvm.Cond.code ({ cls := "com/example/reckoner/reckoner/model/Percent", name := "<init>", desc := "(J)V" } : Jvm.MethodName) prog_70_method_1_code (3 : Nat) (Option.none : Option Jvm.ClassFile.FieldType), Jvm.Cond.code ({ cls := "java/lang/Record", name := "<init>", desc := "()V" } : Jvm.MethodName) jdk_30_method_1_code (1 : Nat) (Option.none : Option Jvm.ClassFile.FieldType), Jvm.Cond.code ({ cls := "java/lang/Object", name := "<init>", desc := "()V" } : Jvm.MethodName) object_method_1_code (1 : Nat) (Option.none : Option Jvm.ClassFile.FieldType), Jvm.Cond.code ({ cls := "com/example/reckoner/reckoner/model/Percent", name := "isFromZeroToHundred", desc := "()Z" } : Jvm.MethodName) prog_70_method_4_code (1 : Nat) (Option.some Jvm.ClassFile.FieldType.boolean), Jvm.Cond.code ({ cls := "com/example/reckoner/reckoner/model/PercentIsFromZeroToHundredPinLaw", name := "inRange", desc := "(J)Z" } : Jvm.MethodName) method_3_code (2 : Nat) (Option.some Jvm.ClassFile.FieldType.boolean)]
set_option maxRecDepth 65536 in
theorem codes_eq : words1.filter isCode = codes1 := rfl
theorem w_codes : ∀ c ∈ words1.filter isCode, c.before args0 about1 = true := by
  rw [codes_eq]
  intro c hc
  simp only [codes1, List.mem_cons, List.not_mem_nil, or_false] at hc
  rcases hc with rfl | rfl | rfl | rfl | rfl | rfl
  · exact w_c0
  · exact w_c1
  · exact w_c2
  · exact w_c3
  · exact w_c4
  · exact w_c5
set_option maxRecDepth 65536 in
theorem w_t1 : (words1.take 24).all (fun c => isCode c || c.before args0 about1) = true := by decide +kernel
set_option maxRecDepth 65536 in
theorem w_t2 : (words1.drop 24).all (fun c => isCode c || c.before args0 about1) = true := by decide +kernel
theorem w_tables : (allAtoms (Jvm.Cond.code x code maxLocals ret :: tables_1)).before args0 about1 = true := by
  rw [allAtoms_all]
  show words1.all (fun c => c.before args0 about1) = true
  refine all_split ?_ w_codes
  rw [← List.take_append_drop 24 words1, List.all_append, w_t1, w_t2]
  rfl
set_option maxRecDepth 65536 in
theorem w_case : (Jvm.Cond.and given_1 narrow_1).before args0 about1 = true := by decide +kernel
theorem w_applies : (headSpec (Jvm.Cond.code x code maxLocals ret :: tables_1) room_1).applies x e0.platform about1 = true :=
  (Spec.applies_iff w_frames).mpr ⟨w_running, w_runnable, w_alone, w_named, w_hears, w_ripe, w_room, w_tables⟩
theorem atStart : AtStart classFile x code maxLocals ret World_1 tables_1 room_1 Calls_1 rest_1 Pre_1 launch0 p0 e0 about1 theMethod args0 below0 :=
  ⟨lists_1, trivial, launch0.admits_env _ _ _, launch0.least_env, fairChoices_fair.cas, fairChoices_fair.clock, w_frames, w_args, w_heap, w_applies, trivial, trivial, w_case⟩
end start1
theorem witness_1 : WitnessClaimed_1 := ⟨start1.p0, start1.e0, start1.about1, start1.theMethod, start1.args0, start1.below0, start1.atStart⟩
end Jvm.Pilot.@@N@@
