import JvmDerived
import JvmDerived.Pilot.@@N@@Statement
import JvmDerived.Pilot.@@N@@Code
set_option linter.unusedVariables false
set_option linter.unusedSimpArgs false
namespace Jvm.Pilot.@@N@@
open Jvm Jvm.ClassFile Sem Op Lib Jvm.Free Jvm.Stand Jvm.LawKit Jvm.RoadKit Bundle Jvm.Pilot.@@N@@.Jvm.D
section Own
variable {p : Program} {l : Launch} {e : Env} {R : Room} {s : State} {m : MethodId} {args : Array Value} {below : List Frame} {meth : Method} {c : Code} {T T' : State} {locs : List Loc} {cells slots : Nat} {Z : State} {h h' : Heap} {P : Option Value → Heap → List Loc → Prop} {cm sm : Nat} {g g' : JFrame}
/-- from where the walk stands the body comes to its end, and P says what it leaves -/
def own_Go (p : Program) (e : Env) (below : List Frame) (s : State) (P : Option Value → Heap → List Loc → Prop) (cm sm : Nat) (T : State) (g : JFrame) : Prop :=
  ∃ s₂ o, Steps p.tables e below (T.setTop g) s₂ ∧ s₂.status = .running ∧ Ended s₂ below o ∧ ∃ v L, o = .returned v ∧ P v s₂.heap L ∧ FrameEnd s o s₂ L cm sm
theorem own_st (st : ∀ t, Steps p.tables e below (T'.setTop g') t → Steps p.tables e below (T.setTop g) t) (k : own_Go p e below s P cm sm T' g') : own_Go p e below s P cm sm T g := by
  obtain ⟨s₂, o, h1, h2⟩ := k; exact ⟨s₂, o, st _ h1, h2⟩
theorem own_tr (st : Steps p.tables e below (T.setTop g) (T'.setTop g')) (k : own_Go p e below s P cm sm T' g') : own_Go p e below s P cm sm T g := own_st (fun _ q => st.trans q) k
theorem own_out (X : Stand p l e R s m args below meth c T locs cells slots) {v : Option Value} (hv : meth.sig.returnType = none → v = none) (hlk : meth.locks = false) (eT : T.heap = h)
    (hret : ∀ fs, (∀ (f : JFrame) (acts : List Action), f.method = m → f.locked = none → f.entered = [] → (doReturn e (T.setTop f) acts v).1 = T.setFrames fs) → Steps p.tables e below (T.setTop g) (T.setFrames fs))
    (hP : P v h locs) (hc : cells ≤ cm) (hs : slots ≤ sm) : own_Go p e below s P cm sm T g := by
  obtain ⟨fs, hr, hrun, hended, hW, hsame⟩ := X.leave hv hlk
  subst eT
  exact ⟨_, _, hret fs hr, hrun, hended, v, locs, rfl, hP, ⟨_, rfl⟩, hW, hsame.mono hc hs⟩
theorem own_retI (X : Stand p l e R s m args below meth c T locs cells slots) (hx : p.tables.exec = Jvm.exec) (hret : meth.sig.returnType = some .int) (hlk : meth.locks = false) (eT : T.heap = h) {pc : Nat} {Ls : Array Slot} {z : Int32} {rest : List Value} (hd : decode c.code pc = .ok (.ireturn, 1))
    (hP : P (some (.int z)) h locs) (hc : cells ≤ cm) (hs : slots ≤ sm) : own_Go p e below s P cm sm T (mkF m pc Ls (.int z :: rest)) :=
  own_out X (fun q => by rw [hret] at q; cases q) hlk eT (fun fs hr => retOut X hx hret rfl (Or.inl ⟨rfl, Or.inl rfl, z, rfl⟩) hd hr) hP hc hs
theorem own_retN (X : Stand p l e R s m args below meth c T locs cells slots) (hx : p.tables.exec = Jvm.exec) {t : FieldType} (hret : meth.sig.returnType = some t) (hlk : meth.locks = false) (eT : T.heap = h) (ht : t = .boolean ∨ t = .byte ∨ t = .char ∨ t = .short) {pc : Nat} {Ls : Array Slot} {z : Int32} {rest : List Value} (hd : decode c.code pc = .ok (.ireturn, 1))
    (hP : P (some (.int (nar t z))) h locs) (hc : cells ≤ cm) (hs : slots ≤ sm) : own_Go p e below s P cm sm T (mkF m pc Ls (.int z :: rest)) :=
  own_out X (fun q => by rw [hret] at q; cases q) hlk eT (fun fs hr => retN X hx hret ht hd hr) hP hc hs
theorem own_retJ (X : Stand p l e R s m args below meth c T locs cells slots) (hx : p.tables.exec = Jvm.exec) (hret : meth.sig.returnType = some .long) (hlk : meth.locks = false) (eT : T.heap = h) {pc : Nat} {Ls : Array Slot} {z : Int64} {rest : List Value} (hd : decode c.code pc = .ok (.lreturn, 1))
    (hP : P (some (.long z)) h locs) (hc : cells ≤ cm) (hs : slots ≤ sm) : own_Go p e below s P cm sm T (mkF m pc Ls (.long z :: rest)) :=
  own_out X (fun q => by rw [hret] at q; cases q) hlk eT (fun fs hr => retOut X hx hret rfl (Or.inr (Or.inl ⟨rfl, rfl, z, rfl⟩)) hd hr) hP hc hs
theorem own_retR (X : Stand p l e R s m args below meth c T locs cells slots) (hx : p.tables.exec = Jvm.exec) {t : FieldType} (hret : meth.sig.returnType = some t) (hlk : meth.locks = false) (eT : T.heap = h) (ht : t.isReference = true) {pc : Nat} {Ls : Array Slot} {w : Value} (hw : w.isRef = true) {rest : List Value} (hd : decode c.code pc = .ok (.areturn, 1))
    (hP : P (some w) h locs) (hc : cells ≤ cm) (hs : slots ≤ sm) : own_Go p e below s P cm sm T (mkF m pc Ls (w :: rest)) :=
  own_out X (fun q => by rw [hret] at q; cases q) hlk eT (fun fs hr => retOut X hx hret (by cases t <;> cases w <;> first | rfl | (simp [Value.isRef] at hw; done) | (simp [FieldType.isReference] at ht; done)) (Or.inr (Or.inr (Or.inr (Or.inr ⟨rfl, ht, hw⟩)))) hd hr) hP hc hs
theorem own_ret0 (X : Stand p l e R s m args below meth c T locs cells slots) (hx : p.tables.exec = Jvm.exec) (hret : meth.sig.returnType = none) (hlk : meth.locks = false) (eT : T.heap = h) {pc : Nat} {Ls : Array Slot} (hd : decode c.code pc = .ok (.return_, 1))
    (hP : P none h locs) (hc : cells ≤ cm) (hs : slots ≤ sm) : own_Go p e below s P cm sm T (mkF m pc Ls []) :=
  own_out X (fun _ => rfl) hlk eT (fun fs hr => X.returnOut hx hret hd hr) hP hc hs
/-- an array by its length and what each place holds -/
def own_Av (Z : State) (h : Heap) (a : Addr) (k : ClassId) (ty : FieldType) (n : Nat) (f : Nat → Value) : Prop := ∃ cl : Cell, Arr Z h a cl ty ∧ cl.cls = k ∧ cl.slots.size = n ∧ ∀ j, j < n → cl.slots[j]? = some (f j)
variable {a b : Addr} {k : ClassId} {ty : FieldType} {n i sl : Nat} {f : Nat → Value} {v w : Value} {ws : List Addr} {z j x : Int32} {rest : List Value}
theorem own_Av.lt (F : own_Av Z h a k ty n f) : a < h.size := by obtain ⟨cl, A, -⟩ := F; exact A.lt
theorem own_Av.ext (F : own_Av Z h a k ty n f) (E : Ext h h') : own_Av Z h' a k ty n f := by obtain ⟨cl, A, r⟩ := F; exact ⟨cl, A.ext E, r⟩
theorem own_Av.other (F : own_Av Z h b k ty n f) (W : Wr h h' a sl v) (q : b ≠ a) : own_Av Z h' b k ty n f := by obtain ⟨cl, A, r⟩ := F; exact ⟨cl, A.other W q, r⟩
theorem own_Av.keep (F : own_Av Z h a k ty n f) (K : Keep h h' ws) (q : a ∉ ws) : own_Av Z h' a k ty n f := by obtain ⟨cl, A, r⟩ := F; exact ⟨cl, ⟨K.2.1 a cl A.1 q, A.2⟩, r⟩
theorem own_Av.new (A : Arr Z h a (newA k ty z) ty) (hz : z.toNatClampNeg = n) : own_Av Z h a k ty n (fun _ => defaultValue ty) := ⟨_, A, rfl, (sz_new _ _ _).trans hz, fun q hq => by
  subst hz; simp [newA, hq]⟩
theorem own_Av.set (F : own_Av Z h a k ty n f) (W : Wr h h' a i v) (hi : i < n) : own_Av Z h' a k ty n (fun q => if q = i then v else f q) := by
  obtain ⟨cl, A, r1, r2, r3⟩ := F
  refine ⟨_, A.same W, r1, by rw [sz_set]; exact r2, fun q hq => ?_⟩
  by_cases u : q = i
  · subst u; simp [Cell.setSlot, r2, hi]
  · have := r3 q hq; simp only [Cell.setSlot, u, if_false]; rw [Array.getElem?_setIfInBounds_ne (Ne.symm u)]; exact this
theorem own_Av.to {f' : Nat → Value} (F : own_Av Z h a k ty n f) (q : ∀ j, j < n → f j = f' j) : own_Av Z h a k ty n f' := by
  obtain ⟨cl, A, r1, r2, r3⟩ := F; exact ⟨cl, A, r1, r2, fun j hj => by rw [← q j hj]; exact r3 j hj⟩
theorem own_idx (hj : j.toInt = i) : j.toNatClampNeg = i := by simp [Int32.toNatClampNeg, hj]
theorem own_inb {cl : Cell} (hj : j.toInt = i) (hs : cl.slots.size = n) (hi : i < n) : ¬ (j < 0 ∨ cl.slots.size ≤ j.toNatClampNeg) := by
  rw [own_idx hj, hs, Int32.lt_iff_toInt_lt, hj]; have : (0 : Int32).toInt = 0 := rfl; omega
theorem own_stC (X : Stand p l e R s m args below meth c T locs cells slots) (hx : p.tables.exec = Jvm.exec) (hZ : Z.Warmed39 s.vm) (eT : T.heap = h) (F : own_Av Z h a k .char n f) (hj : j.toInt = i) (hi : i < n) (hg : g.method = m) (hs : g.stack = .int x :: .int j :: .ref a :: rest) (hd : decode c.code g.pc = .ok (.castore, 1)) :
    ∃ T' h', Stand p l e R s m args below meth c T' (locs ++ [⟨a, i⟩]) cells slots ∧ T'.heap = h' ∧ Wr h h' a i (.int (nar .char x)) ∧ own_Av Z h' a k .char n (fun q => if q = i then .int (nar .char x) else f q) ∧ ∀ target, Steps p.tables e below (T'.setTop { g with pc := g.pc + 1, stack := rest }) target → Steps p.tables e below (T.setTop g) target := by
  obtain ⟨cl, A, r1, r2, r3⟩ := F
  obtain ⟨T', h', X', e', W, st⟩ := stC X hx hZ eT A (own_inb hj r2 hi) hg hs hd
  rw [own_idx hj] at X' W
  exact ⟨T', h', X', e', W, own_Av.set ⟨cl, A, r1, r2, r3⟩ W hi, st⟩
theorem own_stB (X : Stand p l e R s m args below meth c T locs cells slots) (hx : p.tables.exec = Jvm.exec) (hZ : Z.Warmed39 s.vm) (eT : T.heap = h) (F : own_Av Z h a k .byte n f) (hj : j.toInt = i) (hi : i < n) (hg : g.method = m) (hs : g.stack = .int x :: .int j :: .ref a :: rest) (hd : decode c.code g.pc = .ok (.bastore, 1)) :
    ∃ T' h', Stand p l e R s m args below meth c T' (locs ++ [⟨a, i⟩]) cells slots ∧ T'.heap = h' ∧ Wr h h' a i (.int (nar .byte x)) ∧ own_Av Z h' a k .byte n (fun q => if q = i then .int (nar .byte x) else f q) ∧ ∀ target, Steps p.tables e below (T'.setTop { g with pc := g.pc + 1, stack := rest }) target → Steps p.tables e below (T.setTop g) target := by
  obtain ⟨cl, A, r1, r2, r3⟩ := F
  obtain ⟨T', h', X', e', W, st⟩ := stB X hx hZ eT A (own_inb hj r2 hi) hg hs hd
  rw [own_idx hj] at X' W
  exact ⟨T', h', X', e', W, own_Av.set ⟨cl, A, r1, r2, r3⟩ W hi, st⟩
theorem own_stI (X : Stand p l e R s m args below meth c T locs cells slots) (hx : p.tables.exec = Jvm.exec) (hZ : Z.Warmed39 s.vm) (eT : T.heap = h) (F : own_Av Z h a k .int n f) (hj : j.toInt = i) (hi : i < n) (hg : g.method = m) (hs : g.stack = .int x :: .int j :: .ref a :: rest) (hd : decode c.code g.pc = .ok (.iastore, 1)) :
    ∃ T' h', Stand p l e R s m args below meth c T' (locs ++ [⟨a, i⟩]) cells slots ∧ T'.heap = h' ∧ Wr h h' a i (.int x) ∧ own_Av Z h' a k .int n (fun q => if q = i then .int x else f q) ∧ ∀ target, Steps p.tables e below (T'.setTop { g with pc := g.pc + 1, stack := rest }) target → Steps p.tables e below (T.setTop g) target := by
  obtain ⟨cl, A, r1, r2, r3⟩ := F
  obtain ⟨T', h', X', e', W, st⟩ := stI X hx hZ eT A (own_inb hj r2 hi) hg hs hd
  rw [own_idx hj] at X' W
  exact ⟨T', h', X', e', W, own_Av.set ⟨cl, A, r1, r2, r3⟩ W hi, st⟩
theorem own_stJ {y : Int64} (X : Stand p l e R s m args below meth c T locs cells slots) (hx : p.tables.exec = Jvm.exec) (hZ : Z.Warmed39 s.vm) (eT : T.heap = h) (F : own_Av Z h a k .long n f) (hj : j.toInt = i) (hi : i < n) (hg : g.method = m) (hs : g.stack = .long y :: .int j :: .ref a :: rest) (hd : decode c.code g.pc = .ok (.lastore, 1)) :
    ∃ T' h', Stand p l e R s m args below meth c T' (locs ++ [⟨a, i⟩]) cells slots ∧ T'.heap = h' ∧ Wr h h' a i (.long y) ∧ own_Av Z h' a k .long n (fun q => if q = i then .long y else f q) ∧ ∀ target, Steps p.tables e below (T'.setTop { g with pc := g.pc + 1, stack := rest }) target → Steps p.tables e below (T.setTop g) target := by
  obtain ⟨cl, A, r1, r2, r3⟩ := F
  obtain ⟨T', h', X', e', W, st⟩ := stJ X hx hZ eT A (own_inb hj r2 hi) hg hs hd
  rw [own_idx hj] at X' W
  exact ⟨T', h', X', e', W, own_Av.set ⟨cl, A, r1, r2, r3⟩ W hi, st⟩
theorem own_stR {C : String} (X : Stand p l e R s m args below meth c T locs cells slots) (hx : p.tables.exec = Jvm.exec) (hZ : Z.Warmed39 s.vm) (eT : T.heap = h) (F : own_Av Z h a k (.object C) n f) (O : Ovr Z k C) (I : v = .null ∨ ∃ y, v = .ref y ∧ Ins Z h y C true) (hj : j.toInt = i) (hi : i < n) (hg : g.method = m) (hs : g.stack = v :: .int j :: .ref a :: rest) (hd : decode c.code g.pc = .ok (.aastore, 1)) :
    ∃ T' h', Stand p l e R s m args below meth c T' (locs ++ [⟨a, i⟩]) cells slots ∧ T'.heap = h' ∧ Wr h h' a i v ∧ own_Av Z h' a k (.object C) n (fun q => if q = i then v else f q) ∧ ∀ target, Steps p.tables e below (T'.setTop { g with pc := g.pc + 1, stack := rest }) target → Steps p.tables e below (T.setTop g) target := by
  obtain ⟨cl, A, r1, r2, r3⟩ := F
  have St : Sto Z h a v := by
    rcases I with rfl | ⟨y, rfl, I⟩
    · exact Or.inl rfl
    · exact Sto.ofV A r1 O I
  obtain ⟨T', h', X', e', W, st⟩ := stR X hx hZ eT A (own_inb hj r2 hi) rfl St hg hs hd
  rw [own_idx hj] at X' W
  exact ⟨T', h', X', e', W, own_Av.set ⟨cl, A, r1, r2, r3⟩ W hi, st⟩
theorem own_ldC (X : Stand p l e R s m args below meth c T locs cells slots) (hx : p.tables.exec = Jvm.exec) (hZ : Z.Warmed39 s.vm) (eT : T.heap = h) (F : own_Av Z h a k .char n f) (hj : j.toInt = i) (hi : i < n) (hv : f i = v) (hg : g.method = m) (hs : g.stack = .int j :: .ref a :: rest) (hd : decode c.code g.pc = .ok (.caload, 1)) (target : State)
    (hr : Steps p.tables e below (T.setTop { g with pc := g.pc + 1, stack := v :: rest }) target) : Steps p.tables e below (T.setTop g) target := by
  obtain ⟨cl, A, r1, r2, r3⟩ := F
  exact X.caload hx (by rw [eT]; exact A.1) (State.isArrayOf_alike hZ.alike A.2.1) A.2.2 (own_inb hj r2 hi) (by rw [own_idx hj, r3 i hi, hv]) hg hs hd target hr
theorem own_ldB (X : Stand p l e R s m args below meth c T locs cells slots) (hx : p.tables.exec = Jvm.exec) (hZ : Z.Warmed39 s.vm) (eT : T.heap = h) (F : own_Av Z h a k .byte n f) (hj : j.toInt = i) (hi : i < n) (hv : f i = v) (hg : g.method = m) (hs : g.stack = .int j :: .ref a :: rest) (hd : decode c.code g.pc = .ok (.baload, 1)) (target : State)
    (hr : Steps p.tables e below (T.setTop { g with pc := g.pc + 1, stack := v :: rest }) target) : Steps p.tables e below (T.setTop g) target := by
  obtain ⟨cl, A, r1, r2, r3⟩ := F
  exact X.baloadBytes hx (by rw [eT]; exact A.1) (State.isArrayOf_alike hZ.alike A.2.1) A.2.2 (own_inb hj r2 hi) (by rw [own_idx hj, r3 i hi, hv]) hg hs hd target hr
theorem own_ldI (X : Stand p l e R s m args below meth c T locs cells slots) (hx : p.tables.exec = Jvm.exec) (hZ : Z.Warmed39 s.vm) (eT : T.heap = h) (F : own_Av Z h a k .int n f) (hj : j.toInt = i) (hi : i < n) (hv : f i = v) (hg : g.method = m) (hs : g.stack = .int j :: .ref a :: rest) (hd : decode c.code g.pc = .ok (.iaload, 1)) (target : State)
    (hr : Steps p.tables e below (T.setTop { g with pc := g.pc + 1, stack := v :: rest }) target) : Steps p.tables e below (T.setTop g) target := by
  obtain ⟨cl, A, r1, r2, r3⟩ := F
  exact X.iaload hx (by rw [eT]; exact A.1) (State.isArrayOf_alike hZ.alike A.2.1) A.2.2 (own_inb hj r2 hi) (by rw [own_idx hj, r3 i hi, hv]) hg hs hd target hr
theorem own_ldR (X : Stand p l e R s m args below meth c T locs cells slots) (hx : p.tables.exec = Jvm.exec) (hZ : Z.Warmed39 s.vm) (eT : T.heap = h) (F : own_Av Z h a k ty n f) (hty : ty.isReference = true) (hj : j.toInt = i) (hi : i < n) (hv : f i = v) (hg : g.method = m) (hs : g.stack = .int j :: .ref a :: rest) (hd : decode c.code g.pc = .ok (.aaload, 1)) (target : State)
    (hr : Steps p.tables e below (T.setTop { g with pc := g.pc + 1, stack := v :: rest }) target) : Steps p.tables e below (T.setTop g) target := by
  obtain ⟨cl, A, r1, r2, r3⟩ := F
  exact X.aaload hx (by rw [eT]; exact A.1) (State.isArrayOf_alike hZ.alike A.2.1) hty A.2.2 (own_inb hj r2 hi) (by rw [own_idx hj, r3 i hi, hv]) hg hs hd target hr
theorem own_len (X : Stand p l e R s m args below meth c T locs cells slots) (hx : p.tables.exec = Jvm.exec) (hZ : Z.Warmed39 s.vm) (eT : T.heap = h) (F : own_Av Z h a k ty n f) (hz : n.toInt32 = z) (hg : g.method = m) (hs : g.stack = .ref a :: rest) (hd : decode c.code g.pc = .ok (.arraylength, 1)) (target : State)
    (hr : Steps p.tables e below (T.setTop { g with pc := g.pc + 1, stack := .int z :: rest }) target) : Steps p.tables e below (T.setTop g) target := by
  obtain ⟨cl, A, r1, r2, r3⟩ := F
  exact X.arraylength hx (by rw [eT]; exact A.1) (State.isArrayOf_alike hZ.alike A.2.1) hg hs hd target (by rw [r2, hz]; exact hr)
theorem own_ne (q : a < h.size) (r : b = h.size) : a ≠ b := Nat.ne_of_lt (Nat.lt_of_lt_of_le q (Nat.le_of_eq r.symm))
theorem own_ne2 (q : a < h.size) (r : h.size ≤ b) : a ≠ b := Nat.ne_of_lt (Nat.lt_of_lt_of_le q r)
theorem own_ge {n0 : Nat} (q : n0 ≤ h.size) (r : b = h.size) : n0 ≤ b := Nat.le_trans q (Nat.le_of_eq r.symm)
theorem own_store1 {L : Array Slot} {o : Slot} (hv : v.isRef = true) (hold : L[i]? = some o) (ho : o = .unset ∨ ∃ w, o = .val w ∧ w.category = 1) : storeLocals L i v = some (L.setIfInBounds i (.val v)) := XS.store1 hold ho (Jvm.Free.XT.cat1 hv)
theorem own_nref (ht : ty.isReference = true) (hv : v.isRef = true) : narrow ty v = v := by cases ty <;> cases v <;> first | rfl | (simp [Value.isRef] at hv; done) | (simp [FieldType.isReference] at ht; done)
theorem own_fref (ht : ty.isReference = true) (hv : v.isRef = true) : fits ty v = true := by cases ty <;> cases v <;> first | rfl | (simp [Value.isRef] at hv; done) | (simp [FieldType.isReference] at ht; done)
theorem own_fldI {t : Term} {C nm d : String} (ev : t.eval args s none [] s = some (.ref a)) (hq : (Cond.eq (Term.field t C nm d) (Term.int z)).value args s none s [] = some true) : Fld s s.heap a C nm d (.int z) := by
  obtain ⟨x, y, hx, hy, -, -⟩ := cmp_v (Or.inl hq)
  obtain rfl : y = .int z := (Option.some.inj hy).symm
  have : x = .int z := by simp only [Cond.value, hx, hy] at hq; cases x <;> simp at hq ⊢; exact hq
  rw [fld_at ev] at hx
  exact Fld.start (this ▸ hx)
theorem own_fldJ {t : Term} {C nm d : String} {z : Int64} (ev : t.eval args s none [] s = some (.ref a)) (hq : (Cond.eq (Term.field t C nm d) (Term.long z)).value args s none s [] = some true) : Fld s s.heap a C nm d (.long z) := by
  obtain ⟨x, y, hx, hy, -, -⟩ := cmp_v (Or.inl hq)
  obtain rfl : y = .long z := (Option.some.inj hy).symm
  have : x = .long z := by simp only [Cond.value, hx, hy] at hq; cases x <;> simp at hq ⊢; exact hq
  rw [fld_at ev] at hx
  exact Fld.start (this ▸ hx)
theorem own_fldN {t : Term} {C nm d : String} (ev : t.eval args s none [] s = some (.ref a)) (hq : (Cond.eq (Term.field t C nm d) Term.null).value args s none s [] = some true) : Fld s s.heap a C nm d .null := by
  have hx := null_v hq
  rw [fld_at ev] at hx
  exact Fld.start hx
theorem own_selP {y : MethodName} {nn : Nat} {a0 : Array Value} (hZ : Z.Warmed39 s.vm) (wi : (Cond.instantiable y.cls nn).before a0 Z = true) (wp : (Cond.privateMethod y).before a0 Z = true) (wm : (Cond.instanceMethod y).before a0 Z = true) (hy : y.cls ≠ "java/lang/invoke/MethodHandle" ∧ y.cls ≠ "java/lang/invoke/VarHandle") : (Cond.selects y.cls y y).before args s = true := by
  obtain ⟨c', k', h1, h2, -, h4, -⟩ := Cond.instantiable_spec (mv (args := args) hZ wi : (Cond.instantiable y.cls nn).before args s = true)
  exact selects_self_of_private h1 h2 (by simp at h4; exact h4.1) (Cond.privateMethod_at (mvP hZ wp (args := args))) (mv hZ wm) hy
end Own
theorem own_narc (x : Int32) : nar .char x.toUInt32.toUInt16.toUInt32.toInt32 = x.toUInt32.toUInt16.toUInt32.toInt32 := by simp only [nar, UInt32.toUInt32_toInt32, UInt16.toUInt16_toUInt32]
theorem own_modm (q y : Int32) (hy : 0 < y.toInt) : 0 ≤ ((q &&& (2147483647 : Int32)) % y).toInt ∧ ((q &&& (2147483647 : Int32)) % y).toInt < y.toInt := by
  have h1 := c_and q (2147483647 : Int32) (by decide)
  have h2 := (c_iremV (q &&& (2147483647 : Int32)) y).1 h1.1 hy
  exact ⟨h2.1, h2.2.1⟩
theorem own_lt0 {x : Int32} (q : 0 ≤ x.toInt) : ¬ x < 0 := by rw [Int32.lt_iff_toInt_lt]; have : (0 : Int32).toInt = 0 := rfl; omega
theorem d1_0 : decode prog_4_method_1_code 0 = .ok (.aload_n 0, 1) := by decide +kernel
theorem d1_1 : decode prog_4_method_1_code 1 = .ok (.invokespecial 1, 3) := by decide +kernel
theorem d1_4 : decode prog_4_method_1_code 4 = .ok (.aload_n 0, 1) := by decide +kernel
theorem d1_5 : decode prog_4_method_1_code 5 = .ok (.iconst 0, 1) := by decide +kernel
theorem d1_6 : decode prog_4_method_1_code 6 = .ok (.newarray .char, 2) := by decide +kernel
theorem d1_8 : decode prog_4_method_1_code 8 = .ok (.putfield 7, 3) := by decide +kernel
theorem d1_11 : decode prog_4_method_1_code 11 = .ok (.return_, 1) := by decide +kernel
theorem own_pn0 : plainName "com/example/reckoner/reckoner/io/CharSlice" = true := by first | (simp [plainName, overriddenIn]; done) | decide +kernel
def own_ini_Q (Z : State) (a : Addr) (h0 : Heap) (n0 : Nat) (v : Option Value) (h : Heap) (L : List Loc) : Prop := v = none ∧ Fr n0 L ∧ Keep h0 h [a] ∧ Exa Z h a "com/example/reckoner/reckoner/io/CharSlice" ∧ (∃ r, Fld Z h a "com/example/reckoner/reckoner/io/CharSlice" "chars" "[C" r) ∧ Fld Z h a "com/example/reckoner/reckoner/io/CharSlice" "start" "I" (.int (0 : Int32)) ∧ Fld Z h a "com/example/reckoner/reckoner/io/CharSlice" "length" "I" (.int (0 : Int32))
set_option maxRecDepth 65536 in
set_option maxHeartbeats 40000000 in
theorem own_ini (l : Launch) (Z : State) (a0 : Array Value) (hw : ∀ d ∈ tables_1, d.before a0 Z = true) (ws : List Jvm.Cond) (a : Addr) (h0 : Heap) (n0 : Nat) (Z0 : n0 ≤ h0.size) (F_chars : Fld Z h0 a "com/example/reckoner/reckoner/io/CharSlice" "chars" "[C" .null) (F_start : Fld Z h0 a "com/example/reckoner/reckoner/io/CharSlice" "start" "I" (.int (0 : Int32))) (F_length : Fld Z h0 a "com/example/reckoner/reckoner/io/CharSlice" "length" "I" (.int (0 : Int32))) (Eq : Exa Z h0 a "com/example/reckoner/reckoner/io/CharSlice") (ga : n0 ≤ a) :
    MetFree l (⟨"com/example/reckoner/reckoner/io/CharSlice", "<init>", "()V"⟩ : MethodName) (head1 (Jvm.Cond.code (⟨"com/example/reckoner/reckoner/io/CharSlice", "<init>", "()V"⟩ : MethodName) prog_4_method_1_code 1 none :: ws) ({ frames := 1, cells := 1, slots := 0, locals := 12 } : Room)) (fun aa U0 => aa = #[(.ref a)] ∧ Z.Warmed39 U0.vm ∧ U0.heap = h0) (fun _ _ _ _ _ => True) (fun _ U0 o0 U1 => ∃ v0 L0, o0 = .returned v0 ∧ own_ini_Q Z a h0 n0 v0 U1.heap L0 ∧ FrameEnd U0 o0 U1 L0 ({ frames := 1, cells := 1, slots := 0, locals := 12 } : Room).cells ({ frames := 1, cells := 1, slots := 0, locals := 12 } : Room).slots) := by
  refine MetFree.of_bodySF (plainFor_of_name own_pn0) hisR ?_
  intro p e s m args below meth c s₁ Bd hml0 hP hK
  obtain ⟨rfl, hZ, hh⟩ := hP
  have hx := Bd.exec
  have hby := Bd.bytes
  have hml : c.maxLocals = 1 := hml0
  have hown : s.vm.findClass "com/example/reckoner/reckoner/io/CharSlice" = some m.cls := findClass_of_methodNamed Bd.named
  have hnm := (name_of_methodNamed Bd.named Bd.method).1
  have X0 : Stand p l e ({ frames := 1, cells := 1, slots := 0, locals := 12 } : Room) s m #[(.ref a)] below meth c s₁ [] 0 0 := Stand.of_body Bd
  have e0 : s₁.heap = h0 := by rw [← hh, Bd.state]; rfl
  have N0 := Fr.nil n0
  show own_Go p e below s (own_ini_Q Z a h0 n0) 1 0 s₁ (entryFrame m #[(.ref a)] 1)
  rw [show entryFrame m #[(.ref a)] 1 = mkF m 0 #[.val (.ref a)] [] from by first | (simp [entryFrame, mkF, argsToLocals, Value.category]; done) | rfl]
  have Kp := Keep.refl h0 [a]
  refine own_st (T' := s₁) (g' := (mkF m 1 #[.val (.ref a)] [(.ref a)])) (fun _ k => XS.aloadN X0.here hx rfl (hb hby d1_0) rfl rfl k) ?_
  obtain ⟨T1, X1, e1, st1⟩ := initO X0 hx hZ hown (hw _ (List.mem_of_getElem? (i := 8) rfl)) (hw _ (List.mem_of_getElem? (i := 9) rfl)) (hw _ (List.mem_of_getElem? (i := 10) rfl)) e0 (g := (mkF m 1 #[.val (.ref a)] [(.ref a)])) rfl (by rw [hml]; rfl) rfl (hb hby d1_1) (by decide) (W := 0) (by show 2 * 0 + _ ≤ _; exact Nat.le_of_eq rfl) (by decide)
  refine own_st (T' := T1) (g' := (mkF m 4 #[.val (.ref a)] [])) st1 ?_
  refine own_st (T' := T1) (g' := (mkF m 5 #[.val (.ref a)] [(.ref a)])) (fun _ k => XS.aloadN X1.here hx rfl (hb hby d1_4) rfl rfl k) ?_
  refine own_st (T' := T1) (g' := (mkF m 6 #[.val (.ref a)] [(.int (0 : Int32)), (.ref a)])) (fun _ k => XS.iconst X1.here hx rfl (hb hby d1_5) k) ?_
  obtain ⟨T2, h2, k2, X2, e2, E2, A2, st2⟩ := newP X1 hx hZ (hw _ (List.mem_of_getElem? (i := 0) rfl)) e1 (g := (mkF m 6 #[.val (.ref a)] [(.int (0 : Int32)), (.ref a)])) rfl (hb hby d1_6) rfl (by decide) (cap := 0) (by decide) (by decide) (by decide) (by decide)
  obtain ⟨b1, gb1⟩ : ∃ z, z = h0.size := ⟨_, rfl⟩
  rw [← gb1] at A2 st2
  have ne_a_b1 : a ≠ b1 := own_ne F_chars.lt gb1
  have ge_b1 : n0 ≤ b1 := own_ge Z0 gb1
  have sz_b1 : h0.size ≤ b1 := own_ge Kp.1 gb1
  have F_chars := F_chars.ext E2
  have F_start := F_start.ext E2
  have F_length := F_length.ext E2
  have Eq := Eq.ext E2
  have Z0' := Nat.le_trans Z0 E2.1
  have Kp := Kp.ext E2
  have V_b1 := own_Av.new (n := 0) A2 rfl
  refine own_st (T' := T2) (g' := (mkF m 8 #[.val (.ref a)] [(.ref b1), (.ref a)])) st2 ?_
  obtain ⟨T3, h3, X3, e3, W3, st3⟩ := putF X2 hx hZ hown (host := "") (Or.inl (hw _ (List.mem_of_getElem? (i := 11) rfl))) Via.refl e2 F_chars Eq (Or.inl (hw _ (List.mem_of_getElem? (i := 12) rfl))) (hw _ (List.mem_of_getElem? (i := 3) rfl)) (ty := (.array .char)) (by decide) rfl rfl (g := (mkF m 8 #[.val (.ref a)] [(.ref b1), (.ref a)])) rfl rfl (hb hby d1_8)
  have F_start := F_start.other W3 (Or.inr (slot_ne (Or.inl (hw _ (List.mem_of_getElem? (i := 27) rfl))) (Or.inl (hw _ (List.mem_of_getElem? (i := 12) rfl))) (by decide) (t := .int) (t' := (.array .char)) (by decide) (by decide)))
  have F_length := F_length.other W3 (Or.inr (slot_ne (Or.inl (hw _ (List.mem_of_getElem? (i := 29) rfl))) (Or.inl (hw _ (List.mem_of_getElem? (i := 12) rfl))) (by decide) (t := .int) (t' := (.array .char)) (by decide) (by decide)))
  have Eq := Eq.wr W3
  have V_b1 := V_b1.other W3 (Ne.symm ne_a_b1)
  have Z0'' := Nat.le_trans Z0' (Keep.of_wr W3).1
  have Kp := Kp.wr W3 (Or.inl (List.mem_of_getElem? (i := 0) rfl))
  have N0' := Fr.snoc X3 N0 ga
  have F_chars := F_chars.same W3
  refine own_st (T' := T3) (g' := (mkF m 11 #[.val (.ref a)] [])) st3 ?_
  exact own_ret0 X3 hx Bd.returns Bd.notSynchronized e3 (hb hby d1_11) ⟨rfl, N0', Kp, Eq, ⟨_, F_chars⟩, F_start, F_length⟩ (by decide) (by decide)
theorem d5_0 : decode jdk_41_method_13_code 0 = .ok (.iload_n 2, 1) := by decide +kernel
theorem d5_1 : decode jdk_41_method_13_code 1 = .ok (.iload_n 0, 1) := by decide +kernel
theorem d5_2 : decode jdk_41_method_13_code 2 = .ok (.ior, 1) := by decide +kernel
theorem d5_3 : decode jdk_41_method_13_code 3 = .ok (.iload_n 1, 1) := by decide +kernel
theorem d5_4 : decode jdk_41_method_13_code 4 = .ok (.ior, 1) := by decide +kernel
theorem d5_5 : decode jdk_41_method_13_code 5 = .ok (.ifCond .lt 10, 3) := by decide +kernel
theorem d5_8 : decode jdk_41_method_13_code 8 = .ok (.iload_n 1, 1) := by decide +kernel
theorem d5_9 : decode jdk_41_method_13_code 9 = .ok (.iload_n 2, 1) := by decide +kernel
theorem d5_10 : decode jdk_41_method_13_code 10 = .ok (.iload_n 0, 1) := by decide +kernel
theorem d5_11 : decode jdk_41_method_13_code 11 = .ok (.isub, 1) := by decide +kernel
theorem d5_12 : decode jdk_41_method_13_code 12 = .ok (.if_icmp .le 11, 3) := by decide +kernel
theorem d5_23 : decode jdk_41_method_13_code 23 = .ok (.iload_n 0, 1) := by decide +kernel
theorem d5_24 : decode jdk_41_method_13_code 24 = .ok (.ireturn, 1) := by decide +kernel
theorem own_pn1 : plainName "jdk/internal/util/Preconditions" = true := by first | (simp [plainName, overriddenIn]; done) | decide +kernel
def own_p1_Q (Z : State) (o : Int32) (z : Int32) (n : Int32) (h0 : Heap) (n0 : Nat) (v : Option Value) (h : Heap) (L : List Loc) : Prop := v = some (.int o) ∧ Fr n0 L ∧ h = h0
set_option maxRecDepth 65536 in
set_option maxHeartbeats 40000000 in
theorem own_p1 (l : Launch) (Z : State) (a0 : Array Value) (hw : ∀ d ∈ tables_1, d.before a0 Z = true) (ws : List Jvm.Cond) (o : Int32) (z : Int32) (n : Int32) (h0 : Heap) (n0 : Nat) (Z0 : n0 ≤ h0.size) (hq1 : ¬ ((n ||| o) ||| z) < (0 : Int32)) (hq2 : ¬ (n - o) < z) :
    MetFree l (⟨"jdk/internal/util/Preconditions", "checkFromIndexSize", "(IIILjava/util/function/BiFunction;)I"⟩ : MethodName) (head1 (Jvm.Cond.code (⟨"jdk/internal/util/Preconditions", "checkFromIndexSize", "(IIILjava/util/function/BiFunction;)I"⟩ : MethodName) jdk_41_method_13_code 4 (some .int) :: ws) ({ frames := 0, cells := 0, slots := 0, locals := 0 } : Room)) (fun aa U0 => aa = #[(.int o), (.int z), (.int n), .null] ∧ Z.Warmed39 U0.vm ∧ U0.heap = h0) (fun _ _ _ _ _ => True) (fun _ U0 o0 U1 => ∃ v0 L0, o0 = .returned v0 ∧ own_p1_Q Z o z n h0 n0 v0 U1.heap L0 ∧ FrameEnd U0 o0 U1 L0 ({ frames := 0, cells := 0, slots := 0, locals := 0 } : Room).cells ({ frames := 0, cells := 0, slots := 0, locals := 0 } : Room).slots) := by
  refine MetFree.of_bodySF (plainFor_of_name own_pn1) hisR ?_
  intro p e s m args below meth c s₁ Bd hml0 hP hK
  obtain ⟨rfl, hZ, hh⟩ := hP
  have hx := Bd.exec
  have hby := Bd.bytes
  have hml : c.maxLocals = 4 := hml0
  have hown : s.vm.findClass "jdk/internal/util/Preconditions" = some m.cls := findClass_of_methodNamed Bd.named
  have hnm := (name_of_methodNamed Bd.named Bd.method).1
  have X0 : Stand p l e ({ frames := 0, cells := 0, slots := 0, locals := 0 } : Room) s m #[(.int o), (.int z), (.int n), .null] below meth c s₁ [] 0 0 := Stand.of_body Bd
  have e0 : s₁.heap = h0 := by rw [← hh, Bd.state]; rfl
  have N0 := Fr.nil n0
  show own_Go p e below s (own_p1_Q Z o z n h0 n0) 0 0 s₁ (entryFrame m #[(.int o), (.int z), (.int n), .null] 4)
  rw [show entryFrame m #[(.int o), (.int z), (.int n), .null] 4 = mkF m 0 #[.val (.int o), .val (.int z), .val (.int n), .val .null] [] from by first | (simp [entryFrame, mkF, argsToLocals, Value.category]; done) | rfl]
  refine own_st (T' := s₁) (g' := (mkF m 1 #[.val (.int o), .val (.int z), .val (.int n), .val .null] [(.int n)])) (fun _ k => XS.iloadN X0.here hx rfl (hb hby d5_0) rfl k) ?_
  refine own_st (T' := s₁) (g' := (mkF m 2 #[.val (.int o), .val (.int z), .val (.int n), .val .null] [(.int o), (.int n)])) (fun _ k => XS.iloadN X0.here hx rfl (hb hby d5_1) rfl k) ?_
  refine own_st (T' := s₁) (g' := (mkF m 3 #[.val (.int o), .val (.int z), .val (.int n), .val .null] [(.int (n ||| o))])) (fun _ k => XS.ior X0.here hx rfl (hb hby d5_2) rfl k) ?_
  refine own_st (T' := s₁) (g' := (mkF m 4 #[.val (.int o), .val (.int z), .val (.int n), .val .null] [(.int z), (.int (n ||| o))])) (fun _ k => XS.iloadN X0.here hx rfl (hb hby d5_3) rfl k) ?_
  refine own_st (T' := s₁) (g' := (mkF m 5 #[.val (.int o), .val (.int z), .val (.int n), .val .null] [(.int ((n ||| o) ||| z))])) (fun _ k => XS.ior X0.here hx rfl (hb hby d5_4) rfl k) ?_
  refine own_st (T' := s₁) (g' := (mkF m 8 #[.val (.int o), .val (.int z), .val (.int n), .val .null] [])) (fun _ k => XS.ifNo X0.here hx rfl (hb hby d5_5) rfl (Jvm.Free.XT.i0_lt_f hq1) k) ?_
  refine own_st (T' := s₁) (g' := (mkF m 9 #[.val (.int o), .val (.int z), .val (.int n), .val .null] [(.int z)])) (fun _ k => XS.iloadN X0.here hx rfl (hb hby d5_8) rfl k) ?_
  refine own_st (T' := s₁) (g' := (mkF m 10 #[.val (.int o), .val (.int z), .val (.int n), .val .null] [(.int n), (.int z)])) (fun _ k => XS.iloadN X0.here hx rfl (hb hby d5_9) rfl k) ?_
  refine own_st (T' := s₁) (g' := (mkF m 11 #[.val (.int o), .val (.int z), .val (.int n), .val .null] [(.int o), (.int n), (.int z)])) (fun _ k => XS.iloadN X0.here hx rfl (hb hby d5_10) rfl k) ?_
  refine own_st (T' := s₁) (g' := (mkF m 12 #[.val (.int o), .val (.int z), .val (.int n), .val .null] [(.int (n - o)), (.int z)])) (fun _ k => XS.isub X0.here hx rfl (hb hby d5_11) rfl k) ?_
  refine own_st (T' := s₁) (g' := (mkF m 23 #[.val (.int o), .val (.int z), .val (.int n), .val .null] [])) (fun _ k => XS.icmpYes X0.here hx rfl (pc0 := 12) (pc' := 23) rfl (hb hby d5_12) rfl (Jvm.Free.XT.ii_le_t hq2) (by decide) (by decide) k) ?_
  refine own_st (T' := s₁) (g' := (mkF m 24 #[.val (.int o), .val (.int z), .val (.int n), .val .null] [(.int o)])) (fun _ k => XS.iloadN X0.here hx rfl (hb hby d5_23) rfl k) ?_
  exact own_retI X0 hx Bd.returns Bd.notSynchronized e0 (hb hby d5_24) ⟨rfl, N0, rfl⟩ (by decide) (by decide)
theorem own_pd0 : parseMethodDescriptor "(IIILjava/util/function/BiFunction;)I" = some ⟨[.int, .int, .int, (.object "java/util/function/BiFunction")], some .int⟩ := by decide +kernel
theorem d4_0 : decode jdk_31_method_19_code 0 = .ok (.iload_n 0, 1) := by decide +kernel
theorem d4_1 : decode jdk_31_method_19_code 1 = .ok (.iload_n 1, 1) := by decide +kernel
theorem d4_2 : decode jdk_31_method_19_code 2 = .ok (.iload_n 2, 1) := by decide +kernel
theorem d4_3 : decode jdk_31_method_19_code 3 = .ok (.aconst_null, 1) := by decide +kernel
theorem d4_4 : decode jdk_31_method_19_code 4 = .ok (.invokestatic 115, 3) := by decide +kernel
theorem d4_7 : decode jdk_31_method_19_code 7 = .ok (.ireturn, 1) := by decide +kernel
theorem own_pn2 : plainName "java/util/Objects" = true := by first | (simp [plainName, overriddenIn]; done) | decide +kernel
def own_o1_Q (Z : State) (o : Int32) (z : Int32) (n : Int32) (h0 : Heap) (n0 : Nat) (v : Option Value) (h : Heap) (L : List Loc) : Prop := v = some (.int o) ∧ Fr n0 L ∧ h = h0
set_option maxRecDepth 65536 in
set_option maxHeartbeats 40000000 in
theorem own_o1 (l : Launch) (Z : State) (a0 : Array Value) (hw : ∀ d ∈ tables_1, d.before a0 Z = true) (ws : List Jvm.Cond) (o : Int32) (z : Int32) (n : Int32) (h0 : Heap) (n0 : Nat) (Z0 : n0 ≤ h0.size) (hq1 : ¬ ((n ||| o) ||| z) < (0 : Int32)) (hq2 : ¬ (n - o) < z) :
    MetFree l (⟨"java/util/Objects", "checkFromIndexSize", "(III)I"⟩ : MethodName) (head1 (Jvm.Cond.code (⟨"java/util/Objects", "checkFromIndexSize", "(III)I"⟩ : MethodName) jdk_31_method_19_code 3 (some .int) :: ws) ({ frames := 1, cells := 0, slots := 0, locals := 15 } : Room)) (fun aa U0 => aa = #[(.int o), (.int z), (.int n)] ∧ Z.Warmed39 U0.vm ∧ U0.heap = h0) (fun _ _ _ _ _ => True) (fun _ U0 o0 U1 => ∃ v0 L0, o0 = .returned v0 ∧ own_o1_Q Z o z n h0 n0 v0 U1.heap L0 ∧ FrameEnd U0 o0 U1 L0 ({ frames := 1, cells := 0, slots := 0, locals := 15 } : Room).cells ({ frames := 1, cells := 0, slots := 0, locals := 15 } : Room).slots) := by
  refine MetFree.of_bodySF (plainFor_of_name own_pn2) hisR ?_
  intro p e s m args below meth c s₁ Bd hml0 hP hK
  obtain ⟨rfl, hZ, hh⟩ := hP
  have hx := Bd.exec
  have hby := Bd.bytes
  have hml : c.maxLocals = 3 := hml0
  have hown : s.vm.findClass "java/util/Objects" = some m.cls := findClass_of_methodNamed Bd.named
  have hnm := (name_of_methodNamed Bd.named Bd.method).1
  have X0 : Stand p l e ({ frames := 1, cells := 0, slots := 0, locals := 15 } : Room) s m #[(.int o), (.int z), (.int n)] below meth c s₁ [] 0 0 := Stand.of_body Bd
  have e0 : s₁.heap = h0 := by rw [← hh, Bd.state]; rfl
  have N0 := Fr.nil n0
  show own_Go p e below s (own_o1_Q Z o z n h0 n0) 0 0 s₁ (entryFrame m #[(.int o), (.int z), (.int n)] 3)
  rw [show entryFrame m #[(.int o), (.int z), (.int n)] 3 = mkF m 0 #[.val (.int o), .val (.int z), .val (.int n)] [] from by first | (simp [entryFrame, mkF, argsToLocals, Value.category]; done) | rfl]
  refine own_st (T' := s₁) (g' := (mkF m 1 #[.val (.int o), .val (.int z), .val (.int n)] [(.int o)])) (fun _ k => XS.iloadN X0.here hx rfl (hb hby d4_0) rfl k) ?_
  refine own_st (T' := s₁) (g' := (mkF m 2 #[.val (.int o), .val (.int z), .val (.int n)] [(.int z), (.int o)])) (fun _ k => XS.iloadN X0.here hx rfl (hb hby d4_1) rfl k) ?_
  refine own_st (T' := s₁) (g' := (mkF m 3 #[.val (.int o), .val (.int z), .val (.int n)] [(.int n), (.int z), (.int o)])) (fun _ k => XS.iloadN X0.here hx rfl (hb hby d4_2) rfl k) ?_
  refine own_st (T' := s₁) (g' := (mkF m 4 #[.val (.int o), .val (.int z), .val (.int n)] [.null, (.int n), (.int z), (.int o)])) (fun _ k => XS.aconstNull X0.here hx rfl (hb hby d4_3) k) ?_
  obtain ⟨_, _, ⟨T4, L4, k4, n4⟩, -, X4, ⟨Lc4, hQ4, l4, y4, z4⟩, st4⟩ := Jvm.LawKit.callS X0 hx (y := (⟨"jdk/internal/util/Preconditions", "checkFromIndexSize", "(IIILjava/util/function/BiFunction;)I"⟩ : MethodName)) hown (mvT hZ (hw _ (List.mem_of_getElem? (i := 22) rfl))) (mvT hZ (hw _ (List.mem_of_getElem? (i := 23) rfl))) (mvT hZ (hw _ (List.mem_of_getElem? (i := 24) rfl))) (mvT hZ (hw _ (List.mem_of_getElem? (i := 25) rfl))) (by decide) (backOf (W := 0) (own_p1 l Z a0 hw [] o z n h0 n0 Z0 hq1 hq2) hZ (hw _ (List.mem_of_getElem? (i := 25) rfl)) (hw _ (List.mem_of_getElem? (i := 24) rfl)) (by decide) (by decide)) (g := (mkF m 4 #[.val (.int o), .val (.int z), .val (.int n)] [.null, (.int n), (.int z), (.int o)])) rfl (by rw [hml]; rfl) (argsL := [(.int o), (.int z), (.int n), .null]) (rest := []) (lenOf own_pd0 rfl) rfl (by show 2 * 0 + _ ≤ _; exact Nat.le_of_eq rfl) (hb hby d4_4) (fun _ _ => ⟨rfl, e0, (by decide : 0 + 0 ≤ _), (by decide : 0 + 0 ≤ _)⟩)
  dsimp only [Pt.U, Pt.locs, Pt.cells, Pt.slots] at X4 l4 y4 z4 st4 hQ4
  subst l4 y4 z4
  obtain ⟨rfl, N4q, e4⟩ := hQ4
  have N0' := Fr.app N0 N4q
  refine own_st (T' := T4) (g' := (mkF m 7 #[.val (.int o), .val (.int z), .val (.int n)] [(.int o)])) st4 ?_
  exact own_retI X4 hx Bd.returns Bd.notSynchronized e4 (hb hby d4_7) ⟨rfl, N0', rfl⟩ (by decide) (by decide)
theorem d8_0 : decode jdk_41_method_11_code 0 = .ok (.iload_n 0, 1) := by decide +kernel
theorem d8_1 : decode jdk_41_method_11_code 1 = .ok (.ifCond .lt 8, 3) := by decide +kernel
theorem d8_4 : decode jdk_41_method_11_code 4 = .ok (.iload_n 0, 1) := by decide +kernel
theorem d8_5 : decode jdk_41_method_11_code 5 = .ok (.iload_n 1, 1) := by decide +kernel
theorem d8_6 : decode jdk_41_method_11_code 6 = .ok (.if_icmp .lt 10, 3) := by decide +kernel
theorem d8_16 : decode jdk_41_method_11_code 16 = .ok (.iload_n 0, 1) := by decide +kernel
theorem d8_17 : decode jdk_41_method_11_code 17 = .ok (.ireturn, 1) := by decide +kernel
def own_p2_Q (Z : State) (o : Int32) (n : Int32) (h0 : Heap) (n0 : Nat) (v : Option Value) (h : Heap) (L : List Loc) : Prop := v = some (.int o) ∧ Fr n0 L ∧ h = h0
set_option maxRecDepth 65536 in
set_option maxHeartbeats 40000000 in
theorem own_p2 (l : Launch) (Z : State) (a0 : Array Value) (hw : ∀ d ∈ tables_1, d.before a0 Z = true) (ws : List Jvm.Cond) (o : Int32) (n : Int32) (h0 : Heap) (n0 : Nat) (Z0 : n0 ≤ h0.size) (hq1 : ¬ o < (0 : Int32)) (hq2 : o < n) :
    MetFree l (⟨"jdk/internal/util/Preconditions", "checkIndex", "(IILjava/util/function/BiFunction;)I"⟩ : MethodName) (head1 (Jvm.Cond.code (⟨"jdk/internal/util/Preconditions", "checkIndex", "(IILjava/util/function/BiFunction;)I"⟩ : MethodName) jdk_41_method_11_code 3 (some .int) :: ws) ({ frames := 0, cells := 0, slots := 0, locals := 0 } : Room)) (fun aa U0 => aa = #[(.int o), (.int n), .null] ∧ Z.Warmed39 U0.vm ∧ U0.heap = h0) (fun _ _ _ _ _ => True) (fun _ U0 o0 U1 => ∃ v0 L0, o0 = .returned v0 ∧ own_p2_Q Z o n h0 n0 v0 U1.heap L0 ∧ FrameEnd U0 o0 U1 L0 ({ frames := 0, cells := 0, slots := 0, locals := 0 } : Room).cells ({ frames := 0, cells := 0, slots := 0, locals := 0 } : Room).slots) := by
  refine MetFree.of_bodySF (plainFor_of_name own_pn1) hisR ?_
  intro p e s m args below meth c s₁ Bd hml0 hP hK
  obtain ⟨rfl, hZ, hh⟩ := hP
  have hx := Bd.exec
  have hby := Bd.bytes
  have hml : c.maxLocals = 3 := hml0
  have hown : s.vm.findClass "jdk/internal/util/Preconditions" = some m.cls := findClass_of_methodNamed Bd.named
  have hnm := (name_of_methodNamed Bd.named Bd.method).1
  have X0 : Stand p l e ({ frames := 0, cells := 0, slots := 0, locals := 0 } : Room) s m #[(.int o), (.int n), .null] below meth c s₁ [] 0 0 := Stand.of_body Bd
  have e0 : s₁.heap = h0 := by rw [← hh, Bd.state]; rfl
  have N0 := Fr.nil n0
  show own_Go p e below s (own_p2_Q Z o n h0 n0) 0 0 s₁ (entryFrame m #[(.int o), (.int n), .null] 3)
  rw [show entryFrame m #[(.int o), (.int n), .null] 3 = mkF m 0 #[.val (.int o), .val (.int n), .val .null] [] from by first | (simp [entryFrame, mkF, argsToLocals, Value.category]; done) | rfl]
  refine own_st (T' := s₁) (g' := (mkF m 1 #[.val (.int o), .val (.int n), .val .null] [(.int o)])) (fun _ k => XS.iloadN X0.here hx rfl (hb hby d8_0) rfl k) ?_
  refine own_st (T' := s₁) (g' := (mkF m 4 #[.val (.int o), .val (.int n), .val .null] [])) (fun _ k => XS.ifNo X0.here hx rfl (hb hby d8_1) rfl (Jvm.Free.XT.i0_lt_f hq1) k) ?_
  refine own_st (T' := s₁) (g' := (mkF m 5 #[.val (.int o), .val (.int n), .val .null] [(.int o)])) (fun _ k => XS.iloadN X0.here hx rfl (hb hby d8_4) rfl k) ?_
  refine own_st (T' := s₁) (g' := (mkF m 6 #[.val (.int o), .val (.int n), .val .null] [(.int n), (.int o)])) (fun _ k => XS.iloadN X0.here hx rfl (hb hby d8_5) rfl k) ?_
  refine own_st (T' := s₁) (g' := (mkF m 16 #[.val (.int o), .val (.int n), .val .null] [])) (fun _ k => XS.icmpYes X0.here hx rfl (pc0 := 6) (pc' := 16) rfl (hb hby d8_6) rfl (Jvm.Free.XT.ii_lt_t hq2) (by decide) (by decide) k) ?_
  refine own_st (T' := s₁) (g' := (mkF m 17 #[.val (.int o), .val (.int n), .val .null] [(.int o)])) (fun _ k => XS.iloadN X0.here hx rfl (hb hby d8_16) rfl k) ?_
  exact own_retI X0 hx Bd.returns Bd.notSynchronized e0 (hb hby d8_17) ⟨rfl, N0, rfl⟩ (by decide) (by decide)
theorem own_pd1 : parseMethodDescriptor "(IILjava/util/function/BiFunction;)I" = some ⟨[.int, .int, (.object "java/util/function/BiFunction")], some .int⟩ := by decide +kernel
theorem d7_0 : decode jdk_31_method_17_code 0 = .ok (.iload_n 0, 1) := by decide +kernel
theorem d7_1 : decode jdk_31_method_17_code 1 = .ok (.iload_n 1, 1) := by decide +kernel
theorem d7_2 : decode jdk_31_method_17_code 2 = .ok (.aconst_null, 1) := by decide +kernel
theorem d7_3 : decode jdk_31_method_17_code 3 = .ok (.invokestatic 105, 3) := by decide +kernel
theorem d7_6 : decode jdk_31_method_17_code 6 = .ok (.ireturn, 1) := by decide +kernel
def own_o2_Q (Z : State) (o : Int32) (n : Int32) (h0 : Heap) (n0 : Nat) (v : Option Value) (h : Heap) (L : List Loc) : Prop := v = some (.int o) ∧ Fr n0 L ∧ h = h0
set_option maxRecDepth 65536 in
set_option maxHeartbeats 40000000 in
theorem own_o2 (l : Launch) (Z : State) (a0 : Array Value) (hw : ∀ d ∈ tables_1, d.before a0 Z = true) (ws : List Jvm.Cond) (o : Int32) (n : Int32) (h0 : Heap) (n0 : Nat) (Z0 : n0 ≤ h0.size) (hq1 : ¬ o < (0 : Int32)) (hq2 : o < n) :
    MetFree l (⟨"java/util/Objects", "checkIndex", "(II)I"⟩ : MethodName) (head1 (Jvm.Cond.code (⟨"java/util/Objects", "checkIndex", "(II)I"⟩ : MethodName) jdk_31_method_17_code 2 (some .int) :: ws) ({ frames := 1, cells := 0, slots := 0, locals := 14 } : Room)) (fun aa U0 => aa = #[(.int o), (.int n)] ∧ Z.Warmed39 U0.vm ∧ U0.heap = h0) (fun _ _ _ _ _ => True) (fun _ U0 o0 U1 => ∃ v0 L0, o0 = .returned v0 ∧ own_o2_Q Z o n h0 n0 v0 U1.heap L0 ∧ FrameEnd U0 o0 U1 L0 ({ frames := 1, cells := 0, slots := 0, locals := 14 } : Room).cells ({ frames := 1, cells := 0, slots := 0, locals := 14 } : Room).slots) := by
  refine MetFree.of_bodySF (plainFor_of_name own_pn2) hisR ?_
  intro p e s m args below meth c s₁ Bd hml0 hP hK
  obtain ⟨rfl, hZ, hh⟩ := hP
  have hx := Bd.exec
  have hby := Bd.bytes
  have hml : c.maxLocals = 2 := hml0
  have hown : s.vm.findClass "java/util/Objects" = some m.cls := findClass_of_methodNamed Bd.named
  have hnm := (name_of_methodNamed Bd.named Bd.method).1
  have X0 : Stand p l e ({ frames := 1, cells := 0, slots := 0, locals := 14 } : Room) s m #[(.int o), (.int n)] below meth c s₁ [] 0 0 := Stand.of_body Bd
  have e0 : s₁.heap = h0 := by rw [← hh, Bd.state]; rfl
  have N0 := Fr.nil n0
  show own_Go p e below s (own_o2_Q Z o n h0 n0) 0 0 s₁ (entryFrame m #[(.int o), (.int n)] 2)
  rw [show entryFrame m #[(.int o), (.int n)] 2 = mkF m 0 #[.val (.int o), .val (.int n)] [] from by first | (simp [entryFrame, mkF, argsToLocals, Value.category]; done) | rfl]
  refine own_st (T' := s₁) (g' := (mkF m 1 #[.val (.int o), .val (.int n)] [(.int o)])) (fun _ k => XS.iloadN X0.here hx rfl (hb hby d7_0) rfl k) ?_
  refine own_st (T' := s₁) (g' := (mkF m 2 #[.val (.int o), .val (.int n)] [(.int n), (.int o)])) (fun _ k => XS.iloadN X0.here hx rfl (hb hby d7_1) rfl k) ?_
  refine own_st (T' := s₁) (g' := (mkF m 3 #[.val (.int o), .val (.int n)] [.null, (.int n), (.int o)])) (fun _ k => XS.aconstNull X0.here hx rfl (hb hby d7_2) k) ?_
  obtain ⟨_, _, ⟨T5, L5, k5, n5⟩, -, X5, ⟨Lc5, hQ5, l5, y5, z5⟩, st5⟩ := Jvm.LawKit.callS X0 hx (y := (⟨"jdk/internal/util/Preconditions", "checkIndex", "(IILjava/util/function/BiFunction;)I"⟩ : MethodName)) hown (mvT hZ (hw _ (List.mem_of_getElem? (i := 38) rfl))) (mvT hZ (hw _ (List.mem_of_getElem? (i := 39) rfl))) (mvT hZ (hw _ (List.mem_of_getElem? (i := 24) rfl))) (mvT hZ (hw _ (List.mem_of_getElem? (i := 40) rfl))) (by decide) (backOf (W := 0) (own_p2 l Z a0 hw [] o n h0 n0 Z0 hq1 hq2) hZ (hw _ (List.mem_of_getElem? (i := 40) rfl)) (hw _ (List.mem_of_getElem? (i := 24) rfl)) (by decide) (by decide)) (g := (mkF m 3 #[.val (.int o), .val (.int n)] [.null, (.int n), (.int o)])) rfl (by rw [hml]; rfl) (argsL := [(.int o), (.int n), .null]) (rest := []) (lenOf own_pd1 rfl) rfl (by show 2 * 0 + _ ≤ _; exact Nat.le_of_eq rfl) (hb hby d7_3) (fun _ _ => ⟨rfl, e0, (by decide : 0 + 0 ≤ _), (by decide : 0 + 0 ≤ _)⟩)
  dsimp only [Pt.U, Pt.locs, Pt.cells, Pt.slots] at X5 l5 y5 z5 st5 hQ5
  subst l5 y5 z5
  obtain ⟨rfl, N5q, e5⟩ := hQ5
  have N0' := Fr.app N0 N5q
  refine own_st (T' := T5) (g' := (mkF m 6 #[.val (.int o), .val (.int n)] [(.int o)])) st5 ?_
  exact own_retI X5 hx Bd.returns Bd.notSynchronized e5 (hb hby d7_6) ⟨rfl, N0', rfl⟩ (by decide) (by decide)
theorem own_pd2 : parseMethodDescriptor "(III)I" = some ⟨[.int, .int, .int], some .int⟩ := by decide +kernel
theorem d3_0 : decode prog_4_method_2_code 0 = .ok (.iload_n 2, 1) := by decide +kernel
theorem d3_1 : decode prog_4_method_2_code 1 = .ok (.iload_n 3, 1) := by decide +kernel
theorem d3_2 : decode prog_4_method_2_code 2 = .ok (.aload_n 1, 1) := by decide +kernel
theorem d3_3 : decode prog_4_method_2_code 3 = .ok (.arraylength, 1) := by decide +kernel
theorem d3_4 : decode prog_4_method_2_code 4 = .ok (.invokestatic 13, 3) := by decide +kernel
theorem d3_7 : decode prog_4_method_2_code 7 = .ok (.pop, 1) := by decide +kernel
theorem d3_8 : decode prog_4_method_2_code 8 = .ok (.aload_n 0, 1) := by decide +kernel
theorem d3_9 : decode prog_4_method_2_code 9 = .ok (.aload_n 1, 1) := by decide +kernel
theorem d3_10 : decode prog_4_method_2_code 10 = .ok (.putfield 7, 3) := by decide +kernel
theorem d3_13 : decode prog_4_method_2_code 13 = .ok (.aload_n 0, 1) := by decide +kernel
theorem d3_14 : decode prog_4_method_2_code 14 = .ok (.iload_n 2, 1) := by decide +kernel
theorem d3_15 : decode prog_4_method_2_code 15 = .ok (.putfield 19, 3) := by decide +kernel
theorem d3_18 : decode prog_4_method_2_code 18 = .ok (.aload_n 0, 1) := by decide +kernel
theorem d3_19 : decode prog_4_method_2_code 19 = .ok (.iload_n 3, 1) := by decide +kernel
theorem d3_20 : decode prog_4_method_2_code 20 = .ok (.putfield 23, 3) := by decide +kernel
theorem d3_23 : decode prog_4_method_2_code 23 = .ok (.aload_n 0, 1) := by decide +kernel
theorem d3_24 : decode prog_4_method_2_code 24 = .ok (.areturn, 1) := by decide +kernel
def own_of_Q (Z : State) (a : Addr) (t : Addr) (o : Int32) (z : Int32) (r : Value) (k : ClassId) (f : Nat → Value) (h0 : Heap) (n0 : Nat) (v : Option Value) (h : Heap) (L : List Loc) : Prop := v = some (.ref a) ∧ Fr n0 L ∧ Keep h0 h [a] ∧ Exa Z h a "com/example/reckoner/reckoner/io/CharSlice" ∧ Fld Z h a "com/example/reckoner/reckoner/io/CharSlice" "chars" "[C" (.ref t) ∧ Fld Z h a "com/example/reckoner/reckoner/io/CharSlice" "start" "I" (.int o) ∧ Fld Z h a "com/example/reckoner/reckoner/io/CharSlice" "length" "I" (.int z)
set_option maxRecDepth 65536 in
set_option maxHeartbeats 40000000 in
theorem own_of (l : Launch) (Z : State) (a0 : Array Value) (hw : ∀ d ∈ tables_1, d.before a0 Z = true) (ws : List Jvm.Cond) (a : Addr) (t : Addr) (o : Int32) (z : Int32) (r : Value) (k : ClassId) (f : Nat → Value) (h0 : Heap) (n0 : Nat) (Z0 : n0 ≤ h0.size) (F_chars : Fld Z h0 a "com/example/reckoner/reckoner/io/CharSlice" "chars" "[C" r) (F_start : Fld Z h0 a "com/example/reckoner/reckoner/io/CharSlice" "start" "I" (.int (0 : Int32))) (F_length : Fld Z h0 a "com/example/reckoner/reckoner/io/CharSlice" "length" "I" (.int (0 : Int32))) (Eq : Exa Z h0 a "com/example/reckoner/reckoner/io/CharSlice") (ga : n0 ≤ a) (nta : t ≠ a) (V_t : own_Av Z h0 t k .char 6 f) (hq1 : ¬ (((6 : Int32) ||| o) ||| z) < (0 : Int32)) (hq2 : ¬ ((6 : Int32) - o) < z) :
    MetFree l (⟨"com/example/reckoner/reckoner/io/CharSlice", "of", "([CII)Lcom/example/reckoner/reckoner/io/CharSlice;"⟩ : MethodName) (head1 (Jvm.Cond.code (⟨"com/example/reckoner/reckoner/io/CharSlice", "of", "([CII)Lcom/example/reckoner/reckoner/io/CharSlice;"⟩ : MethodName) prog_4_method_2_code 4 (some (.object "com/example/reckoner/reckoner/io/CharSlice")) :: ws) ({ frames := 2, cells := 0, slots := 0, locals := 29 } : Room)) (fun aa U0 => aa = #[(.ref a), (.ref t), (.int o), (.int z)] ∧ Z.Warmed39 U0.vm ∧ U0.heap = h0) (fun _ _ _ _ _ => True) (fun _ U0 o0 U1 => ∃ v0 L0, o0 = .returned v0 ∧ own_of_Q Z a t o z r k f h0 n0 v0 U1.heap L0 ∧ FrameEnd U0 o0 U1 L0 ({ frames := 2, cells := 0, slots := 0, locals := 29 } : Room).cells ({ frames := 2, cells := 0, slots := 0, locals := 29 } : Room).slots) := by
  refine MetFree.of_bodySF (plainFor_of_name own_pn0) hisR ?_
  intro p e s m args below meth c s₁ Bd hml0 hP hK
  obtain ⟨rfl, hZ, hh⟩ := hP
  have hx := Bd.exec
  have hby := Bd.bytes
  have hml : c.maxLocals = 4 := hml0
  have hown : s.vm.findClass "com/example/reckoner/reckoner/io/CharSlice" = some m.cls := findClass_of_methodNamed Bd.named
  have hnm := (name_of_methodNamed Bd.named Bd.method).1
  have X0 : Stand p l e ({ frames := 2, cells := 0, slots := 0, locals := 29 } : Room) s m #[(.ref a), (.ref t), (.int o), (.int z)] below meth c s₁ [] 0 0 := Stand.of_body Bd
  have e0 : s₁.heap = h0 := by rw [← hh, Bd.state]; rfl
  have N0 := Fr.nil n0
  show own_Go p e below s (own_of_Q Z a t o z r k f h0 n0) 0 0 s₁ (entryFrame m #[(.ref a), (.ref t), (.int o), (.int z)] 4)
  rw [show entryFrame m #[(.ref a), (.ref t), (.int o), (.int z)] 4 = mkF m 0 #[.val (.ref a), .val (.ref t), .val (.int o), .val (.int z)] [] from by first | (simp [entryFrame, mkF, argsToLocals, Value.category]; done) | rfl]
  have Kp := Keep.refl h0 [a]
  refine own_st (T' := s₁) (g' := (mkF m 1 #[.val (.ref a), .val (.ref t), .val (.int o), .val (.int z)] [(.int o)])) (fun _ k => XS.iloadN X0.here hx rfl (hb hby d3_0) rfl k) ?_
  refine own_st (T' := s₁) (g' := (mkF m 2 #[.val (.ref a), .val (.ref t), .val (.int o), .val (.int z)] [(.int z), (.int o)])) (fun _ k => XS.iloadN X0.here hx rfl (hb hby d3_1) rfl k) ?_
  refine own_st (T' := s₁) (g' := (mkF m 3 #[.val (.ref a), .val (.ref t), .val (.int o), .val (.int z)] [(.ref t), (.int z), (.int o)])) (fun _ k => XS.aloadN X0.here hx rfl (hb hby d3_2) rfl rfl k) ?_
  refine own_st (T' := s₁) (g' := (mkF m 4 #[.val (.ref a), .val (.ref t), .val (.int o), .val (.int z)] [(.int (6 : Int32)), (.int z), (.int o)])) (own_len X0 hx hZ e0 V_t (z := (6 : Int32)) rfl (g := (mkF m 3 #[.val (.ref a), .val (.ref t), .val (.int o), .val (.int z)] [(.ref t), (.int z), (.int o)])) rfl rfl (hb hby d3_3)) ?_
  obtain ⟨_, _, ⟨T6, L6, k6, n6⟩, -, X6, ⟨Lc6, hQ6, l6, y6, z6⟩, st6⟩ := Jvm.LawKit.callS X0 hx (y := (⟨"java/util/Objects", "checkFromIndexSize", "(III)I"⟩ : MethodName)) hown (mvT hZ (hw _ (List.mem_of_getElem? (i := 18) rfl))) (mvT hZ (hw _ (List.mem_of_getElem? (i := 19) rfl))) (mvT hZ (hw _ (List.mem_of_getElem? (i := 20) rfl))) (mvT hZ (hw _ (List.mem_of_getElem? (i := 21) rfl))) (by decide) (backOf (W := 0) (own_o1 l Z a0 hw [] o z (6 : Int32) h0 n0 Z0 hq1 hq2) hZ (hw _ (List.mem_of_getElem? (i := 21) rfl)) (hw _ (List.mem_of_getElem? (i := 20) rfl)) (by decide) (by decide)) (g := (mkF m 4 #[.val (.ref a), .val (.ref t), .val (.int o), .val (.int z)] [(.int (6 : Int32)), (.int z), (.int o)])) rfl (by rw [hml]; rfl) (argsL := [(.int o), (.int z), (.int (6 : Int32))]) (rest := []) (lenOf own_pd2 rfl) rfl (by show 2 * 0 + _ ≤ _; exact Nat.le_of_eq rfl) (hb hby d3_4) (fun _ _ => ⟨rfl, e0, (by decide : 0 + 0 ≤ _), (by decide : 0 + 0 ≤ _)⟩)
  dsimp only [Pt.U, Pt.locs, Pt.cells, Pt.slots] at X6 l6 y6 z6 st6 hQ6
  subst l6 y6 z6
  obtain ⟨rfl, N6q, e6⟩ := hQ6
  have N0' := Fr.app N0 N6q
  refine own_st (T' := T6) (g' := (mkF m 7 #[.val (.ref a), .val (.ref t), .val (.int o), .val (.int z)] [(.int o)])) st6 ?_
  refine own_st (T' := T6) (g' := (mkF m 8 #[.val (.ref a), .val (.ref t), .val (.int o), .val (.int z)] [])) (fun _ k => XS.pop X6.here hx rfl (hb hby d3_7) rfl rfl k) ?_
  refine own_st (T' := T6) (g' := (mkF m 9 #[.val (.ref a), .val (.ref t), .val (.int o), .val (.int z)] [(.ref a)])) (fun _ k => XS.aloadN X6.here hx rfl (hb hby d3_8) rfl rfl k) ?_
  refine own_st (T' := T6) (g' := (mkF m 10 #[.val (.ref a), .val (.ref t), .val (.int o), .val (.int z)] [(.ref t), (.ref a)])) (fun _ k => XS.aloadN X6.here hx rfl (hb hby d3_9) rfl rfl k) ?_
  obtain ⟨T7, h7, X7, e7, W7, st7⟩ := putF X6 hx hZ hown (host := "") (Or.inl (hw _ (List.mem_of_getElem? (i := 11) rfl))) Via.refl e6 F_chars Eq (Or.inl (hw _ (List.mem_of_getElem? (i := 12) rfl))) (hw _ (List.mem_of_getElem? (i := 3) rfl)) (ty := (.array .char)) (by decide) rfl rfl (g := (mkF m 10 #[.val (.ref a), .val (.ref t), .val (.int o), .val (.int z)] [(.ref t), (.ref a)])) rfl rfl (hb hby d3_10)
  have F_start := F_start.other W7 (Or.inr (slot_ne (Or.inl (hw _ (List.mem_of_getElem? (i := 27) rfl))) (Or.inl (hw _ (List.mem_of_getElem? (i := 12) rfl))) (by decide) (t := .int) (t' := (.array .char)) (by decide) (by decide)))
  have F_length := F_length.other W7 (Or.inr (slot_ne (Or.inl (hw _ (List.mem_of_getElem? (i := 29) rfl))) (Or.inl (hw _ (List.mem_of_getElem? (i := 12) rfl))) (by decide) (t := .int) (t' := (.array .char)) (by decide) (by decide)))
  have Eq := Eq.wr W7
  have V_t := V_t.other W7 nta
  have Z0' := Nat.le_trans Z0 (Keep.of_wr W7).1
  have Kp := Kp.wr W7 (Or.inl (List.mem_of_getElem? (i := 0) rfl))
  have N0'' := Fr.snoc X7 N0' ga
  have F_chars := F_chars.same W7
  refine own_st (T' := T7) (g' := (mkF m 13 #[.val (.ref a), .val (.ref t), .val (.int o), .val (.int z)] [])) st7 ?_
  refine own_st (T' := T7) (g' := (mkF m 14 #[.val (.ref a), .val (.ref t), .val (.int o), .val (.int z)] [(.ref a)])) (fun _ k => XS.aloadN X7.here hx rfl (hb hby d3_13) rfl rfl k) ?_
  refine own_st (T' := T7) (g' := (mkF m 15 #[.val (.ref a), .val (.ref t), .val (.int o), .val (.int z)] [(.int o), (.ref a)])) (fun _ k => XS.iloadN X7.here hx rfl (hb hby d3_14) rfl k) ?_
  obtain ⟨T8, h8, X8, e8, W8, st8⟩ := putF X7 hx hZ hown (host := "") (Or.inl (hw _ (List.mem_of_getElem? (i := 26) rfl))) Via.refl e7 F_start Eq (Or.inl (hw _ (List.mem_of_getElem? (i := 27) rfl))) (hw _ (List.mem_of_getElem? (i := 3) rfl)) (ty := .int) (by decide) rfl rfl (g := (mkF m 15 #[.val (.ref a), .val (.ref t), .val (.int o), .val (.int z)] [(.int o), (.ref a)])) rfl rfl (hb hby d3_15)
  have F_chars := F_chars.other W8 (Or.inr (slot_ne (Or.inl (hw _ (List.mem_of_getElem? (i := 12) rfl))) (Or.inl (hw _ (List.mem_of_getElem? (i := 27) rfl))) (by decide) (t := (.array .char)) (t' := .int) (by decide) (by decide)))
  have F_length := F_length.other W8 (Or.inr (slot_ne (Or.inl (hw _ (List.mem_of_getElem? (i := 29) rfl))) (Or.inl (hw _ (List.mem_of_getElem? (i := 27) rfl))) (by decide) (t := .int) (t' := .int) (by decide) (by decide)))
  have Eq := Eq.wr W8
  have V_t := V_t.other W8 nta
  have Z0'' := Nat.le_trans Z0' (Keep.of_wr W8).1
  have Kp := Kp.wr W8 (Or.inl (List.mem_of_getElem? (i := 0) rfl))
  have N0''' := Fr.snoc X8 N0'' ga
  have F_start := F_start.same W8
  refine own_st (T' := T8) (g' := (mkF m 18 #[.val (.ref a), .val (.ref t), .val (.int o), .val (.int z)] [])) st8 ?_
  refine own_st (T' := T8) (g' := (mkF m 19 #[.val (.ref a), .val (.ref t), .val (.int o), .val (.int z)] [(.ref a)])) (fun _ k => XS.aloadN X8.here hx rfl (hb hby d3_18) rfl rfl k) ?_
  refine own_st (T' := T8) (g' := (mkF m 20 #[.val (.ref a), .val (.ref t), .val (.int o), .val (.int z)] [(.int z), (.ref a)])) (fun _ k => XS.iloadN X8.here hx rfl (hb hby d3_19) rfl k) ?_
  obtain ⟨T9, h9, X9, e9, W9, st9⟩ := putF X8 hx hZ hown (host := "") (Or.inl (hw _ (List.mem_of_getElem? (i := 28) rfl))) Via.refl e8 F_length Eq (Or.inl (hw _ (List.mem_of_getElem? (i := 29) rfl))) (hw _ (List.mem_of_getElem? (i := 3) rfl)) (ty := .int) (by decide) rfl rfl (g := (mkF m 20 #[.val (.ref a), .val (.ref t), .val (.int o), .val (.int z)] [(.int z), (.ref a)])) rfl rfl (hb hby d3_20)
  have F_chars := F_chars.other W9 (Or.inr (slot_ne (Or.inl (hw _ (List.mem_of_getElem? (i := 12) rfl))) (Or.inl (hw _ (List.mem_of_getElem? (i := 29) rfl))) (by decide) (t := (.array .char)) (t' := .int) (by decide) (by decide)))
  have F_start := F_start.other W9 (Or.inr (slot_ne (Or.inl (hw _ (List.mem_of_getElem? (i := 27) rfl))) (Or.inl (hw _ (List.mem_of_getElem? (i := 29) rfl))) (by decide) (t := .int) (t' := .int) (by decide) (by decide)))
  have Eq := Eq.wr W9
  have V_t := V_t.other W9 nta
  have Z0''' := Nat.le_trans Z0'' (Keep.of_wr W9).1
  have Kp := Kp.wr W9 (Or.inl (List.mem_of_getElem? (i := 0) rfl))
  have N0'''' := Fr.snoc X9 N0''' ga
  have F_length := F_length.same W9
  refine own_st (T' := T9) (g' := (mkF m 23 #[.val (.ref a), .val (.ref t), .val (.int o), .val (.int z)] [])) st9 ?_
  refine own_st (T' := T9) (g' := (mkF m 24 #[.val (.ref a), .val (.ref t), .val (.int o), .val (.int z)] [(.ref a)])) (fun _ k => XS.aloadN X9.here hx rfl (hb hby d3_23) rfl rfl k) ?_
  exact own_retR X9 hx Bd.returns Bd.notSynchronized e9 rfl rfl (hb hby d3_24) ⟨rfl, N0'''', Kp, Eq, F_chars, F_start, F_length⟩ (by decide) (by decide)
theorem own_pd3 : parseMethodDescriptor "(II)I" = some ⟨[.int, .int], some .int⟩ := by decide +kernel
theorem d6_0 : decode prog_4_method_4_code 0 = .ok (.iload_n 1, 1) := by decide +kernel
theorem d6_1 : decode prog_4_method_4_code 1 = .ok (.aload_n 0, 1) := by decide +kernel
theorem d6_2 : decode prog_4_method_4_code 2 = .ok (.getfield 23, 3) := by decide +kernel
theorem d6_5 : decode prog_4_method_4_code 5 = .ok (.invokestatic 26, 3) := by decide +kernel
theorem d6_8 : decode prog_4_method_4_code 8 = .ok (.pop, 1) := by decide +kernel
theorem d6_9 : decode prog_4_method_4_code 9 = .ok (.aload_n 0, 1) := by decide +kernel
theorem d6_10 : decode prog_4_method_4_code 10 = .ok (.getfield 7, 3) := by decide +kernel
theorem d6_13 : decode prog_4_method_4_code 13 = .ok (.aload_n 0, 1) := by decide +kernel
theorem d6_14 : decode prog_4_method_4_code 14 = .ok (.getfield 19, 3) := by decide +kernel
theorem d6_17 : decode prog_4_method_4_code 17 = .ok (.iload_n 1, 1) := by decide +kernel
theorem d6_18 : decode prog_4_method_4_code 18 = .ok (.iadd, 1) := by decide +kernel
theorem d6_19 : decode prog_4_method_4_code 19 = .ok (.caload, 1) := by decide +kernel
theorem d6_20 : decode prog_4_method_4_code 20 = .ok (.ireturn, 1) := by decide +kernel
def own_ca_Q (Z : State) (a : Addr) (j : Int32) (t : Addr) (o : Int32) (z : Int32) (k : ClassId) (f : Nat → Value) (i : Nat) (cv : Int32) (h0 : Heap) (n0 : Nat) (v : Option Value) (h : Heap) (L : List Loc) : Prop := v = some (.int cv) ∧ Fr n0 L ∧ h = h0
set_option maxRecDepth 65536 in
set_option maxHeartbeats 40000000 in
theorem own_ca (l : Launch) (Z : State) (a0 : Array Value) (hw : ∀ d ∈ tables_1, d.before a0 Z = true) (ws : List Jvm.Cond) (a : Addr) (j : Int32) (t : Addr) (o : Int32) (z : Int32) (k : ClassId) (f : Nat → Value) (i : Nat) (cv : Int32) (h0 : Heap) (n0 : Nat) (Z0 : n0 ≤ h0.size) (F_chars : Fld Z h0 a "com/example/reckoner/reckoner/io/CharSlice" "chars" "[C" (.ref t)) (F_start : Fld Z h0 a "com/example/reckoner/reckoner/io/CharSlice" "start" "I" (.int o)) (F_length : Fld Z h0 a "com/example/reckoner/reckoner/io/CharSlice" "length" "I" (.int z)) (V_t : own_Av Z h0 t k .char 6 f) (hq1 : ¬ j < (0 : Int32)) (hq2 : j < z) (hj : (o + j).toInt = i) (hi : i < 6) (hv : f i = .int cv) (hcv : nar .char cv = cv) :
    MetFree l (⟨"com/example/reckoner/reckoner/io/CharSlice", "charAt", "(I)C"⟩ : MethodName) (head1 (Jvm.Cond.code (⟨"com/example/reckoner/reckoner/io/CharSlice", "charAt", "(I)C"⟩ : MethodName) prog_4_method_4_code 2 (some .char) :: ws) ({ frames := 2, cells := 0, slots := 0, locals := 27 } : Room)) (fun aa U0 => aa = #[(.ref a), (.int j)] ∧ Z.Warmed39 U0.vm ∧ U0.heap = h0) (fun _ _ _ _ _ => True) (fun _ U0 o0 U1 => ∃ v0 L0, o0 = .returned v0 ∧ own_ca_Q Z a j t o z k f i cv h0 n0 v0 U1.heap L0 ∧ FrameEnd U0 o0 U1 L0 ({ frames := 2, cells := 0, slots := 0, locals := 27 } : Room).cells ({ frames := 2, cells := 0, slots := 0, locals := 27 } : Room).slots) := by
  refine MetFree.of_bodySF (plainFor_of_name own_pn0) hisR ?_
  intro p e s m args below meth c s₁ Bd hml0 hP hK
  obtain ⟨rfl, hZ, hh⟩ := hP
  have hx := Bd.exec
  have hby := Bd.bytes
  have hml : c.maxLocals = 2 := hml0
  have hown : s.vm.findClass "com/example/reckoner/reckoner/io/CharSlice" = some m.cls := findClass_of_methodNamed Bd.named
  have hnm := (name_of_methodNamed Bd.named Bd.method).1
  have X0 : Stand p l e ({ frames := 2, cells := 0, slots := 0, locals := 27 } : Room) s m #[(.ref a), (.int j)] below meth c s₁ [] 0 0 := Stand.of_body Bd
  have e0 : s₁.heap = h0 := by rw [← hh, Bd.state]; rfl
  have N0 := Fr.nil n0
  show own_Go p e below s (own_ca_Q Z a j t o z k f i cv h0 n0) 0 0 s₁ (entryFrame m #[(.ref a), (.int j)] 2)
  rw [show entryFrame m #[(.ref a), (.int j)] 2 = mkF m 0 #[.val (.ref a), .val (.int j)] [] from by first | (simp [entryFrame, mkF, argsToLocals, Value.category]; done) | rfl]
  refine own_st (T' := s₁) (g' := (mkF m 1 #[.val (.ref a), .val (.int j)] [(.int j)])) (fun _ k => XS.iloadN X0.here hx rfl (hb hby d6_0) rfl k) ?_
  refine own_st (T' := s₁) (g' := (mkF m 2 #[.val (.ref a), .val (.int j)] [(.ref a), (.int j)])) (fun _ k => XS.aloadN X0.here hx rfl (hb hby d6_1) rfl rfl k) ?_
  obtain ⟨T10, X10, e10, st10⟩ := getF X0 hx hZ hown (host := "") (Or.inl (hw _ (List.mem_of_getElem? (i := 28) rfl))) Via.refl e0 F_length (g := (mkF m 2 #[.val (.ref a), .val (.int j)] [(.ref a), (.int j)])) rfl rfl (hb hby d6_2)
  refine own_st (T' := T10) (g' := (mkF m 5 #[.val (.ref a), .val (.int j)] [(.int z), (.int j)])) st10 ?_
  obtain ⟨_, _, ⟨T11, L11, k11, n11⟩, -, X11, ⟨Lc11, hQ11, l11, y11, z11⟩, st11⟩ := Jvm.LawKit.callS X10 hx (y := (⟨"java/util/Objects", "checkIndex", "(II)I"⟩ : MethodName)) hown (mvT hZ (hw _ (List.mem_of_getElem? (i := 35) rfl))) (mvT hZ (hw _ (List.mem_of_getElem? (i := 36) rfl))) (mvT hZ (hw _ (List.mem_of_getElem? (i := 20) rfl))) (mvT hZ (hw _ (List.mem_of_getElem? (i := 37) rfl))) (by decide) (backOf (W := 0) (own_o2 l Z a0 hw [] j z h0 n0 Z0 hq1 hq2) hZ (hw _ (List.mem_of_getElem? (i := 37) rfl)) (hw _ (List.mem_of_getElem? (i := 20) rfl)) (by decide) (by decide)) (g := (mkF m 5 #[.val (.ref a), .val (.int j)] [(.int z), (.int j)])) rfl (by rw [hml]; rfl) (argsL := [(.int j), (.int z)]) (rest := []) (lenOf own_pd3 rfl) rfl (by show 2 * 0 + _ ≤ _; exact Nat.le_of_eq rfl) (hb hby d6_5) (fun _ _ => ⟨rfl, e10, (by decide : 0 + 0 ≤ _), (by decide : 0 + 0 ≤ _)⟩)
  dsimp only [Pt.U, Pt.locs, Pt.cells, Pt.slots] at X11 l11 y11 z11 st11 hQ11
  subst l11 y11 z11
  obtain ⟨rfl, N11q, e11⟩ := hQ11
  have N0' := Fr.app N0 N11q
  refine own_st (T' := T11) (g' := (mkF m 8 #[.val (.ref a), .val (.int j)] [(.int j)])) st11 ?_
  refine own_st (T' := T11) (g' := (mkF m 9 #[.val (.ref a), .val (.int j)] [])) (fun _ k => XS.pop X11.here hx rfl (hb hby d6_8) rfl rfl k) ?_
  refine own_st (T' := T11) (g' := (mkF m 10 #[.val (.ref a), .val (.int j)] [(.ref a)])) (fun _ k => XS.aloadN X11.here hx rfl (hb hby d6_9) rfl rfl k) ?_
  obtain ⟨T12, X12, e12, st12⟩ := getF X11 hx hZ hown (host := "") (Or.inl (hw _ (List.mem_of_getElem? (i := 11) rfl))) Via.refl e11 F_chars (g := (mkF m 10 #[.val (.ref a), .val (.int j)] [(.ref a)])) rfl rfl (hb hby d6_10)
  refine own_st (T' := T12) (g' := (mkF m 13 #[.val (.ref a), .val (.int j)] [(.ref t)])) st12 ?_
  refine own_st (T' := T12) (g' := (mkF m 14 #[.val (.ref a), .val (.int j)] [(.ref a), (.ref t)])) (fun _ k => XS.aloadN X12.here hx rfl (hb hby d6_13) rfl rfl k) ?_
  obtain ⟨T13, X13, e13, st13⟩ := getF X12 hx hZ hown (host := "") (Or.inl (hw _ (List.mem_of_getElem? (i := 26) rfl))) Via.refl e12 F_start (g := (mkF m 14 #[.val (.ref a), .val (.int j)] [(.ref a), (.ref t)])) rfl rfl (hb hby d6_14)
  refine own_st (T' := T13) (g' := (mkF m 17 #[.val (.ref a), .val (.int j)] [(.int o), (.ref t)])) st13 ?_
  refine own_st (T' := T13) (g' := (mkF m 18 #[.val (.ref a), .val (.int j)] [(.int j), (.int o), (.ref t)])) (fun _ k => XS.iloadN X13.here hx rfl (hb hby d6_17) rfl k) ?_
  refine own_st (T' := T13) (g' := (mkF m 19 #[.val (.ref a), .val (.int j)] [(.int (o + j)), (.ref t)])) (fun _ k => XS.iadd X13.here hx rfl (hb hby d6_18) rfl k) ?_
  refine own_st (T' := T13) (g' := (mkF m 20 #[.val (.ref a), .val (.int j)] [(.int cv)])) (own_ldC X13 hx hZ e13 V_t (i := i) hj hi (v := (.int cv)) hv (g := (mkF m 19 #[.val (.ref a), .val (.int j)] [(.int (o + j)), (.ref t)])) rfl rfl (hb hby d6_19)) ?_
  exact own_retN X13 hx Bd.returns Bd.notSynchronized e13 (by simp) (hb hby d6_20) ⟨by rw [hcv], N0', rfl⟩ (by decide) (by decide)
theorem own_pd4 : parseMethodDescriptor "()V" = some ⟨[], none⟩ := by decide +kernel
theorem own_pd5 : parseMethodDescriptor "([CII)Lcom/example/reckoner/reckoner/io/CharSlice;" = some ⟨[(.array .char), .int, .int], some (.object "com/example/reckoner/reckoner/io/CharSlice")⟩ := by decide +kernel
theorem own_pd6 : parseMethodDescriptor "(I)C" = some ⟨[.int], some .char⟩ := by decide +kernel
theorem own_pn3 : plainName "com/example/reckoner/reckoner/io/CharSliceCharAtPinLaw" = true := by first | (simp [plainName, overriddenIn]; done) | decide +kernel
def own_law_Q (Z : State) (p0 : Int64) (p1 : Int32) (p2 : Int32) (p3 : Int32) (p4 : Int32) (p5 : Int32) (h0 : Heap) (n0 : Nat) (v : Option Value) (h : Heap) (L : List Loc) : Prop := v = some (.int 1) ∧ Fr n0 L
set_option maxRecDepth 65536 in
set_option maxHeartbeats 40000000 in
theorem own_law (l : Launch) (Z : State) (a0 : Array Value) (hw : ∀ d ∈ tables_1, d.before a0 Z = true) (ws : List Jvm.Cond) (p0 : Int64) (p1 : Int32) (p2 : Int32) (p3 : Int32) (p4 : Int32) (p5 : Int32) (h0 : Heap) (n0 : Nat) (Z0 : n0 ≤ h0.size) :
    MetFree l x (head1 (Jvm.Cond.code x code maxLocals ret :: ws) room_1) (fun aa U0 => aa = #[(.long p0), (.int p1), (.int p2), (.int p3), (.int p4), (.int p5)] ∧ Z.Warmed39 U0.vm ∧ U0.heap = h0) (fun _ _ _ _ _ => True) (fun _ U0 o0 U1 => ∃ v0 L0, o0 = .returned v0 ∧ own_law_Q Z p0 p1 p2 p3 p4 p5 h0 n0 v0 U1.heap L0 ∧ FrameEnd U0 o0 U1 L0 16 128) := by
  refine MetFree.of_bodySF (plainFor_of_name own_pn3) hisR ?_
  intro p e s m args below meth c s₁ Bd hml0 hP hK
  obtain ⟨rfl, hZ, hh⟩ := hP
  have hx := Bd.exec
  have hby := Bd.bytes
  have hml : c.maxLocals = 15 := hml0
  have hown : s.vm.findClass "com/example/reckoner/reckoner/io/CharSliceCharAtPinLaw" = some m.cls := findClass_of_methodNamed Bd.named
  have hnm := (name_of_methodNamed Bd.named Bd.method).1
  have X0 : Stand p l e room_1 s m #[(.long p0), (.int p1), (.int p2), (.int p3), (.int p4), (.int p5)] below meth c s₁ [] 0 0 := Stand.of_body Bd
  have e0 : s₁.heap = h0 := by rw [← hh, Bd.state]; rfl
  have N0 := Fr.nil n0
  show own_Go p e below s (own_law_Q Z p0 p1 p2 p3 p4 p5 h0 n0) 16 128 s₁ (entryFrame m #[(.long p0), (.int p1), (.int p2), (.int p3), (.int p4), (.int p5)] maxLocals)
  rw [show entryFrame m #[(.long p0), (.int p1), (.int p2), (.int p3), (.int p4), (.int p5)] maxLocals = mkF m 0 #[.val (.long p0), .second, .val (.int p1), .val (.int p2), .val (.int p3), .val (.int p4), .val (.int p5), .unset, .unset, .unset, .unset, .unset, .unset, .unset, .unset] [] from by first | (simp [entryFrame, mkF, argsToLocals, Value.category, maxLocals]; done) | rfl]
  refine own_st (T' := s₁) (g' := (mkF m 2 #[.val (.long p0), .second, .val (.int p1), .val (.int p2), .val (.int p3), .val (.int p4), .val (.int p5), .unset, .unset, .unset, .unset, .unset, .unset, .unset, .unset] [(.int (6 : Int32))])) (fun _ k => XS.bipush X0.here hx rfl (hb hby at_0) k) ?_
  obtain ⟨T14, h14, k14, X14, e14, E14, A14, st14⟩ := newP X0 hx hZ (hw _ (List.mem_of_getElem? (i := 0) rfl)) e0 (g := (mkF m 2 #[.val (.long p0), .second, .val (.int p1), .val (.int p2), .val (.int p3), .val (.int p4), .val (.int p5), .unset, .unset, .unset, .unset, .unset, .unset, .unset, .unset] [(.int (6 : Int32))])) rfl (hb hby at_2) rfl (by decide) (cap := 6) (by decide) (by decide) (by decide) (by decide)
  obtain ⟨t, gt⟩ : ∃ z, z = h0.size := ⟨_, rfl⟩
  rw [← gt] at A14 st14
  have ge_t : n0 ≤ t := own_ge Z0 gt
  have Z0' := Nat.le_trans Z0 E14.1
  have V_t := own_Av.new (n := 6) A14 rfl
  refine own_st (T' := T14) (g' := (mkF m 4 #[.val (.long p0), .second, .val (.int p1), .val (.int p2), .val (.int p3), .val (.int p4), .val (.int p5), .unset, .unset, .unset, .unset, .unset, .unset, .unset, .unset] [(.ref t)])) st14 ?_
  refine own_st (T' := T14) (g' := (mkF m 6 #[.val (.long p0), .second, .val (.int p1), .val (.int p2), .val (.int p3), .val (.int p4), .val (.int p5), .val (.ref t), .unset, .unset, .unset, .unset, .unset, .unset, .unset] [])) (fun _ k => XS.astore X14.here hx rfl (hb hby at_4) rfl rfl (l' := #[.val (.long p0), .second, .val (.int p1), .val (.int p2), .val (.int p3), .val (.int p4), .val (.int p5), .val (.ref t), .unset, .unset, .unset, .unset, .unset, .unset, .unset]) rfl k) ?_
  refine own_st (T' := T14) (g' := (mkF m 8 #[.val (.long p0), .second, .val (.int p1), .val (.int p2), .val (.int p3), .val (.int p4), .val (.int p5), .val (.ref t), .unset, .unset, .unset, .unset, .unset, .unset, .unset] [(.ref t)])) (fun _ k => XS.aload X14.here hx rfl (hb hby at_6) rfl rfl k) ?_
  refine own_st (T' := T14) (g' := (mkF m 9 #[.val (.long p0), .second, .val (.int p1), .val (.int p2), .val (.int p3), .val (.int p4), .val (.int p5), .val (.ref t), .unset, .unset, .unset, .unset, .unset, .unset, .unset] [(.int (0 : Int32)), (.ref t)])) (fun _ k => XS.iconst X14.here hx rfl (hb hby at_8) k) ?_
  refine own_st (T' := T14) (g' := (mkF m 10 #[.val (.long p0), .second, .val (.int p1), .val (.int p2), .val (.int p3), .val (.int p4), .val (.int p5), .val (.ref t), .unset, .unset, .unset, .unset, .unset, .unset, .unset] [(.long p0), (.int (0 : Int32)), (.ref t)])) (fun _ k => XS.lloadN X14.here hx rfl (hb hby at_9) rfl k) ?_
  refine own_st (T' := T14) (g' := (mkF m 11 #[.val (.long p0), .second, .val (.int p1), .val (.int p2), .val (.int p3), .val (.int p4), .val (.int p5), .val (.ref t), .unset, .unset, .unset, .unset, .unset, .unset, .unset] [(.int (p0.toInt32)), (.int (0 : Int32)), (.ref t)])) (fun _ k => XS.l2i X14.here hx rfl (hb hby at_10) rfl k) ?_
  refine own_st (T' := T14) (g' := (mkF m 12 #[.val (.long p0), .second, .val (.int p1), .val (.int p2), .val (.int p3), .val (.int p4), .val (.int p5), .val (.ref t), .unset, .unset, .unset, .unset, .unset, .unset, .unset] [(.int ((p0.toInt32).toUInt32.toUInt16.toUInt32.toInt32)), (.int (0 : Int32)), (.ref t)])) (fun _ k => XS.i2c X14.here hx rfl (hb hby at_11) rfl k) ?_
  obtain ⟨T15, h15, X15, e15, W15, V15, st15⟩ := own_stC X14 hx hZ e14 V_t (i := 0) (by decide) (by decide) (g := (mkF m 12 #[.val (.long p0), .second, .val (.int p1), .val (.int p2), .val (.int p3), .val (.int p4), .val (.int p5), .val (.ref t), .unset, .unset, .unset, .unset, .unset, .unset, .unset] [(.int ((p0.toInt32).toUInt32.toUInt16.toUInt32.toInt32)), (.int (0 : Int32)), (.ref t)])) rfl rfl (hb hby at_12)
  have Z0'' := Nat.le_trans Z0' (Keep.of_wr W15).1
  have N0' := Fr.snoc X15 N0 ge_t
  have V_t := V15
  refine own_st (T' := T15) (g' := (mkF m 13 #[.val (.long p0), .second, .val (.int p1), .val (.int p2), .val (.int p3), .val (.int p4), .val (.int p5), .val (.ref t), .unset, .unset, .unset, .unset, .unset, .unset, .unset] [])) st15 ?_
  refine own_st (T' := T15) (g' := (mkF m 15 #[.val (.long p0), .second, .val (.int p1), .val (.int p2), .val (.int p3), .val (.int p4), .val (.int p5), .val (.ref t), .unset, .unset, .unset, .unset, .unset, .unset, .unset] [(.ref t)])) (fun _ k => XS.aload X15.here hx rfl (hb hby at_13) rfl rfl k) ?_
  refine own_st (T' := T15) (g' := (mkF m 16 #[.val (.long p0), .second, .val (.int p1), .val (.int p2), .val (.int p3), .val (.int p4), .val (.int p5), .val (.ref t), .unset, .unset, .unset, .unset, .unset, .unset, .unset] [(.int (1 : Int32)), (.ref t)])) (fun _ k => XS.iconst X15.here hx rfl (hb hby at_15) k) ?_
  refine own_st (T' := T15) (g' := (mkF m 17 #[.val (.long p0), .second, .val (.int p1), .val (.int p2), .val (.int p3), .val (.int p4), .val (.int p5), .val (.ref t), .unset, .unset, .unset, .unset, .unset, .unset, .unset] [(.long p0), (.int (1 : Int32)), (.ref t)])) (fun _ k => XS.lloadN X15.here hx rfl (hb hby at_16) rfl k) ?_
  refine own_st (T' := T15) (g' := (mkF m 19 #[.val (.long p0), .second, .val (.int p1), .val (.int p2), .val (.int p3), .val (.int p4), .val (.int p5), .val (.ref t), .unset, .unset, .unset, .unset, .unset, .unset, .unset] [(.int (16 : Int32)), (.long p0), (.int (1 : Int32)), (.ref t)])) (fun _ k => XS.bipush X15.here hx rfl (hb hby at_17) k) ?_
  refine own_st (T' := T15) (g' := (mkF m 20 #[.val (.long p0), .second, .val (.int p1), .val (.int p2), .val (.int p3), .val (.int p4), .val (.int p5), .val (.ref t), .unset, .unset, .unset, .unset, .unset, .unset, .unset] [(.long ((p0.toUInt64 >>> ((16 : Int32) &&& 0x3f).toInt64.toUInt64).toInt64)), (.int (1 : Int32)), (.ref t)])) (fun _ k => XS.lushr X15.here hx rfl (hb hby at_19) rfl k) ?_
  refine own_st (T' := T15) (g' := (mkF m 21 #[.val (.long p0), .second, .val (.int p1), .val (.int p2), .val (.int p3), .val (.int p4), .val (.int p5), .val (.ref t), .unset, .unset, .unset, .unset, .unset, .unset, .unset] [(.int (((p0.toUInt64 >>> ((16 : Int32) &&& 0x3f).toInt64.toUInt64).toInt64).toInt32)), (.int (1 : Int32)), (.ref t)])) (fun _ k => XS.l2i X15.here hx rfl (hb hby at_20) rfl k) ?_
  refine own_st (T' := T15) (g' := (mkF m 22 #[.val (.long p0), .second, .val (.int p1), .val (.int p2), .val (.int p3), .val (.int p4), .val (.int p5), .val (.ref t), .unset, .unset, .unset, .unset, .unset, .unset, .unset] [(.int ((((p0.toUInt64 >>> ((16 : Int32) &&& 0x3f).toInt64.toUInt64).toInt64).toInt32).toUInt32.toUInt16.toUInt32.toInt32)), (.int (1 : Int32)), (.ref t)])) (fun _ k => XS.i2c X15.here hx rfl (hb hby at_21) rfl k) ?_
  obtain ⟨T16, h16, X16, e16, W16, V16, st16⟩ := own_stC X15 hx hZ e15 V_t (i := 1) (by decide) (by decide) (g := (mkF m 22 #[.val (.long p0), .second, .val (.int p1), .val (.int p2), .val (.int p3), .val (.int p4), .val (.int p5), .val (.ref t), .unset, .unset, .unset, .unset, .unset, .unset, .unset] [(.int ((((p0.toUInt64 >>> ((16 : Int32) &&& 0x3f).toInt64.toUInt64).toInt64).toInt32).toUInt32.toUInt16.toUInt32.toInt32)), (.int (1 : Int32)), (.ref t)])) rfl rfl (hb hby at_22)
  have Z0''' := Nat.le_trans Z0'' (Keep.of_wr W16).1
  have N0'' := Fr.snoc X16 N0' ge_t
  have V_t := V16
  refine own_st (T' := T16) (g' := (mkF m 23 #[.val (.long p0), .second, .val (.int p1), .val (.int p2), .val (.int p3), .val (.int p4), .val (.int p5), .val (.ref t), .unset, .unset, .unset, .unset, .unset, .unset, .unset] [])) st16 ?_
  refine own_st (T' := T16) (g' := (mkF m 25 #[.val (.long p0), .second, .val (.int p1), .val (.int p2), .val (.int p3), .val (.int p4), .val (.int p5), .val (.ref t), .unset, .unset, .unset, .unset, .unset, .unset, .unset] [(.ref t)])) (fun _ k => XS.aload X16.here hx rfl (hb hby at_23) rfl rfl k) ?_
  refine own_st (T' := T16) (g' := (mkF m 26 #[.val (.long p0), .second, .val (.int p1), .val (.int p2), .val (.int p3), .val (.int p4), .val (.int p5), .val (.ref t), .unset, .unset, .unset, .unset, .unset, .unset, .unset] [(.int (2 : Int32)), (.ref t)])) (fun _ k => XS.iconst X16.here hx rfl (hb hby at_25) k) ?_
  refine own_st (T' := T16) (g' := (mkF m 27 #[.val (.long p0), .second, .val (.int p1), .val (.int p2), .val (.int p3), .val (.int p4), .val (.int p5), .val (.ref t), .unset, .unset, .unset, .unset, .unset, .unset, .unset] [(.long p0), (.int (2 : Int32)), (.ref t)])) (fun _ k => XS.lloadN X16.here hx rfl (hb hby at_26) rfl k) ?_
  refine own_st (T' := T16) (g' := (mkF m 29 #[.val (.long p0), .second, .val (.int p1), .val (.int p2), .val (.int p3), .val (.int p4), .val (.int p5), .val (.ref t), .unset, .unset, .unset, .unset, .unset, .unset, .unset] [(.int (32 : Int32)), (.long p0), (.int (2 : Int32)), (.ref t)])) (fun _ k => XS.bipush X16.here hx rfl (hb hby at_27) k) ?_
  refine own_st (T' := T16) (g' := (mkF m 30 #[.val (.long p0), .second, .val (.int p1), .val (.int p2), .val (.int p3), .val (.int p4), .val (.int p5), .val (.ref t), .unset, .unset, .unset, .unset, .unset, .unset, .unset] [(.long ((p0.toUInt64 >>> ((32 : Int32) &&& 0x3f).toInt64.toUInt64).toInt64)), (.int (2 : Int32)), (.ref t)])) (fun _ k => XS.lushr X16.here hx rfl (hb hby at_29) rfl k) ?_
  refine own_st (T' := T16) (g' := (mkF m 31 #[.val (.long p0), .second, .val (.int p1), .val (.int p2), .val (.int p3), .val (.int p4), .val (.int p5), .val (.ref t), .unset, .unset, .unset, .unset, .unset, .unset, .unset] [(.int (((p0.toUInt64 >>> ((32 : Int32) &&& 0x3f).toInt64.toUInt64).toInt64).toInt32)), (.int (2 : Int32)), (.ref t)])) (fun _ k => XS.l2i X16.here hx rfl (hb hby at_30) rfl k) ?_
  refine own_st (T' := T16) (g' := (mkF m 32 #[.val (.long p0), .second, .val (.int p1), .val (.int p2), .val (.int p3), .val (.int p4), .val (.int p5), .val (.ref t), .unset, .unset, .unset, .unset, .unset, .unset, .unset] [(.int ((((p0.toUInt64 >>> ((32 : Int32) &&& 0x3f).toInt64.toUInt64).toInt64).toInt32).toUInt32.toUInt16.toUInt32.toInt32)), (.int (2 : Int32)), (.ref t)])) (fun _ k => XS.i2c X16.here hx rfl (hb hby at_31) rfl k) ?_
  obtain ⟨T17, h17, X17, e17, W17, V17, st17⟩ := own_stC X16 hx hZ e16 V_t (i := 2) (by decide) (by decide) (g := (mkF m 32 #[.val (.long p0), .second, .val (.int p1), .val (.int p2), .val (.int p3), .val (.int p4), .val (.int p5), .val (.ref t), .unset, .unset, .unset, .unset, .unset, .unset, .unset] [(.int ((((p0.toUInt64 >>> ((32 : Int32) &&& 0x3f).toInt64.toUInt64).toInt64).toInt32).toUInt32.toUInt16.toUInt32.toInt32)), (.int (2 : Int32)), (.ref t)])) rfl rfl (hb hby at_32)
  have Z0'''' := Nat.le_trans Z0''' (Keep.of_wr W17).1
  have N0''' := Fr.snoc X17 N0'' ge_t
  have V_t := V17
  refine own_st (T' := T17) (g' := (mkF m 33 #[.val (.long p0), .second, .val (.int p1), .val (.int p2), .val (.int p3), .val (.int p4), .val (.int p5), .val (.ref t), .unset, .unset, .unset, .unset, .unset, .unset, .unset] [])) st17 ?_
  refine own_st (T' := T17) (g' := (mkF m 35 #[.val (.long p0), .second, .val (.int p1), .val (.int p2), .val (.int p3), .val (.int p4), .val (.int p5), .val (.ref t), .unset, .unset, .unset, .unset, .unset, .unset, .unset] [(.ref t)])) (fun _ k => XS.aload X17.here hx rfl (hb hby at_33) rfl rfl k) ?_
  refine own_st (T' := T17) (g' := (mkF m 36 #[.val (.long p0), .second, .val (.int p1), .val (.int p2), .val (.int p3), .val (.int p4), .val (.int p5), .val (.ref t), .unset, .unset, .unset, .unset, .unset, .unset, .unset] [(.int (3 : Int32)), (.ref t)])) (fun _ k => XS.iconst X17.here hx rfl (hb hby at_35) k) ?_
  refine own_st (T' := T17) (g' := (mkF m 37 #[.val (.long p0), .second, .val (.int p1), .val (.int p2), .val (.int p3), .val (.int p4), .val (.int p5), .val (.ref t), .unset, .unset, .unset, .unset, .unset, .unset, .unset] [(.long p0), (.int (3 : Int32)), (.ref t)])) (fun _ k => XS.lloadN X17.here hx rfl (hb hby at_36) rfl k) ?_
  refine own_st (T' := T17) (g' := (mkF m 39 #[.val (.long p0), .second, .val (.int p1), .val (.int p2), .val (.int p3), .val (.int p4), .val (.int p5), .val (.ref t), .unset, .unset, .unset, .unset, .unset, .unset, .unset] [(.int (48 : Int32)), (.long p0), (.int (3 : Int32)), (.ref t)])) (fun _ k => XS.bipush X17.here hx rfl (hb hby at_37) k) ?_
  refine own_st (T' := T17) (g' := (mkF m 40 #[.val (.long p0), .second, .val (.int p1), .val (.int p2), .val (.int p3), .val (.int p4), .val (.int p5), .val (.ref t), .unset, .unset, .unset, .unset, .unset, .unset, .unset] [(.long ((p0.toUInt64 >>> ((48 : Int32) &&& 0x3f).toInt64.toUInt64).toInt64)), (.int (3 : Int32)), (.ref t)])) (fun _ k => XS.lushr X17.here hx rfl (hb hby at_39) rfl k) ?_
  refine own_st (T' := T17) (g' := (mkF m 41 #[.val (.long p0), .second, .val (.int p1), .val (.int p2), .val (.int p3), .val (.int p4), .val (.int p5), .val (.ref t), .unset, .unset, .unset, .unset, .unset, .unset, .unset] [(.int (((p0.toUInt64 >>> ((48 : Int32) &&& 0x3f).toInt64.toUInt64).toInt64).toInt32)), (.int (3 : Int32)), (.ref t)])) (fun _ k => XS.l2i X17.here hx rfl (hb hby at_40) rfl k) ?_
  refine own_st (T' := T17) (g' := (mkF m 42 #[.val (.long p0), .second, .val (.int p1), .val (.int p2), .val (.int p3), .val (.int p4), .val (.int p5), .val (.ref t), .unset, .unset, .unset, .unset, .unset, .unset, .unset] [(.int ((((p0.toUInt64 >>> ((48 : Int32) &&& 0x3f).toInt64.toUInt64).toInt64).toInt32).toUInt32.toUInt16.toUInt32.toInt32)), (.int (3 : Int32)), (.ref t)])) (fun _ k => XS.i2c X17.here hx rfl (hb hby at_41) rfl k) ?_
  obtain ⟨T18, h18, X18, e18, W18, V18, st18⟩ := own_stC X17 hx hZ e17 V_t (i := 3) (by decide) (by decide) (g := (mkF m 42 #[.val (.long p0), .second, .val (.int p1), .val (.int p2), .val (.int p3), .val (.int p4), .val (.int p5), .val (.ref t), .unset, .unset, .unset, .unset, .unset, .unset, .unset] [(.int ((((p0.toUInt64 >>> ((48 : Int32) &&& 0x3f).toInt64.toUInt64).toInt64).toInt32).toUInt32.toUInt16.toUInt32.toInt32)), (.int (3 : Int32)), (.ref t)])) rfl rfl (hb hby at_42)
  have Z0''''' := Nat.le_trans Z0'''' (Keep.of_wr W18).1
  have N0'''' := Fr.snoc X18 N0''' ge_t
  have V_t := V18
  refine own_st (T' := T18) (g' := (mkF m 43 #[.val (.long p0), .second, .val (.int p1), .val (.int p2), .val (.int p3), .val (.int p4), .val (.int p5), .val (.ref t), .unset, .unset, .unset, .unset, .unset, .unset, .unset] [])) st18 ?_
  refine own_st (T' := T18) (g' := (mkF m 45 #[.val (.long p0), .second, .val (.int p1), .val (.int p2), .val (.int p3), .val (.int p4), .val (.int p5), .val (.ref t), .unset, .unset, .unset, .unset, .unset, .unset, .unset] [(.ref t)])) (fun _ k => XS.aload X18.here hx rfl (hb hby at_43) rfl rfl k) ?_
  refine own_st (T' := T18) (g' := (mkF m 46 #[.val (.long p0), .second, .val (.int p1), .val (.int p2), .val (.int p3), .val (.int p4), .val (.int p5), .val (.ref t), .unset, .unset, .unset, .unset, .unset, .unset, .unset] [(.int (4 : Int32)), (.ref t)])) (fun _ k => XS.iconst X18.here hx rfl (hb hby at_45) k) ?_
  refine own_st (T' := T18) (g' := (mkF m 47 #[.val (.long p0), .second, .val (.int p1), .val (.int p2), .val (.int p3), .val (.int p4), .val (.int p5), .val (.ref t), .unset, .unset, .unset, .unset, .unset, .unset, .unset] [(.int p1), (.int (4 : Int32)), (.ref t)])) (fun _ k => XS.iloadN X18.here hx rfl (hb hby at_46) rfl k) ?_
  refine own_st (T' := T18) (g' := (mkF m 48 #[.val (.long p0), .second, .val (.int p1), .val (.int p2), .val (.int p3), .val (.int p4), .val (.int p5), .val (.ref t), .unset, .unset, .unset, .unset, .unset, .unset, .unset] [(.int (p1.toUInt32.toUInt16.toUInt32.toInt32)), (.int (4 : Int32)), (.ref t)])) (fun _ k => XS.i2c X18.here hx rfl (hb hby at_47) rfl k) ?_
  obtain ⟨T19, h19, X19, e19, W19, V19, st19⟩ := own_stC X18 hx hZ e18 V_t (i := 4) (by decide) (by decide) (g := (mkF m 48 #[.val (.long p0), .second, .val (.int p1), .val (.int p2), .val (.int p3), .val (.int p4), .val (.int p5), .val (.ref t), .unset, .unset, .unset, .unset, .unset, .unset, .unset] [(.int (p1.toUInt32.toUInt16.toUInt32.toInt32)), (.int (4 : Int32)), (.ref t)])) rfl rfl (hb hby at_48)
  have Z0'''''' := Nat.le_trans Z0''''' (Keep.of_wr W19).1
  have N0''''' := Fr.snoc X19 N0'''' ge_t
  have V_t := V19
  refine own_st (T' := T19) (g' := (mkF m 49 #[.val (.long p0), .second, .val (.int p1), .val (.int p2), .val (.int p3), .val (.int p4), .val (.int p5), .val (.ref t), .unset, .unset, .unset, .unset, .unset, .unset, .unset] [])) st19 ?_
  refine own_st (T' := T19) (g' := (mkF m 51 #[.val (.long p0), .second, .val (.int p1), .val (.int p2), .val (.int p3), .val (.int p4), .val (.int p5), .val (.ref t), .unset, .unset, .unset, .unset, .unset, .unset, .unset] [(.ref t)])) (fun _ k => XS.aload X19.here hx rfl (hb hby at_49) rfl rfl k) ?_
  refine own_st (T' := T19) (g' := (mkF m 52 #[.val (.long p0), .second, .val (.int p1), .val (.int p2), .val (.int p3), .val (.int p4), .val (.int p5), .val (.ref t), .unset, .unset, .unset, .unset, .unset, .unset, .unset] [(.int (5 : Int32)), (.ref t)])) (fun _ k => XS.iconst X19.here hx rfl (hb hby at_51) k) ?_
  refine own_st (T' := T19) (g' := (mkF m 53 #[.val (.long p0), .second, .val (.int p1), .val (.int p2), .val (.int p3), .val (.int p4), .val (.int p5), .val (.ref t), .unset, .unset, .unset, .unset, .unset, .unset, .unset] [(.int p1), (.int (5 : Int32)), (.ref t)])) (fun _ k => XS.iloadN X19.here hx rfl (hb hby at_52) rfl k) ?_
  refine own_st (T' := T19) (g' := (mkF m 55 #[.val (.long p0), .second, .val (.int p1), .val (.int p2), .val (.int p3), .val (.int p4), .val (.int p5), .val (.ref t), .unset, .unset, .unset, .unset, .unset, .unset, .unset] [(.int (16 : Int32)), (.int p1), (.int (5 : Int32)), (.ref t)])) (fun _ k => XS.bipush X19.here hx rfl (hb hby at_53) k) ?_
  refine own_st (T' := T19) (g' := (mkF m 56 #[.val (.long p0), .second, .val (.int p1), .val (.int p2), .val (.int p3), .val (.int p4), .val (.int p5), .val (.ref t), .unset, .unset, .unset, .unset, .unset, .unset, .unset] [(.int ((p1.toUInt32 >>> ((16 : Int32) &&& 31).toUInt32).toInt32)), (.int (5 : Int32)), (.ref t)])) (fun _ k => XS.iushr X19.here hx rfl (hb hby at_55) rfl k) ?_
  refine own_st (T' := T19) (g' := (mkF m 57 #[.val (.long p0), .second, .val (.int p1), .val (.int p2), .val (.int p3), .val (.int p4), .val (.int p5), .val (.ref t), .unset, .unset, .unset, .unset, .unset, .unset, .unset] [(.int (((p1.toUInt32 >>> ((16 : Int32) &&& 31).toUInt32).toInt32).toUInt32.toUInt16.toUInt32.toInt32)), (.int (5 : Int32)), (.ref t)])) (fun _ k => XS.i2c X19.here hx rfl (hb hby at_56) rfl k) ?_
  obtain ⟨T20, h20, X20, e20, W20, V20, st20⟩ := own_stC X19 hx hZ e19 V_t (i := 5) (by decide) (by decide) (g := (mkF m 57 #[.val (.long p0), .second, .val (.int p1), .val (.int p2), .val (.int p3), .val (.int p4), .val (.int p5), .val (.ref t), .unset, .unset, .unset, .unset, .unset, .unset, .unset] [(.int (((p1.toUInt32 >>> ((16 : Int32) &&& 31).toUInt32).toInt32).toUInt32.toUInt16.toUInt32.toInt32)), (.int (5 : Int32)), (.ref t)])) rfl rfl (hb hby at_57)
  have Z0''''''' := Nat.le_trans Z0'''''' (Keep.of_wr W20).1
  have N0'''''' := Fr.snoc X20 N0''''' ge_t
  have V_t := V20
  refine own_st (T' := T20) (g' := (mkF m 58 #[.val (.long p0), .second, .val (.int p1), .val (.int p2), .val (.int p3), .val (.int p4), .val (.int p5), .val (.ref t), .unset, .unset, .unset, .unset, .unset, .unset, .unset] [])) st20 ?_
  refine own_st (T' := T20) (g' := (mkF m 59 #[.val (.long p0), .second, .val (.int p1), .val (.int p2), .val (.int p3), .val (.int p4), .val (.int p5), .val (.ref t), .unset, .unset, .unset, .unset, .unset, .unset, .unset] [(.int p2)])) (fun _ k => XS.iloadN X20.here hx rfl (hb hby at_58) rfl k) ?_
  refine own_st (T' := T20) (g' := (mkF m 61 #[.val (.long p0), .second, .val (.int p1), .val (.int p2), .val (.int p3), .val (.int p4), .val (.int p5), .val (.ref t), .unset, .unset, .unset, .unset, .unset, .unset, .unset] [(.int (2147483647 : Int32)), (.int p2)])) (X20.ldcInt hx hown (mvT hZ (hw _ (List.mem_of_getElem? (i := 1) rfl))) (g := (mkF m 59 #[.val (.long p0), .second, .val (.int p1), .val (.int p2), .val (.int p3), .val (.int p4), .val (.int p5), .val (.ref t), .unset, .unset, .unset, .unset, .unset, .unset, .unset] [(.int p2)])) rfl (hb hby at_59)) ?_
  refine own_st (T' := T20) (g' := (mkF m 62 #[.val (.long p0), .second, .val (.int p1), .val (.int p2), .val (.int p3), .val (.int p4), .val (.int p5), .val (.ref t), .unset, .unset, .unset, .unset, .unset, .unset, .unset] [(.int (p2 &&& (2147483647 : Int32)))])) (fun _ k => XS.iand X20.here hx rfl (hb hby at_61) rfl k) ?_
  refine own_st (T' := T20) (g' := (mkF m 64 #[.val (.long p0), .second, .val (.int p1), .val (.int p2), .val (.int p3), .val (.int p4), .val (.int p5), .val (.ref t), .unset, .unset, .unset, .unset, .unset, .unset, .unset] [(.int (6 : Int32)), (.int (p2 &&& (2147483647 : Int32)))])) (fun _ k => XS.bipush X20.here hx rfl (hb hby at_62) k) ?_
  obtain ⟨f, V_t, hf⟩ : ∃ f, own_Av Z h20 t k14 .char 6 f ∧ ∀ q, q < 6 → ∃ z, f q = .int z ∧ nar .char z = z := by
    refine ⟨_, V_t, fun q hq => ?_⟩
    rcases (by omega : q = 0 ∨ q = 1 ∨ q = 2 ∨ q = 3 ∨ q = 4 ∨ q = 5) with rfl | rfl | rfl | rfl | rfl | rfl <;> exact ⟨_, rfl, own_narc _⟩
  refine own_st (T' := T20) (g' := (mkF m 65 #[.val (.long p0), .second, .val (.int p1), .val (.int p2), .val (.int p3), .val (.int p4), .val (.int p5), .val (.ref t), .unset, .unset, .unset, .unset, .unset, .unset, .unset] [(.int ((p2 &&& (2147483647 : Int32)) % (6 : Int32)))])) (fun _ k => iremM X20 hx rfl (hb hby at_64) rfl (by decide) k) ?_
  refine own_st (T' := T20) (g' := (mkF m 67 #[.val (.long p0), .second, .val (.int p1), .val (.int p2), .val (.int p3), .val (.int p4), .val (.int p5), .val (.ref t), .val (.int ((p2 &&& (2147483647 : Int32)) % (6 : Int32))), .unset, .unset, .unset, .unset, .unset, .unset] [])) (fun _ k => XS.istore X20.here hx rfl (hb hby at_65) rfl (l' := #[.val (.long p0), .second, .val (.int p1), .val (.int p2), .val (.int p3), .val (.int p4), .val (.int p5), .val (.ref t), .val (.int ((p2 &&& (2147483647 : Int32)) % (6 : Int32))), .unset, .unset, .unset, .unset, .unset, .unset]) rfl k) ?_
  have J67 : ∀ (o : Int32) (ho : 0 ≤ o.toInt ∧ o.toInt < 6), own_Go p e below s (own_law_Q Z p0 p1 p2 p3 p4 p5 h0 n0) 16 128 T20 (mkF m 67 #[.val (.long p0), .second, .val (.int p1), .val (.int p2), .val (.int p3), .val (.int p4), .val (.int p5), .val (.ref t), .val (.int o), .unset, .unset, .unset, .unset, .unset, .unset] []) := by
    intro o ho
    have h6 : ((6 : Int32) - o).toInt = 6 - o.toInt := Jvm.Free.XT.sub32 ⟨by have : (6 : Int32).toInt = 6 := rfl; omega, by have : (6 : Int32).toInt = 6 := rfl; omega⟩
    refine own_st (T' := T20) (g' := (mkF m 68 #[.val (.long p0), .second, .val (.int p1), .val (.int p2), .val (.int p3), .val (.int p4), .val (.int p5), .val (.ref t), .val (.int o), .unset, .unset, .unset, .unset, .unset, .unset] [(.int (1 : Int32))])) (fun _ k => XS.iconst X20.here hx rfl (hb hby at_67) k) ?_
    refine own_st (T' := T20) (g' := (mkF m 70 #[.val (.long p0), .second, .val (.int p1), .val (.int p2), .val (.int p3), .val (.int p4), .val (.int p5), .val (.ref t), .val (.int o), .unset, .unset, .unset, .unset, .unset, .unset] [(.int p3), (.int (1 : Int32))])) (fun _ k => XS.iload X20.here hx rfl (hb hby at_68) rfl k) ?_
    refine own_st (T' := T20) (g' := (mkF m 72 #[.val (.long p0), .second, .val (.int p1), .val (.int p2), .val (.int p3), .val (.int p4), .val (.int p5), .val (.ref t), .val (.int o), .unset, .unset, .unset, .unset, .unset, .unset] [(.int (2147483647 : Int32)), (.int p3), (.int (1 : Int32))])) (X20.ldcInt hx hown (mvT hZ (hw _ (List.mem_of_getElem? (i := 1) rfl))) (g := (mkF m 70 #[.val (.long p0), .second, .val (.int p1), .val (.int p2), .val (.int p3), .val (.int p4), .val (.int p5), .val (.ref t), .val (.int o), .unset, .unset, .unset, .unset, .unset, .unset] [(.int p3), (.int (1 : Int32))])) rfl (hb hby at_70)) ?_
    refine own_st (T' := T20) (g' := (mkF m 73 #[.val (.long p0), .second, .val (.int p1), .val (.int p2), .val (.int p3), .val (.int p4), .val (.int p5), .val (.ref t), .val (.int o), .unset, .unset, .unset, .unset, .unset, .unset] [(.int (p3 &&& (2147483647 : Int32))), (.int (1 : Int32))])) (fun _ k => XS.iand X20.here hx rfl (hb hby at_72) rfl k) ?_
    refine own_st (T' := T20) (g' := (mkF m 75 #[.val (.long p0), .second, .val (.int p1), .val (.int p2), .val (.int p3), .val (.int p4), .val (.int p5), .val (.ref t), .val (.int o), .unset, .unset, .unset, .unset, .unset, .unset] [(.int (6 : Int32)), (.int (p3 &&& (2147483647 : Int32))), (.int (1 : Int32))])) (fun _ k => XS.bipush X20.here hx rfl (hb hby at_73) k) ?_
    refine own_st (T' := T20) (g' := (mkF m 77 #[.val (.long p0), .second, .val (.int p1), .val (.int p2), .val (.int p3), .val (.int p4), .val (.int p5), .val (.ref t), .val (.int o), .unset, .unset, .unset, .unset, .unset, .unset] [(.int o), (.int (6 : Int32)), (.int (p3 &&& (2147483647 : Int32))), (.int (1 : Int32))])) (fun _ k => XS.iload X20.here hx rfl (hb hby at_75) rfl k) ?_
    refine own_st (T' := T20) (g' := (mkF m 78 #[.val (.long p0), .second, .val (.int p1), .val (.int p2), .val (.int p3), .val (.int p4), .val (.int p5), .val (.ref t), .val (.int o), .unset, .unset, .unset, .unset, .unset, .unset] [(.int ((6 : Int32) - o)), (.int (p3 &&& (2147483647 : Int32))), (.int (1 : Int32))])) (fun _ k => XS.isub X20.here hx rfl (hb hby at_77) rfl k) ?_
    refine own_st (T' := T20) (g' := (mkF m 79 #[.val (.long p0), .second, .val (.int p1), .val (.int p2), .val (.int p3), .val (.int p4), .val (.int p5), .val (.ref t), .val (.int o), .unset, .unset, .unset, .unset, .unset, .unset] [(.int ((p3 &&& (2147483647 : Int32)) % ((6 : Int32) - o))), (.int (1 : Int32))])) (fun _ k => iremM X20 hx rfl (hb hby at_78) rfl (fun q => by rw [q] at h6; have : (0 : Int32).toInt = 0 := rfl; omega) k) ?_
    refine own_st (T' := T20) (g' := (mkF m 80 #[.val (.long p0), .second, .val (.int p1), .val (.int p2), .val (.int p3), .val (.int p4), .val (.int p5), .val (.ref t), .val (.int o), .unset, .unset, .unset, .unset, .unset, .unset] [(.int ((1 : Int32) + ((p3 &&& (2147483647 : Int32)) % ((6 : Int32) - o))))])) (fun _ k => XS.iadd X20.here hx rfl (hb hby at_79) rfl k) ?_
    refine own_st (T' := T20) (g' := (mkF m 82 #[.val (.long p0), .second, .val (.int p1), .val (.int p2), .val (.int p3), .val (.int p4), .val (.int p5), .val (.ref t), .val (.int o), .val (.int ((1 : Int32) + ((p3 &&& (2147483647 : Int32)) % ((6 : Int32) - o)))), .unset, .unset, .unset, .unset, .unset] [])) (fun _ k => XS.istore X20.here hx rfl (hb hby at_80) rfl (l' := #[.val (.long p0), .second, .val (.int p1), .val (.int p2), .val (.int p3), .val (.int p4), .val (.int p5), .val (.ref t), .val (.int o), .val (.int ((1 : Int32) + ((p3 &&& (2147483647 : Int32)) % ((6 : Int32) - o)))), .unset, .unset, .unset, .unset, .unset]) rfl k) ?_
    have J82 : ∀ (z : Int32) (hz : 1 ≤ z.toInt ∧ z.toInt + o.toInt ≤ 6), own_Go p e below s (own_law_Q Z p0 p1 p2 p3 p4 p5 h0 n0) 16 128 T20 (mkF m 82 #[.val (.long p0), .second, .val (.int p1), .val (.int p2), .val (.int p3), .val (.int p4), .val (.int p5), .val (.ref t), .val (.int o), .val (.int z), .unset, .unset, .unset, .unset, .unset] []) := by
      intro z hz
      refine own_st (T' := T20) (g' := (mkF m 84 #[.val (.long p0), .second, .val (.int p1), .val (.int p2), .val (.int p3), .val (.int p4), .val (.int p5), .val (.ref t), .val (.int o), .val (.int z), .unset, .unset, .unset, .unset, .unset] [(.int p4)])) (fun _ k => XS.iload X20.here hx rfl (hb hby at_82) rfl k) ?_
      refine own_st (T' := T20) (g' := (mkF m 86 #[.val (.long p0), .second, .val (.int p1), .val (.int p2), .val (.int p3), .val (.int p4), .val (.int p5), .val (.ref t), .val (.int o), .val (.int z), .unset, .unset, .unset, .unset, .unset] [(.int (2147483647 : Int32)), (.int p4)])) (X20.ldcInt hx hown (mvT hZ (hw _ (List.mem_of_getElem? (i := 1) rfl))) (g := (mkF m 84 #[.val (.long p0), .second, .val (.int p1), .val (.int p2), .val (.int p3), .val (.int p4), .val (.int p5), .val (.ref t), .val (.int o), .val (.int z), .unset, .unset, .unset, .unset, .unset] [(.int p4)])) rfl (hb hby at_84)) ?_
      refine own_st (T' := T20) (g' := (mkF m 87 #[.val (.long p0), .second, .val (.int p1), .val (.int p2), .val (.int p3), .val (.int p4), .val (.int p5), .val (.ref t), .val (.int o), .val (.int z), .unset, .unset, .unset, .unset, .unset] [(.int (p4 &&& (2147483647 : Int32)))])) (fun _ k => XS.iand X20.here hx rfl (hb hby at_86) rfl k) ?_
      refine own_st (T' := T20) (g' := (mkF m 89 #[.val (.long p0), .second, .val (.int p1), .val (.int p2), .val (.int p3), .val (.int p4), .val (.int p5), .val (.ref t), .val (.int o), .val (.int z), .unset, .unset, .unset, .unset, .unset] [(.int z), (.int (p4 &&& (2147483647 : Int32)))])) (fun _ k => XS.iload X20.here hx rfl (hb hby at_87) rfl k) ?_
      refine own_st (T' := T20) (g' := (mkF m 90 #[.val (.long p0), .second, .val (.int p1), .val (.int p2), .val (.int p3), .val (.int p4), .val (.int p5), .val (.ref t), .val (.int o), .val (.int z), .unset, .unset, .unset, .unset, .unset] [(.int ((p4 &&& (2147483647 : Int32)) % z))])) (fun _ k => iremM X20 hx rfl (hb hby at_89) rfl (fun q => by rw [q] at hz; have : (0 : Int32).toInt = 0 := rfl; omega) k) ?_
      refine own_st (T' := T20) (g' := (mkF m 92 #[.val (.long p0), .second, .val (.int p1), .val (.int p2), .val (.int p3), .val (.int p4), .val (.int p5), .val (.ref t), .val (.int o), .val (.int z), .val (.int ((p4 &&& (2147483647 : Int32)) % z)), .unset, .unset, .unset, .unset] [])) (fun _ k => XS.istore X20.here hx rfl (hb hby at_90) rfl (l' := #[.val (.long p0), .second, .val (.int p1), .val (.int p2), .val (.int p3), .val (.int p4), .val (.int p5), .val (.ref t), .val (.int o), .val (.int z), .val (.int ((p4 &&& (2147483647 : Int32)) % z)), .unset, .unset, .unset, .unset]) rfl k) ?_
      have J92 : ∀ (j : Int32) (hjb : 0 ≤ j.toInt ∧ j.toInt < z.toInt), own_Go p e below s (own_law_Q Z p0 p1 p2 p3 p4 p5 h0 n0) 16 128 T20 (mkF m 92 #[.val (.long p0), .second, .val (.int p1), .val (.int p2), .val (.int p3), .val (.int p4), .val (.int p5), .val (.ref t), .val (.int o), .val (.int z), .val (.int j), .unset, .unset, .unset, .unset] []) := by
        intro j hjb
        obtain ⟨T21, h21, X21, e21, E21, A21, D21, -, st21⟩ := newO X20 hx hZ hown (hw _ (List.mem_of_getElem? (i := 2) rfl)) (hw _ (List.mem_of_getElem? (i := 3) rfl)) (hw _ (List.mem_of_getElem? (i := 4) rfl)) e20 (g := (mkF m 92 #[.val (.long p0), .second, .val (.int p1), .val (.int p2), .val (.int p3), .val (.int p4), .val (.int p5), .val (.ref t), .val (.int o), .val (.int z), .val (.int j), .unset, .unset, .unset, .unset] [])) rfl (hb hby at_92) (by decide) (by decide)
        obtain ⟨u, gu⟩ : ∃ z, z = h20.size := ⟨_, rfl⟩
        rw [← gu] at A21 D21 st21
        have ne_t_u : t ≠ u := own_ne V_t.lt gu
        have ge_u : n0 ≤ u := own_ge Z0''''''' gu
        have V_t := V_t.ext E21
        have Z0'''''''' := Nat.le_trans Z0''''''' E21.1
        have E_u := A21
        have F_chars_u : Fld Z h21 u "com/example/reckoner/reckoner/io/CharSlice" "chars" "[C" .null := D21 (Or.inl (hw _ (List.mem_of_getElem? (i := 12) rfl))) (ty := (.array .char)) (by decide)
        have F_start_u : Fld Z h21 u "com/example/reckoner/reckoner/io/CharSlice" "start" "I" (.int (0 : Int32)) := D21 (Or.inl (hw _ (List.mem_of_getElem? (i := 27) rfl))) (ty := .int) (by decide)
        have F_length_u : Fld Z h21 u "com/example/reckoner/reckoner/io/CharSlice" "length" "I" (.int (0 : Int32)) := D21 (Or.inl (hw _ (List.mem_of_getElem? (i := 29) rfl))) (ty := .int) (by decide)
        refine own_st (T' := T21) (g' := (mkF m 95 #[.val (.long p0), .second, .val (.int p1), .val (.int p2), .val (.int p3), .val (.int p4), .val (.int p5), .val (.ref t), .val (.int o), .val (.int z), .val (.int j), .unset, .unset, .unset, .unset] [(.ref u)])) st21 ?_
        refine own_st (T' := T21) (g' := (mkF m 96 #[.val (.long p0), .second, .val (.int p1), .val (.int p2), .val (.int p3), .val (.int p4), .val (.int p5), .val (.ref t), .val (.int o), .val (.int z), .val (.int j), .unset, .unset, .unset, .unset] [(.ref u), (.ref u)])) (fun _ k => XS.dup X21.here hx rfl (hb hby at_95) rfl rfl k) ?_
        obtain ⟨_, _, ⟨T22, L22, k22, n22⟩, -, X22, ⟨Lc22, hQ22, l22, y22, z22⟩, st22⟩ := X21.specialBack hx (y := (⟨"com/example/reckoner/reckoner/io/CharSlice", "<init>", "()V"⟩ : MethodName)) rfl hown (mvT hZ (hw _ (List.mem_of_getElem? (i := 5) rfl))) (mvT hZ (hw _ (List.mem_of_getElem? (i := 6) rfl))) (mvT hZ (hw _ (List.mem_of_getElem? (i := 7) rfl))) (by decide) (backOf (W := 1) (own_ini l Z a0 hw [] u h21 n0 Z0'''''''' F_chars_u F_start_u F_length_u E_u ge_u) hZ (hw _ (List.mem_of_getElem? (i := 7) rfl)) (hw _ (List.mem_of_getElem? (i := 4) rfl)) (by decide) (by decide)) (g := (mkF m 96 #[.val (.long p0), .second, .val (.int p1), .val (.int p2), .val (.int p3), .val (.int p4), .val (.int p5), .val (.ref t), .val (.int o), .val (.int z), .val (.int j), .unset, .unset, .unset, .unset] [(.ref u), (.ref u)])) rfl (by rw [hml]; rfl) (Steps.refl _) (a := u) (argsL := []) (rest := [(.ref u)]) (lenOf own_pd4 rfl) rfl (by show 2 * 0 + _ ≤ _; exact Nat.le_of_eq rfl) (hb hby at_96) (fun _ _ => ⟨rfl, e21, (by decide : ((0 + 1) + 1) + 1 ≤ _), (by decide : ((0 + 6) + 3) + 0 ≤ _)⟩)
        dsimp only [Pt.U, Pt.locs, Pt.cells, Pt.slots] at X22 l22 y22 z22 st22 hQ22
        subst l22 y22 z22
        obtain ⟨rfl, N22q, K22, -, ⟨r, Fc⟩, Fs, Fl⟩ := hQ22
        have N0''''''' := Fr.app N0'''''' N22q
        have V_t := V_t.keep K22 (ninS ne_t_u nin0)
        have E_u := E_u.keep K22
        have Z0''''''''' := Nat.le_trans Z0'''''''' K22.1
        refine own_tr (T' := T22) (g' := (mkF m 99 #[.val (.long p0), .second, .val (.int p1), .val (.int p2), .val (.int p3), .val (.int p4), .val (.int p5), .val (.ref t), .val (.int o), .val (.int z), .val (.int j), .unset, .unset, .unset, .unset] [(.ref u)])) st22 ?_
        refine own_st (T' := T22) (g' := (mkF m 101 #[.val (.long p0), .second, .val (.int p1), .val (.int p2), .val (.int p3), .val (.int p4), .val (.int p5), .val (.ref t), .val (.int o), .val (.int z), .val (.int j), .unset, .unset, .unset, .unset] [(.ref t), (.ref u)])) (fun _ k => XS.aload X22.here hx rfl (hb hby at_99) rfl rfl k) ?_
        refine own_st (T' := T22) (g' := (mkF m 103 #[.val (.long p0), .second, .val (.int p1), .val (.int p2), .val (.int p3), .val (.int p4), .val (.int p5), .val (.ref t), .val (.int o), .val (.int z), .val (.int j), .unset, .unset, .unset, .unset] [(.int o), (.ref t), (.ref u)])) (fun _ k => XS.iload X22.here hx rfl (hb hby at_101) rfl k) ?_
        refine own_st (T' := T22) (g' := (mkF m 105 #[.val (.long p0), .second, .val (.int p1), .val (.int p2), .val (.int p3), .val (.int p4), .val (.int p5), .val (.ref t), .val (.int o), .val (.int z), .val (.int j), .unset, .unset, .unset, .unset] [(.int z), (.int o), (.ref t), (.ref u)])) (fun _ k => XS.iload X22.here hx rfl (hb hby at_103) rfl k) ?_
        have hb0 : (0 : Int32).toInt = 0 := rfl
        have hb6 : (6 : Int32).toInt = 6 := rfl
        have hq1 : ¬ (((6 : Int32) ||| o) ||| z) < (0 : Int32) := by
          have g1 := (c_orS (6 : Int32) o).1 (by omega) (by omega)
          have g2 := (c_orS ((6 : Int32) ||| o) z).1 g1 (by omega)
          exact own_lt0 g2
        have hq2 : ¬ ((6 : Int32) - o) < z := by rw [Int32.lt_iff_toInt_lt]; omega
        obtain ⟨cq23, kq23, q23a, q23b, q23c⟩ := isOf hZ rfl E_u
        obtain ⟨_, _, ⟨T23, L23, k23, n23⟩, -, X23, ⟨Lc23, hQ23, l23, y23, z23⟩, st23⟩ := X22.virtualBack hx (y := (⟨"com/example/reckoner/reckoner/io/CharSlice", "of", "([CII)Lcom/example/reckoner/reckoner/io/CharSlice;"⟩ : MethodName)) (z := (⟨"com/example/reckoner/reckoner/io/CharSlice", "of", "([CII)Lcom/example/reckoner/reckoner/io/CharSlice;"⟩ : MethodName)) hown (mvT hZ (hw _ (List.mem_of_getElem? (i := 13) rfl))) (mvT hZ (hw _ (List.mem_of_getElem? (i := 14) rfl))) (notFace_of_selects (args := #[]) (mvT hZ (hw _ (List.mem_of_getElem? (i := 16) rfl)))) (mvT hZ (hw _ (List.mem_of_getElem? (i := 16) rfl))) (mvT hZ (hw _ (List.mem_of_getElem? (i := 15) rfl))) (by decide) (backOf (W := 0) (own_of l Z a0 hw [] u t o z r k14 f T22.heap n0 Z0''''''''' Fc Fs Fl E_u ge_u ne_t_u V_t hq1 hq2) hZ (hw _ (List.mem_of_getElem? (i := 17) rfl)) (hw _ (List.mem_of_getElem? (i := 4) rfl)) (by decide) (by decide)) q23a q23c (g := (mkF m 105 #[.val (.long p0), .second, .val (.int p1), .val (.int p2), .val (.int p3), .val (.int p4), .val (.int p5), .val (.ref t), .val (.int o), .val (.int z), .val (.int j), .unset, .unset, .unset, .unset] [(.int z), (.int o), (.ref t), (.ref u)])) rfl (by rw [hml]; rfl) (Steps.refl _) (argsL := [(.ref t), (.int o), (.int z)]) (rest := []) (lenOf own_pd5 rfl) rfl (by show 2 * 0 + _ ≤ _; exact Nat.le_of_eq rfl) (hb hby at_105) (fun _ _ => ⟨rfl, rfl, (by decide : (((0 + 1) + 1) + 1) + 0 ≤ _), (by decide : (((0 + 6) + 3) + 0) + 0 ≤ _)⟩)
        dsimp only [Pt.U, Pt.locs, Pt.cells, Pt.slots] at X23 l23 y23 z23 st23 hQ23
        subst l23 y23 z23
        obtain ⟨rfl, N23q, K23, -, Fc, Fs, Fl⟩ := hQ23
        have N0'''''''' := Fr.app N0''''''' N23q
        have V_t := V_t.keep K23 (ninS ne_t_u nin0)
        have E_u := E_u.keep K23
        have Z0'''''''''' := Nat.le_trans Z0''''''''' K23.1
        refine own_tr (T' := T23) (g' := (mkF m 108 #[.val (.long p0), .second, .val (.int p1), .val (.int p2), .val (.int p3), .val (.int p4), .val (.int p5), .val (.ref t), .val (.int o), .val (.int z), .val (.int j), .unset, .unset, .unset, .unset] [(.ref u)])) st23 ?_
        refine own_st (T' := T23) (g' := (mkF m 110 #[.val (.long p0), .second, .val (.int p1), .val (.int p2), .val (.int p3), .val (.int p4), .val (.int p5), .val (.ref t), .val (.int o), .val (.int z), .val (.int j), .val (.ref u), .unset, .unset, .unset] [])) (fun _ k => XS.astore X23.here hx rfl (hb hby at_108) rfl rfl (l' := #[.val (.long p0), .second, .val (.int p1), .val (.int p2), .val (.int p3), .val (.int p4), .val (.int p5), .val (.ref t), .val (.int o), .val (.int z), .val (.int j), .val (.ref u), .unset, .unset, .unset]) rfl k) ?_
        refine own_st (T' := T23) (g' := (mkF m 112 #[.val (.long p0), .second, .val (.int p1), .val (.int p2), .val (.int p3), .val (.int p4), .val (.int p5), .val (.ref t), .val (.int o), .val (.int z), .val (.int j), .val (.ref u), .unset, .unset, .unset] [(.ref u)])) (fun _ k => XS.aload X23.here hx rfl (hb hby at_110) rfl rfl k) ?_
        refine own_st (T' := T23) (g' := (mkF m 114 #[.val (.long p0), .second, .val (.int p1), .val (.int p2), .val (.int p3), .val (.int p4), .val (.int p5), .val (.ref t), .val (.int o), .val (.int z), .val (.int j), .val (.ref u), .unset, .unset, .unset] [(.int j), (.ref u)])) (fun _ k => XS.iload X23.here hx rfl (hb hby at_112) rfl k) ?_
        have hoj : (o + j).toInt = o.toInt + j.toInt := Jvm.Free.XT.add32 ⟨by omega, by omega⟩
        obtain ⟨i, hi⟩ : ∃ i : Nat, (i : Int) = o.toInt + j.toInt := ⟨(o.toInt + j.toInt).toNat, by omega⟩
        have hji : (o + j).toInt = i := by omega
        have hi6 : i < 6 := by omega
        obtain ⟨cv, hv, hcv⟩ := hf i hi6
        have hj0 : ¬ j < (0 : Int32) := own_lt0 (by omega)
        have hjz : j < z := by rw [Int32.lt_iff_toInt_lt]; omega
        obtain ⟨cq24, kq24, q24a, q24b, q24c⟩ := isOf hZ rfl E_u
        obtain ⟨_, _, ⟨T24, L24, k24, n24⟩, -, X24, ⟨Lc24, hQ24, l24, y24, z24⟩, st24⟩ := X23.virtualBack hx (y := (⟨"com/example/reckoner/reckoner/io/CharSlice", "charAt", "(I)C"⟩ : MethodName)) (z := (⟨"com/example/reckoner/reckoner/io/CharSlice", "charAt", "(I)C"⟩ : MethodName)) hown (mvT hZ (hw _ (List.mem_of_getElem? (i := 30) rfl))) (mvT hZ (hw _ (List.mem_of_getElem? (i := 31) rfl))) (notFace_of_selects (args := #[]) (mvT hZ (hw _ (List.mem_of_getElem? (i := 33) rfl)))) (mvT hZ (hw _ (List.mem_of_getElem? (i := 33) rfl))) (mvT hZ (hw _ (List.mem_of_getElem? (i := 32) rfl))) (by decide) (backOf (W := 0) (own_ca l Z a0 hw [] u j t o z k14 f i cv T23.heap n0 Z0'''''''''' Fc Fs Fl V_t hj0 hjz hji hi6 hv hcv) hZ (hw _ (List.mem_of_getElem? (i := 34) rfl)) (hw _ (List.mem_of_getElem? (i := 4) rfl)) (by decide) (by decide)) q24a q24c (g := (mkF m 114 #[.val (.long p0), .second, .val (.int p1), .val (.int p2), .val (.int p3), .val (.int p4), .val (.int p5), .val (.ref t), .val (.int o), .val (.int z), .val (.int j), .val (.ref u), .unset, .unset, .unset] [(.int j), (.ref u)])) rfl (by rw [hml]; rfl) (Steps.refl _) (argsL := [(.int j)]) (rest := []) (lenOf own_pd6 rfl) rfl (by show 2 * 0 + _ ≤ _; exact Nat.le_of_eq rfl) (hb hby at_114) (fun _ _ => ⟨rfl, rfl, (by decide : ((((0 + 1) + 1) + 1) + 0) + 0 ≤ _), (by decide : ((((0 + 6) + 3) + 0) + 0) + 0 ≤ _)⟩)
        dsimp only [Pt.U, Pt.locs, Pt.cells, Pt.slots] at X24 l24 y24 z24 st24 hQ24
        subst l24 y24 z24
        obtain ⟨rfl, N24q, e24⟩ := hQ24
        have N0''''''''' := Fr.app N0'''''''' N24q
        refine own_tr (T' := T24) (g' := (mkF m 117 #[.val (.long p0), .second, .val (.int p1), .val (.int p2), .val (.int p3), .val (.int p4), .val (.int p5), .val (.ref t), .val (.int o), .val (.int z), .val (.int j), .val (.ref u), .unset, .unset, .unset] [(.int cv)])) st24 ?_
        refine own_st (T' := T24) (g' := (mkF m 119 #[.val (.long p0), .second, .val (.int p1), .val (.int p2), .val (.int p3), .val (.int p4), .val (.int p5), .val (.ref t), .val (.int o), .val (.int z), .val (.int j), .val (.ref u), .unset, .unset, .unset] [(.ref t), (.int cv)])) (fun _ k => XS.aload X24.here hx rfl (hb hby at_117) rfl rfl k) ?_
        refine own_st (T' := T24) (g' := (mkF m 121 #[.val (.long p0), .second, .val (.int p1), .val (.int p2), .val (.int p3), .val (.int p4), .val (.int p5), .val (.ref t), .val (.int o), .val (.int z), .val (.int j), .val (.ref u), .unset, .unset, .unset] [(.int o), (.ref t), (.int cv)])) (fun _ k => XS.iload X24.here hx rfl (hb hby at_119) rfl k) ?_
        refine own_st (T' := T24) (g' := (mkF m 123 #[.val (.long p0), .second, .val (.int p1), .val (.int p2), .val (.int p3), .val (.int p4), .val (.int p5), .val (.ref t), .val (.int o), .val (.int z), .val (.int j), .val (.ref u), .unset, .unset, .unset] [(.int j), (.int o), (.ref t), (.int cv)])) (fun _ k => XS.iload X24.here hx rfl (hb hby at_121) rfl k) ?_
        refine own_st (T' := T24) (g' := (mkF m 124 #[.val (.long p0), .second, .val (.int p1), .val (.int p2), .val (.int p3), .val (.int p4), .val (.int p5), .val (.ref t), .val (.int o), .val (.int z), .val (.int j), .val (.ref u), .unset, .unset, .unset] [(.int (o + j)), (.ref t), (.int cv)])) (fun _ k => XS.iadd X24.here hx rfl (hb hby at_123) rfl k) ?_
        refine own_st (T' := T24) (g' := (mkF m 125 #[.val (.long p0), .second, .val (.int p1), .val (.int p2), .val (.int p3), .val (.int p4), .val (.int p5), .val (.ref t), .val (.int o), .val (.int z), .val (.int j), .val (.ref u), .unset, .unset, .unset] [(.int cv), (.int cv)])) (own_ldC X24 hx hZ e24 V_t (i := i) hji hi6 (v := (.int cv)) hv (g := (mkF m 124 #[.val (.long p0), .second, .val (.int p1), .val (.int p2), .val (.int p3), .val (.int p4), .val (.int p5), .val (.ref t), .val (.int o), .val (.int z), .val (.int j), .val (.ref u), .unset, .unset, .unset] [(.int (o + j)), (.ref t), (.int cv)])) rfl rfl (hb hby at_124)) ?_
        refine own_st (T' := T24) (g' := (mkF m 128 #[.val (.long p0), .second, .val (.int p1), .val (.int p2), .val (.int p3), .val (.int p4), .val (.int p5), .val (.ref t), .val (.int o), .val (.int z), .val (.int j), .val (.ref u), .unset, .unset, .unset] [])) (fun _ k => XS.icmpNo X24.here hx rfl (hb hby at_125) rfl (Jvm.Free.XT.ii_ne_f rfl) k) ?_
        refine own_st (T' := T24) (g' := (mkF m 129 #[.val (.long p0), .second, .val (.int p1), .val (.int p2), .val (.int p3), .val (.int p4), .val (.int p5), .val (.ref t), .val (.int o), .val (.int z), .val (.int j), .val (.ref u), .unset, .unset, .unset] [(.int (1 : Int32))])) (fun _ k => XS.iconst X24.here hx rfl (hb hby at_128) k) ?_
        refine own_st (T' := T24) (g' := (mkF m 133 #[.val (.long p0), .second, .val (.int p1), .val (.int p2), .val (.int p3), .val (.int p4), .val (.int p5), .val (.ref t), .val (.int o), .val (.int z), .val (.int j), .val (.ref u), .unset, .unset, .unset] [(.int (1 : Int32))])) (fun _ k => XS.goto X24.here hx rfl (pc0 := 129) (pc' := 133) rfl (hb hby at_129) (by decide) (by decide) k) ?_
        refine own_st (T' := T24) (g' := (mkF m 135 #[.val (.long p0), .second, .val (.int p1), .val (.int p2), .val (.int p3), .val (.int p4), .val (.int p5), .val (.ref t), .val (.int o), .val (.int z), .val (.int j), .val (.ref u), .val (.int (1 : Int32)), .unset, .unset] [])) (fun _ k => XS.istore X24.here hx rfl (hb hby at_133) rfl (l' := #[.val (.long p0), .second, .val (.int p1), .val (.int p2), .val (.int p3), .val (.int p4), .val (.int p5), .val (.ref t), .val (.int o), .val (.int z), .val (.int j), .val (.ref u), .val (.int (1 : Int32)), .unset, .unset]) rfl k) ?_
        refine own_st (T' := T24) (g' := (mkF m 137 #[.val (.long p0), .second, .val (.int p1), .val (.int p2), .val (.int p3), .val (.int p4), .val (.int p5), .val (.ref t), .val (.int o), .val (.int z), .val (.int j), .val (.ref u), .val (.int (1 : Int32)), .unset, .unset] [(.int p5)])) (fun _ k => XS.iload X24.here hx rfl (hb hby at_135) rfl k) ?_
        refine own_st (T' := T24) (g' := (mkF m 138 #[.val (.long p0), .second, .val (.int p1), .val (.int p2), .val (.int p3), .val (.int p4), .val (.int p5), .val (.ref t), .val (.int o), .val (.int z), .val (.int j), .val (.ref u), .val (.int (1 : Int32)), .unset, .unset] [(.int (p5.toUInt32.toUInt16.toUInt32.toInt32))])) (fun _ k => XS.i2c X24.here hx rfl (hb hby at_137) rfl k) ?_
        refine own_st (T' := T24) (g' := (mkF m 140 #[.val (.long p0), .second, .val (.int p1), .val (.int p2), .val (.int p3), .val (.int p4), .val (.int p5), .val (.ref t), .val (.int o), .val (.int z), .val (.int j), .val (.ref u), .val (.int (1 : Int32)), .val (.int (p5.toUInt32.toUInt16.toUInt32.toInt32)), .unset] [])) (fun _ k => XS.istore X24.here hx rfl (hb hby at_138) rfl (l' := #[.val (.long p0), .second, .val (.int p1), .val (.int p2), .val (.int p3), .val (.int p4), .val (.int p5), .val (.ref t), .val (.int o), .val (.int z), .val (.int j), .val (.ref u), .val (.int (1 : Int32)), .val (.int (p5.toUInt32.toUInt16.toUInt32.toInt32)), .unset]) rfl k) ?_
        refine own_st (T' := T24) (g' := (mkF m 142 #[.val (.long p0), .second, .val (.int p1), .val (.int p2), .val (.int p3), .val (.int p4), .val (.int p5), .val (.ref t), .val (.int o), .val (.int z), .val (.int j), .val (.ref u), .val (.int (1 : Int32)), .val (.int (p5.toUInt32.toUInt16.toUInt32.toInt32)), .unset] [(.ref t)])) (fun _ k => XS.aload X24.here hx rfl (hb hby at_140) rfl rfl k) ?_
        refine own_st (T' := T24) (g' := (mkF m 144 #[.val (.long p0), .second, .val (.int p1), .val (.int p2), .val (.int p3), .val (.int p4), .val (.int p5), .val (.ref t), .val (.int o), .val (.int z), .val (.int j), .val (.ref u), .val (.int (1 : Int32)), .val (.int (p5.toUInt32.toUInt16.toUInt32.toInt32)), .unset] [(.int o), (.ref t)])) (fun _ k => XS.iload X24.here hx rfl (hb hby at_142) rfl k) ?_
        refine own_st (T' := T24) (g' := (mkF m 146 #[.val (.long p0), .second, .val (.int p1), .val (.int p2), .val (.int p3), .val (.int p4), .val (.int p5), .val (.ref t), .val (.int o), .val (.int z), .val (.int j), .val (.ref u), .val (.int (1 : Int32)), .val (.int (p5.toUInt32.toUInt16.toUInt32.toInt32)), .unset] [(.int j), (.int o), (.ref t)])) (fun _ k => XS.iload X24.here hx rfl (hb hby at_144) rfl k) ?_
        refine own_st (T' := T24) (g' := (mkF m 147 #[.val (.long p0), .second, .val (.int p1), .val (.int p2), .val (.int p3), .val (.int p4), .val (.int p5), .val (.ref t), .val (.int o), .val (.int z), .val (.int j), .val (.ref u), .val (.int (1 : Int32)), .val (.int (p5.toUInt32.toUInt16.toUInt32.toInt32)), .unset] [(.int (o + j)), (.ref t)])) (fun _ k => XS.iadd X24.here hx rfl (hb hby at_146) rfl k) ?_
        refine own_st (T' := T24) (g' := (mkF m 149 #[.val (.long p0), .second, .val (.int p1), .val (.int p2), .val (.int p3), .val (.int p4), .val (.int p5), .val (.ref t), .val (.int o), .val (.int z), .val (.int j), .val (.ref u), .val (.int (1 : Int32)), .val (.int (p5.toUInt32.toUInt16.toUInt32.toInt32)), .unset] [(.int (p5.toUInt32.toUInt16.toUInt32.toInt32)), (.int (o + j)), (.ref t)])) (fun _ k => XS.iload X24.here hx rfl (hb hby at_147) rfl k) ?_
        obtain ⟨T25, h25, X25, e25, W25, V25, st25⟩ := own_stC X24 hx hZ e24 V_t (i := i) hji hi6 (g := (mkF m 149 #[.val (.long p0), .second, .val (.int p1), .val (.int p2), .val (.int p3), .val (.int p4), .val (.int p5), .val (.ref t), .val (.int o), .val (.int z), .val (.int j), .val (.ref u), .val (.int (1 : Int32)), .val (.int (p5.toUInt32.toUInt16.toUInt32.toInt32)), .unset] [(.int (p5.toUInt32.toUInt16.toUInt32.toInt32)), (.int (o + j)), (.ref t)])) rfl rfl (hb hby at_149)
        have E_u := E_u.wr W25
        have Fc := Fc.other W25 (Or.inl (Ne.symm ne_t_u))
        have Fs := Fs.other W25 (Or.inl (Ne.symm ne_t_u))
        have Fl := Fl.other W25 (Or.inl (Ne.symm ne_t_u))
        have Z0''''''''''' := Nat.le_trans Z0'''''''''' (Keep.of_wr W25).1
        have N0'''''''''' := Fr.snoc X25 N0''''''''' ge_t
        have V_t := V25
        refine own_st (T' := T25) (g' := (mkF m 150 #[.val (.long p0), .second, .val (.int p1), .val (.int p2), .val (.int p3), .val (.int p4), .val (.int p5), .val (.ref t), .val (.int o), .val (.int z), .val (.int j), .val (.ref u), .val (.int (1 : Int32)), .val (.int (p5.toUInt32.toUInt16.toUInt32.toInt32)), .unset] [])) st25 ?_
        refine own_st (T' := T25) (g' := (mkF m 152 #[.val (.long p0), .second, .val (.int p1), .val (.int p2), .val (.int p3), .val (.int p4), .val (.int p5), .val (.ref t), .val (.int o), .val (.int z), .val (.int j), .val (.ref u), .val (.int (1 : Int32)), .val (.int (p5.toUInt32.toUInt16.toUInt32.toInt32)), .unset] [(.ref u)])) (fun _ k => XS.aload X25.here hx rfl (hb hby at_150) rfl rfl k) ?_
        refine own_st (T' := T25) (g' := (mkF m 154 #[.val (.long p0), .second, .val (.int p1), .val (.int p2), .val (.int p3), .val (.int p4), .val (.int p5), .val (.ref t), .val (.int o), .val (.int z), .val (.int j), .val (.ref u), .val (.int (1 : Int32)), .val (.int (p5.toUInt32.toUInt16.toUInt32.toInt32)), .unset] [(.int j), (.ref u)])) (fun _ k => XS.iload X25.here hx rfl (hb hby at_152) rfl k) ?_
        obtain ⟨cq26, kq26, q26a, q26b, q26c⟩ := isOf hZ e25 E_u
        obtain ⟨_, _, ⟨T26, L26, k26, n26⟩, -, X26, ⟨Lc26, hQ26, l26, y26, z26⟩, st26⟩ := X25.virtualBack hx (y := (⟨"com/example/reckoner/reckoner/io/CharSlice", "charAt", "(I)C"⟩ : MethodName)) (z := (⟨"com/example/reckoner/reckoner/io/CharSlice", "charAt", "(I)C"⟩ : MethodName)) hown (mvT hZ (hw _ (List.mem_of_getElem? (i := 30) rfl))) (mvT hZ (hw _ (List.mem_of_getElem? (i := 31) rfl))) (notFace_of_selects (args := #[]) (mvT hZ (hw _ (List.mem_of_getElem? (i := 33) rfl)))) (mvT hZ (hw _ (List.mem_of_getElem? (i := 33) rfl))) (mvT hZ (hw _ (List.mem_of_getElem? (i := 32) rfl))) (by decide) (backOf (W := 0) (own_ca l Z a0 hw [] u j t o z k14 (fun q => if q = i then (.int (nar .char (p5.toUInt32.toUInt16.toUInt32.toInt32))) else f q) i (p5.toUInt32.toUInt16.toUInt32.toInt32) h25 n0 Z0''''''''''' Fc Fs Fl V_t hj0 hjz hji hi6 (by show (if i = i then Value.int (nar .char (p5.toUInt32.toUInt16.toUInt32.toInt32)) else f i) = _; rw [if_pos rfl, own_narc]) (own_narc _)) hZ (hw _ (List.mem_of_getElem? (i := 34) rfl)) (hw _ (List.mem_of_getElem? (i := 4) rfl)) (by decide) (by decide)) q26a q26c (g := (mkF m 154 #[.val (.long p0), .second, .val (.int p1), .val (.int p2), .val (.int p3), .val (.int p4), .val (.int p5), .val (.ref t), .val (.int o), .val (.int z), .val (.int j), .val (.ref u), .val (.int (1 : Int32)), .val (.int (p5.toUInt32.toUInt16.toUInt32.toInt32)), .unset] [(.int j), (.ref u)])) rfl (by rw [hml]; rfl) (Steps.refl _) (argsL := [(.int j)]) (rest := []) (lenOf own_pd6 rfl) rfl (by show 2 * 0 + _ ≤ _; exact Nat.le_of_eq rfl) (hb hby at_154) (fun _ _ => ⟨rfl, e25, (by decide : (((((0 + 1) + 1) + 1) + 0) + 0) + 0 ≤ _), (by decide : (((((0 + 6) + 3) + 0) + 0) + 0) + 0 ≤ _)⟩)
        dsimp only [Pt.U, Pt.locs, Pt.cells, Pt.slots] at X26 l26 y26 z26 st26 hQ26
        subst l26 y26 z26
        obtain ⟨rfl, N26q, e26⟩ := hQ26
        have N0''''''''''' := Fr.app N0'''''''''' N26q
        refine own_tr (T' := T26) (g' := (mkF m 157 #[.val (.long p0), .second, .val (.int p1), .val (.int p2), .val (.int p3), .val (.int p4), .val (.int p5), .val (.ref t), .val (.int o), .val (.int z), .val (.int j), .val (.ref u), .val (.int (1 : Int32)), .val (.int (p5.toUInt32.toUInt16.toUInt32.toInt32)), .unset] [(.int (p5.toUInt32.toUInt16.toUInt32.toInt32))])) st26 ?_
        refine own_st (T' := T26) (g' := (mkF m 159 #[.val (.long p0), .second, .val (.int p1), .val (.int p2), .val (.int p3), .val (.int p4), .val (.int p5), .val (.ref t), .val (.int o), .val (.int z), .val (.int j), .val (.ref u), .val (.int (1 : Int32)), .val (.int (p5.toUInt32.toUInt16.toUInt32.toInt32)), .unset] [(.int (p5.toUInt32.toUInt16.toUInt32.toInt32)), (.int (p5.toUInt32.toUInt16.toUInt32.toInt32))])) (fun _ k => XS.iload X26.here hx rfl (hb hby at_157) rfl k) ?_
        refine own_st (T' := T26) (g' := (mkF m 162 #[.val (.long p0), .second, .val (.int p1), .val (.int p2), .val (.int p3), .val (.int p4), .val (.int p5), .val (.ref t), .val (.int o), .val (.int z), .val (.int j), .val (.ref u), .val (.int (1 : Int32)), .val (.int (p5.toUInt32.toUInt16.toUInt32.toInt32)), .unset] [])) (fun _ k => XS.icmpNo X26.here hx rfl (hb hby at_159) rfl (Jvm.Free.XT.ii_ne_f rfl) k) ?_
        refine own_st (T' := T26) (g' := (mkF m 163 #[.val (.long p0), .second, .val (.int p1), .val (.int p2), .val (.int p3), .val (.int p4), .val (.int p5), .val (.ref t), .val (.int o), .val (.int z), .val (.int j), .val (.ref u), .val (.int (1 : Int32)), .val (.int (p5.toUInt32.toUInt16.toUInt32.toInt32)), .unset] [(.int (1 : Int32))])) (fun _ k => XS.iconst X26.here hx rfl (hb hby at_162) k) ?_
        refine own_st (T' := T26) (g' := (mkF m 167 #[.val (.long p0), .second, .val (.int p1), .val (.int p2), .val (.int p3), .val (.int p4), .val (.int p5), .val (.ref t), .val (.int o), .val (.int z), .val (.int j), .val (.ref u), .val (.int (1 : Int32)), .val (.int (p5.toUInt32.toUInt16.toUInt32.toInt32)), .unset] [(.int (1 : Int32))])) (fun _ k => XS.goto X26.here hx rfl (pc0 := 163) (pc' := 167) rfl (hb hby at_163) (by decide) (by decide) k) ?_
        refine own_st (T' := T26) (g' := (mkF m 169 #[.val (.long p0), .second, .val (.int p1), .val (.int p2), .val (.int p3), .val (.int p4), .val (.int p5), .val (.ref t), .val (.int o), .val (.int z), .val (.int j), .val (.ref u), .val (.int (1 : Int32)), .val (.int (p5.toUInt32.toUInt16.toUInt32.toInt32)), .val (.int (1 : Int32))] [])) (fun _ k => XS.istore X26.here hx rfl (hb hby at_167) rfl (l' := #[.val (.long p0), .second, .val (.int p1), .val (.int p2), .val (.int p3), .val (.int p4), .val (.int p5), .val (.ref t), .val (.int o), .val (.int z), .val (.int j), .val (.ref u), .val (.int (1 : Int32)), .val (.int (p5.toUInt32.toUInt16.toUInt32.toInt32)), .val (.int (1 : Int32))]) rfl k) ?_
        refine own_st (T' := T26) (g' := (mkF m 171 #[.val (.long p0), .second, .val (.int p1), .val (.int p2), .val (.int p3), .val (.int p4), .val (.int p5), .val (.ref t), .val (.int o), .val (.int z), .val (.int j), .val (.ref u), .val (.int (1 : Int32)), .val (.int (p5.toUInt32.toUInt16.toUInt32.toInt32)), .val (.int (1 : Int32))] [(.int (1 : Int32))])) (fun _ k => XS.iload X26.here hx rfl (hb hby at_169) rfl k) ?_
        refine own_st (T' := T26) (g' := (mkF m 174 #[.val (.long p0), .second, .val (.int p1), .val (.int p2), .val (.int p3), .val (.int p4), .val (.int p5), .val (.ref t), .val (.int o), .val (.int z), .val (.int j), .val (.ref u), .val (.int (1 : Int32)), .val (.int (p5.toUInt32.toUInt16.toUInt32.toInt32)), .val (.int (1 : Int32))] [])) (fun _ k => XS.ifNo X26.here hx rfl (hb hby at_171) rfl (Jvm.Free.XT.i0_eq_f (by decide)) k) ?_
        refine own_st (T' := T26) (g' := (mkF m 176 #[.val (.long p0), .second, .val (.int p1), .val (.int p2), .val (.int p3), .val (.int p4), .val (.int p5), .val (.ref t), .val (.int o), .val (.int z), .val (.int j), .val (.ref u), .val (.int (1 : Int32)), .val (.int (p5.toUInt32.toUInt16.toUInt32.toInt32)), .val (.int (1 : Int32))] [(.int (1 : Int32))])) (fun _ k => XS.iload X26.here hx rfl (hb hby at_174) rfl k) ?_
        refine own_st (T' := T26) (g' := (mkF m 179 #[.val (.long p0), .second, .val (.int p1), .val (.int p2), .val (.int p3), .val (.int p4), .val (.int p5), .val (.ref t), .val (.int o), .val (.int z), .val (.int j), .val (.ref u), .val (.int (1 : Int32)), .val (.int (p5.toUInt32.toUInt16.toUInt32.toInt32)), .val (.int (1 : Int32))] [])) (fun _ k => XS.ifNo X26.here hx rfl (hb hby at_176) rfl (Jvm.Free.XT.i0_eq_f (by decide)) k) ?_
        refine own_st (T' := T26) (g' := (mkF m 180 #[.val (.long p0), .second, .val (.int p1), .val (.int p2), .val (.int p3), .val (.int p4), .val (.int p5), .val (.ref t), .val (.int o), .val (.int z), .val (.int j), .val (.ref u), .val (.int (1 : Int32)), .val (.int (p5.toUInt32.toUInt16.toUInt32.toInt32)), .val (.int (1 : Int32))] [(.int (1 : Int32))])) (fun _ k => XS.iconst X26.here hx rfl (hb hby at_179) k) ?_
        refine own_st (T' := T26) (g' := (mkF m 184 #[.val (.long p0), .second, .val (.int p1), .val (.int p2), .val (.int p3), .val (.int p4), .val (.int p5), .val (.ref t), .val (.int o), .val (.int z), .val (.int j), .val (.ref u), .val (.int (1 : Int32)), .val (.int (p5.toUInt32.toUInt16.toUInt32.toInt32)), .val (.int (1 : Int32))] [(.int (1 : Int32))])) (fun _ k => XS.goto X26.here hx rfl (pc0 := 180) (pc' := 184) rfl (hb hby at_180) (by decide) (by decide) k) ?_
        exact own_retN X26 hx Bd.returns Bd.notSynchronized e26 (by simp) (hb hby at_184) ⟨rfl, N0'''''''''''⟩ (by decide) (by decide)
      exact J92 _ (own_modm _ _ (by omega))
    have g1 := own_modm p3 ((6 : Int32) - o) (by omega)
    have g2 : ((1 : Int32) + ((p3 &&& (2147483647 : Int32)) % ((6 : Int32) - o))).toInt = 1 + ((p3 &&& (2147483647 : Int32)) % ((6 : Int32) - o)).toInt := Jvm.Free.XT.add32 ⟨by have : (1 : Int32).toInt = 1 := rfl; omega, by have : (1 : Int32).toInt = 1 := rfl; omega⟩
    exact J82 _ (by omega)
  exact J67 _ (own_modm _ _ (by decide))
set_option maxRecDepth 65536 in
set_option maxHeartbeats 40000000 in
theorem comes_1 {Post : Tables → Env → Array Value → State → Outcome → State → Prop} (hpost : ∀ tb e args s v u, (limb_1_1.after args s (.returned v) u = true ∧ limb_1_2.after args s (.returned v) u = true ∧ True) → FrameEnd s (.returned v) u (Jvm.fieldLocs frame_1_writes args s ++ Jvm.arrayLocs frame_1_arrays args s ++ Jvm.staticLocs frame_1_statics s) 16 128 → Post tb e args s (.returned v) u) :
    ArmFor flags0 classFile x code maxLocals ret World_1 tables_1 room_1 Calls_1 rest_1 Pre_1 Post := by
  intro l hfl _ _ p e ha hc hk s m args below hf hA hF happ hP
  obtain ⟨hcalls, hrest, hpre⟩ := hP
  obtain ⟨-, -, -, hnamed, -, -, -, hat⟩ := (Spec.applies_iff hf).mp happ
  obtain ⟨hg, hn⟩ := and_e (Cond.before_iff.mp (show (Jvm.Cond.and given_1 narrow_1).before args s = true from hpre))
  obtain ⟨hcount, r0⟩ := and_e hg
  obtain ⟨hk0, r1⟩ := and_e r0
  obtain ⟨hk1, r2⟩ := and_e r1
  obtain ⟨hk2, r3⟩ := and_e r2
  obtain ⟨hk3, r4⟩ := and_e r3
  obtain ⟨hk4, r5⟩ := and_e r4
  have hk5 := r5
  obtain ⟨w0, w1, w2, w3, w4, w5, rfl⟩ : ∃ w0 w1 w2 w3 w4 w5 : Value, args = #[w0, w1, w2, w3, w4, w5] := by
    have hs : args.size = 6 := by simpa [Cond.value, given_1] using hcount
    obtain ⟨L⟩ := args
    match L, hs with
    | [w0, w1, w2, w3, w4, w5], _ => exact ⟨w0, w1, w2, w3, w4, w5, rfl⟩
  have hw := fun d (hd : d ∈ tables_1) => atoms_spec (ws := Jvm.Cond.code x code maxLocals ret :: tables_1) hat d (List.mem_cons_of_mem _ hd)
  have hfit : Fit s := fun {y c} hc i hi => by
    obtain ⟨ha, rfl⟩ := Array.getElem?_eq_some_iff.mp hc
    have q := List.all_eq_true.mp ((Array.all_eq_true_iff_forall_mem.mp hF) _ (Array.getElem_mem ha)) i (List.mem_range.mpr hi)
    simpa [Array.getElem?_eq_getElem hi] using q
  obtain ⟨i0, ei0⟩ := isL_v hk0
  obtain rfl : w0 = (.long i0) := Option.some.inj ei0
  obtain ⟨i1, ei1⟩ := is_v hk1
  obtain rfl : w1 = (.int i1) := Option.some.inj ei1
  obtain ⟨i2, ei2⟩ := is_v hk2
  obtain rfl : w2 = (.int i2) := Option.some.inj ei2
  obtain ⟨i3, ei3⟩ := is_v hk3
  obtain rfl : w3 = (.int i3) := Option.some.inj ei3
  obtain ⟨i4, ei4⟩ := is_v hk4
  obtain rfl : w4 = (.int i4) := Option.some.inj ei4
  obtain ⟨i5, ei5⟩ := is_v hk5
  obtain rfl : w5 = (.int i5) := Option.some.inj ei5
  obtain ⟨n, o, h1, h2, h3, _, L, rfl, ⟨rfl, N⟩, hq⟩ := own_law l s _ hw tables_1 i0 i1 i2 i3 i4 i5 s.heap s.heap.size (Nat.le_refl _) p e ha hc hk s m _ below hf ((Spec.applies_iff_loose hf).mp happ).1 ⟨rfl, State.Warmed39.refl s, rfl⟩ trivial
  refine ⟨n, _, h1, h2, h3, hpost _ _ _ _ _ _ ⟨Cond.after_iff.mpr rfl, Cond.after_iff.mpr (eq_i res_at (Term.int_eval (1)) rfl), trivial⟩ ⟨hq.1, hq.2.1, (hq.2.2.sift fun y hy => Or.inr (N y hy)).mono (by decide) (by decide)⟩⟩
theorem main_1_1 : Claimed_1_1 := comes_1 fun _ _ _ _ _ _ h hF => ⟨h.1, hF⟩
theorem main_1_2 : Claimed_1_2 := comes_1 fun _ _ _ _ _ _ h hF => ⟨h.2.1, hF⟩
end Jvm.Pilot.@@N@@
namespace Jvm.Pilot.@@N@@
open Jvm Jvm.ClassFile Sem Op Lib Jvm.Free Jvm.Stand Jvm.Pilot.@@N@@.Jvm.D
/-! MADE BY PROGRAM (witnessworld.py) out of the Statement's table words and the real class files: 14 classes; the members and pool entries that the words name. The judged class is class 1, her method 1. -/
namespace start1
open Jvm.ClassFile
def u (s : String) : CpInfo := .utf8 (stringToUtf16 s)
/-- a pool by its gaps: so many unusable entries, then the entry; so many at the end -/
def gap : Nat → List CpInfo → List CpInfo
  | 0, r => r
  | n + 1, r => .unusable :: gap n r
def poolList (es : List (Nat × CpInfo)) (last : Nat) : List CpInfo := es.foldr (fun e r => gap e.1 (e.2 :: r)) (gap last [])
def pool (es : List (Nat × CpInfo)) (last : Nat) : Array CpInfo := ⟨poolList es last⟩
def fileOf (pool : Array CpInfo) (this : Nat) (attrs : Array Attribute := #[]) (ms : Array MethodInfo := #[]) (fl : Nat := 33) (sup : Nat := 0) (ifs : Array Nat := #[]) (fds : Array FieldInfo := #[]) : ClassFile where
  minorVersion := 0
  majorVersion := 65
  constantPool := pool
  accessFlags := fl
  thisClass := this
  superClass := sup
  interfaces := ifs
  fields := fds
  methods := ms
  attributes := attrs
def plain (name : String) (sup : Option ClassId) : Class where
  name := name
  kind := .ordinary
  loader := none
  accessFlags := 33
  super := sup
  interfaces := #[]
  cf := none
  fields := #[]
  methods := #[]
  instanceTypes := #[]
  staticTypes := #[]
  resolved := #[]
  callSites := []
  init := .initialized
  statics := none
  mirror := none

def pool0 : Array CpInfo := pool [(5, u "<init>"), (0, u "()V"), (1, .class_ 10), (1, u "java/lang/Object")] 113

def k0c0 : Code := { maxStack := 0, maxLocals := 1, code := object_method_1_code, exceptionTable := #[], attributes := #[] }
def k0m0 : Method := { name := "<init>", desc := "()V", sig := { parameters := [], returnType := none }, accessFlags := 1, code := some k0c0 }
/-- java/lang/Object -/
def k0 : Class := { plain "java/lang/Object" none with
  accessFlags := 33
  interfaces := #[]
  cf := some (fileOf pool0 8 #[] #[{ accessFlags := 1, nameIndex := 5, descriptorIndex := 6, attributes := #[] }] 33 0 #[] #[])
  fields := #[]
  methods := #[k0m0]
  instanceTypes := #[]
  staticTypes := #[]
  resolved := Array.replicate 124 none
  statics := none }

def pool1 : Array CpInfo := pool [(2, .class_ 4), (0, .nameAndType 5 6), (0, u "java/lang/Object"), (0, u "<init>"), (0, u "()V"), (0, .integer 2147483647), (0, .class_ 9), (0, u "com/example/reckoner/reckoner/io/CharSlice"), (0, .methodref 8 3), (0, .methodref 8 12), (0, .nameAndType 13 14), (0, u "of"), (0, u "([CII)Lcom/example/reckoner/reckoner/io/CharSlice;"), (0, .methodref 8 16), (0, .nameAndType 17 18), (0, u "charAt"), (0, u "(I)C"), (0, .class_ 20), (0, u "com/example/reckoner/reckoner/io/CharSliceCharAtPinLaw"), (2, u "law"), (0, u "(JIIIII)Z")] 5

def k1m0 : Method := { name := "<init>", desc := "()V", sig := { parameters := [], returnType := none }, accessFlags := 1, code := none }
def k1c1 : Code := { maxStack := 5, maxLocals := 15, code := code, exceptionTable := #[], attributes := #[] }
def k1m1 : Method := { name := "law", desc := "(JIIIII)Z", sig := { parameters := [.long, .int, .int, .int, .int, .int], returnType := some .boolean }, accessFlags := 9, code := some k1c1 }
/-- com/example/reckoner/reckoner/io/CharSliceCharAtPinLaw -/
def k1 : Class := { plain "com/example/reckoner/reckoner/io/CharSliceCharAtPinLaw" (some 0) with
  accessFlags := 49
  interfaces := #[]
  cf := some (fileOf pool1 19 #[] #[{ accessFlags := 1, nameIndex := 5, descriptorIndex := 6, attributes := #[] }, { accessFlags := 9, nameIndex := 23, descriptorIndex := 24, attributes := #[] }] 49 2 #[] #[])
  fields := #[]
  methods := #[k1m0, k1m1]
  instanceTypes := #[]
  staticTypes := #[]
  resolved := Array.replicate 30 none
  statics := none }

def pool2 : Array CpInfo := pool [(2, .class_ 4), (1, u "java/lang/CharSequence"), (42, .class_ 48), (0, u "java/lang/CharSequence$1CodePointIterator"), (10, .class_ 60), (0, u "java/lang/CharSequence$1CharIterator"), (5, .class_ 67), (0, u "java/lang/Object")] 63

/-- java/lang/CharSequence -/
def k2 : Class := { plain "java/lang/CharSequence" (some 0) with
  accessFlags := 1537
  interfaces := #[]
  cf := some (fileOf pool2 2 #[.nestMembers #[47, 59]] #[] 1537 66 #[] #[])
  fields := #[]
  methods := #[]
  instanceTypes := #[]
  staticTypes := #[]
  resolved := Array.replicate 131 none
  statics := none }

def pool3 : Array CpInfo := pool [(1, .methodref 2 3), (0, .class_ 4), (0, .nameAndType 5 6), (0, u "java/lang/Object"), (0, u "<init>"), (0, u "()V"), (0, .fieldref 8 9), (0, .class_ 10), (0, .nameAndType 11 12), (0, u "com/example/reckoner/reckoner/io/CharSlice"), (0, u "chars"), (0, u "[C"), (0, .methodref 14 15), (0, .class_ 16), (0, .nameAndType 17 18), (0, u "java/util/Objects"), (0, u "checkFromIndexSize"), (0, u "(III)I"), (0, .fieldref 8 20), (0, .nameAndType 21 22), (0, u "start"), (0, u "I"), (0, .fieldref 8 24), (0, .nameAndType 25 22), (0, u "length"), (0, .methodref 14 27), (0, .nameAndType 28 29), (0, u "checkIndex"), (0, u "(II)I"), (8, .class_ 39), (0, u "java/lang/CharSequence"), (2, u "of"), (0, u "([CII)Lcom/example/reckoner/reckoner/io/CharSlice;"), (1, u "charAt"), (0, u "(I)C")] 6

def k3c0 : Code := { maxStack := 2, maxLocals := 1, code := prog_4_method_1_code, exceptionTable := #[], attributes := #[] }
def k3m0 : Method := { name := "<init>", desc := "()V", sig := { parameters := [], returnType := none }, accessFlags := 0, code := some k3c0 }
def k3c1 : Code := { maxStack := 3, maxLocals := 4, code := prog_4_method_2_code, exceptionTable := #[], attributes := #[] }
def k3m1 : Method := { name := "of", desc := "([CII)Lcom/example/reckoner/reckoner/io/CharSlice;", sig := { parameters := [(.array .char), .int, .int], returnType := some (.object "com/example/reckoner/reckoner/io/CharSlice") }, accessFlags := 0, code := some k3c1 }
def k3c2 : Code := { maxStack := 3, maxLocals := 2, code := prog_4_method_4_code, exceptionTable := #[], attributes := #[] }
def k3m2 : Method := { name := "charAt", desc := "(I)C", sig := { parameters := [.int], returnType := some .char }, accessFlags := 1, code := some k3c2 }
/-- com/example/reckoner/reckoner/io/CharSlice -/
def k3 : Class := { plain "com/example/reckoner/reckoner/io/CharSlice" (some 0) with
  accessFlags := 48
  interfaces := #[2]
  cf := some (fileOf pool3 8 #[] #[{ accessFlags := 0, nameIndex := 5, descriptorIndex := 6, attributes := #[] }, { accessFlags := 0, nameIndex := 42, descriptorIndex := 43, attributes := #[] }, { accessFlags := 1, nameIndex := 45, descriptorIndex := 46, attributes := #[] }] 48 2 #[38] #[{ accessFlags := 2, nameIndex := 11, descriptorIndex := 12, attributes := #[] }, { accessFlags := 2, nameIndex := 21, descriptorIndex := 22, attributes := #[] }, { accessFlags := 2, nameIndex := 25, descriptorIndex := 22, attributes := #[] }])
  fields := #[{ name := "chars", type := (.array .char), accessFlags := 2, slot := 0, constantValue := 0 }, { name := "start", type := .int, accessFlags := 2, slot := 1, constantValue := 0 }, { name := "length", type := .int, accessFlags := 2, slot := 2, constantValue := 0 }]
  methods := #[k3m0, k3m1, k3m2]
  instanceTypes := #[(.array .char), .int, .int]
  staticTypes := #[]
  resolved := Array.replicate 53 none
  statics := none }

def pool4 : Array CpInfo := pool [(2, .class_ 4), (1, u "java/lang/Object"), (0, u "<init>"), (0, u "()V"), (35, .class_ 44), (1, u "java/util/Objects"), (60, .methodref 106 107), (0, .class_ 108), (0, .nameAndType 109 110), (0, u "jdk/internal/util/Preconditions"), (0, u "checkIndex"), (0, u "(IILjava/util/function/BiFunction;)I"), (3, u "(IIILjava/util/function/BiFunction;)I"), (0, .methodref 106 116), (0, .nameAndType 117 114), (0, u "checkFromIndexSize"), (53, u "(II)I"), (3, u "(III)I")] 8

def k4m0 : Method := { name := "<init>", desc := "()V", sig := { parameters := [], returnType := none }, accessFlags := 2, code := none }
def k4c1 : Code := { maxStack := 3, maxLocals := 2, code := jdk_31_method_17_code, exceptionTable := #[], attributes := #[] }
def k4m1 : Method := { name := "checkIndex", desc := "(II)I", sig := { parameters := [.int, .int], returnType := some .int }, accessFlags := 9, code := some k4c1 }
def k4c2 : Code := { maxStack := 4, maxLocals := 3, code := jdk_31_method_19_code, exceptionTable := #[], attributes := #[] }
def k4m2 : Method := { name := "checkFromIndexSize", desc := "(III)I", sig := { parameters := [.int, .int, .int], returnType := some .int }, accessFlags := 9, code := some k4c2 }
/-- java/util/Objects -/
def k4 : Class := { plain "java/util/Objects" (some 0) with
  accessFlags := 49
  interfaces := #[]
  cf := some (fileOf pool4 42 #[] #[{ accessFlags := 2, nameIndex := 5, descriptorIndex := 6, attributes := #[] }, { accessFlags := 9, nameIndex := 109, descriptorIndex := 171, attributes := #[] }, { accessFlags := 9, nameIndex := 117, descriptorIndex := 175, attributes := #[] }] 49 2 #[] #[])
  fields := #[]
  methods := #[k4m0, k4m1, k4m2]
  instanceTypes := #[]
  staticTypes := #[]
  resolved := Array.replicate 184 none
  statics := none }

def pool5 : Array CpInfo := pool [(2, .class_ 4), (1, u "java/lang/Object"), (0, u "<init>"), (0, u "()V"), (17, .class_ 26), (1, u "jdk/internal/util/Preconditions"), (6, u "checkIndex"), (15, u "checkFromIndexSize"), (5, .class_ 56), (0, u "jdk/internal/util/Preconditions$4"), (57, .class_ 115), (0, u "jdk/internal/util/Preconditions$1"), (7, u "SIOOBE_FORMATTER"), (0, u "Ljava/util/function/BiFunction;"), (0, .class_ 126), (0, u "jdk/internal/util/Preconditions$2"), (3, u "AIOOBE_FORMATTER"), (0, .class_ 132), (0, u "jdk/internal/util/Preconditions$3"), (3, u "IOOBE_FORMATTER"), (41, u "(IILjava/util/function/BiFunction;)I"), (4, u "(IIILjava/util/function/BiFunction;)I")] 10

def k5m0 : Method := { name := "<init>", desc := "()V", sig := { parameters := [], returnType := none }, accessFlags := 1, code := none }
def k5c1 : Code := { maxStack := 3, maxLocals := 3, code := jdk_41_method_11_code, exceptionTable := #[], attributes := #[] }
def k5m1 : Method := { name := "checkIndex", desc := "(IILjava/util/function/BiFunction;)I", sig := { parameters := [.int, .int, (.object "java/util/function/BiFunction")], returnType := some .int }, accessFlags := 9, code := some k5c1 }
def k5c2 : Code := { maxStack := 4, maxLocals := 4, code := jdk_41_method_13_code, exceptionTable := #[], attributes := #[] }
def k5m2 : Method := { name := "checkFromIndexSize", desc := "(IIILjava/util/function/BiFunction;)I", sig := { parameters := [.int, .int, .int, (.object "java/util/function/BiFunction")], returnType := some .int }, accessFlags := 9, code := some k5c2 }
/-- jdk/internal/util/Preconditions -/
def k5 : Class := { plain "jdk/internal/util/Preconditions" (some 0) with
  accessFlags := 33
  interfaces := #[]
  cf := some (fileOf pool5 24 #[.nestMembers #[55, 131, 125, 114]] #[{ accessFlags := 1, nameIndex := 5, descriptorIndex := 6, attributes := #[] }, { accessFlags := 9, nameIndex := 33, descriptorIndex := 178, attributes := #[] }, { accessFlags := 9, nameIndex := 49, descriptorIndex := 183, attributes := #[] }] 33 2 #[] #[{ accessFlags := 25, nameIndex := 123, descriptorIndex := 124, attributes := #[] }, { accessFlags := 25, nameIndex := 130, descriptorIndex := 124, attributes := #[] }, { accessFlags := 25, nameIndex := 136, descriptorIndex := 124, attributes := #[] }])
  fields := #[{ name := "SIOOBE_FORMATTER", type := (.object "java/util/function/BiFunction"), accessFlags := 25, slot := 0, constantValue := 0 }, { name := "AIOOBE_FORMATTER", type := (.object "java/util/function/BiFunction"), accessFlags := 25, slot := 1, constantValue := 0 }, { name := "IOOBE_FORMATTER", type := (.object "java/util/function/BiFunction"), accessFlags := 25, slot := 2, constantValue := 0 }]
  methods := #[k5m0, k5m1, k5m2]
  instanceTypes := #[]
  staticTypes := #[(.object "java/util/function/BiFunction"), (.object "java/util/function/BiFunction"), (.object "java/util/function/BiFunction")]
  resolved := Array.replicate 194 none
  statics := none }

def pool6 : Array CpInfo := pool [(1, u "java/lang/Cloneable"), (0, .class_ 1), (0, u "java/lang/Object"), (0, .class_ 3)] 3

/-- java/lang/Cloneable -/
def k6 : Class := { plain "java/lang/Cloneable" (some 0) with
  accessFlags := 1537
  interfaces := #[]
  cf := some (fileOf pool6 2 #[] #[] 1537 4 #[] #[])
  fields := #[]
  methods := #[]
  instanceTypes := #[]
  staticTypes := #[]
  resolved := Array.replicate 8 none
  statics := none }

def pool7 : Array CpInfo := pool [(1, u "java/io/Serializable"), (0, .class_ 1), (0, u "java/lang/Object"), (0, .class_ 3)] 3

/-- java/io/Serializable -/
def k7 : Class := { plain "java/io/Serializable" (some 0) with
  accessFlags := 1537
  interfaces := #[]
  cf := some (fileOf pool7 2 #[] #[] 1537 4 #[] #[])
  fields := #[]
  methods := #[]
  instanceTypes := #[]
  staticTypes := #[]
  resolved := Array.replicate 8 none
  statics := none }

/-- the primitive byte -/
def k8 : Class := { plain "byte" none with kind := .primitive 'B', accessFlags := 0x411 }
/-- [B -/
def k9 : Class := { plain "[B" (some 0) with kind := .array 8 .byte, interfaces := #[6, 7], accessFlags := 1041 }

/-- the primitive char -/
def k10 : Class := { plain "char" none with kind := .primitive 'C', accessFlags := 0x411 }
/-- [C -/
def k11 : Class := { plain "[C" (some 0) with kind := .array 10 .char, interfaces := #[6, 7], accessFlags := 1041 }

/-- the primitive int -/
def k12 : Class := { plain "int" none with kind := .primitive 'I', accessFlags := 0x411 }
/-- [I -/
def k13 : Class := { plain "[I" (some 0) with kind := .array 12 .int, interfaces := #[6, 7], accessFlags := 1041 }

def heap : Heap := #[]
def classes : Array Class := #[k0, k1, k2, k3, k4, k5, k6, k7, k8, k9, k10, k11, k12, k13]
def interned : List (Array UInt16 × Addr) := []
def slotsUsed : Nat := 0
def theMethod : MethodId := ⟨1, 1⟩
def args0 : Array Value := #[.long 5, .int 3, .int 3, .int 3, .int 3, .int 3]
def aboutOver (below : List Frame) : State where
  vm := { classes := classes, interned := interned.toArray }
  heap := heap
  slotsUsed := slotsUsed
  threads := #[{ frames := .invoking theMethod args0 :: below }]
def below0 : List Frame := [.native { method := ⟨0, 0⟩, args := #[] }]
def about1 : State := aboutOver below0
def p0 : Program := .bare "" "" ""
def e0 : Env := launch0.env 0 0 0
theorem w_frames : about1.frames = Frame.invoking theMethod args0 :: below0 := rfl
set_option maxRecDepth 65536 in
theorem w_args : argsFit about1.vm theMethod args0 = true := by decide +kernel
set_option maxRecDepth 65536 in
theorem w_heap : heapFits about1 = true := by decide +kernel
set_option maxRecDepth 65536 in
theorem w_runnable : about1.curStatus? = some .runnable := by decide +kernel
set_option maxRecDepth 65536 in
theorem w_alone : about1.alone = true := by decide +kernel
set_option maxRecDepth 65536 in
theorem w_named : about1.methodNamed? x = some theMethod := by decide +kernel
set_option maxRecDepth 65536 in
theorem w_hears : about1.hears theMethod below0 = true := by decide +kernel
set_option maxRecDepth 65536 in
theorem w_ripe : about1.ripe theMethod args0 below0 = true := by decide +kernel
theorem w_running : about1.status = .running := rfl
set_option maxRecDepth 65536 in
theorem w_room : about1.hasRoom e0.platform room_1 = true :=
  launch0.hasRoom_least _ room_1 (by decide +kernel) (by decide +kernel) (by decide +kernel) (by decide +kernel) (by decide +kernel) (by decide +kernel)
theorem allAtoms_all (ts : List Jvm.Cond) (a : Array Jvm.Value) (st : Jvm.State) : (allAtoms ts).before a st = ts.all (fun c => c.before a st) := by
  induction ts with
  | nil => rfl
  | cons c t ih =>
    show (Jvm.Cond.and c (allAtoms t)).before a st = _
    rw [Jvm.Cond.before_and, ih, List.all_cons]
def words1 : List Jvm.Cond := Jvm.Cond.code x code maxLocals ret :: tables_1
/-- a 'code' word, met by the world's own term for the bytes: nothing is compared byte by byte -/
theorem code_word {y : MethodName} {bytes : ByteArray} {mx : Nat} {rt : Option FieldType} {a : Array Value} {s : State} {m : MethodId} {meth : Method} {c : Code} (h1 : s.methodNamed? y = some m) (h2 : s.vm.method? m = some meth) (h3 : meth.code = some c) (h4 : c.code = bytes)
    (h5 : (c.maxLocals == mx && c.exceptionTable.isEmpty && decide (c.maxStack ≤ mostOperands) && decide (meth.sig.returnType = rt) && !meth.locks && decide (parseMethodDescriptor y.desc = some meth.sig)) = true) : (Jvm.Cond.code y bytes mx rt).before a s = true := by
  simp only [Bool.and_eq_true, beq_iff_eq, Bool.not_eq_true', decide_eq_true_eq] at h5
  obtain ⟨⟨⟨⟨⟨g1, g2⟩, g3⟩, g4⟩, g5⟩, g6⟩ := h5
  simp [Cond.before, Cond.holds, Cond.value, h1, h2, h3, h4, g1, g2, g3, g4, g5, g6]
def isCode : Jvm.Cond → Bool
  | .code _ _ _ _ => true
  | _ => false
theorem all_split {L : List Jvm.Cond} {P : Jvm.Cond → Bool} (h1 : L.all (fun c => isCode c || P c) = true) (h2 : ∀ c ∈ L.filter isCode, P c = true) : L.all P = true := by
  refine List.all_eq_true.mpr fun c hc => ?_
  have h := List.all_eq_true.mp h1 c hc
  rcases Bool.eq_false_or_eq_true (isCode c) with hi | hi
  · exact h2 c (List.mem_filter.mpr ⟨hc, hi⟩)
  · simpa [hi] using h
set_option maxRecDepth 65536 in
theorem w_c0 : (Jvm.Cond.code x code maxLocals ret).before args0 about1 = true := code_word (m := ⟨1, 1⟩) (meth := k1m1) (c := k1c1) (by decide +kernel) rfl rfl rfl (by decide +kernel)
set_option maxRecDepth 65536 in
theorem w_c1 : (Jvm.Cond.code ({ cls := "com/example/reckoner/reckoner/io/CharSlice", name := "<init>", desc := "()V" } : Jvm.MethodName) prog_4_method_1_code (1 : Nat) (Option.none : Option Jvm.ClassFile.FieldType)).before args0 about1 = true := code_word (m := ⟨3, 0⟩) (meth := k3m0) (c := k3c0) (by decide +kernel) rfl rfl rfl (by decide +kernel)
set_option maxRecDepth 65536 in
theorem w_c2 : (Jvm.Cond.code ({ cls := "java/lang/Object", name := "<init>", desc := "()V" } : Jvm.MethodName) object_method_1_code (1 : Nat) (Option.none : Option Jvm.ClassFile.FieldType)).before args0 about1 = true := code_word (m := ⟨0, 0⟩) (meth := k0m0) (c := k0c0) (by decide +kernel) rfl rfl rfl (by decide +kernel)
set_option maxRecDepth 65536 in
theorem w_c3 : (Jvm.Cond.code ({ cls := "com/example/reckoner/reckoner/io/CharSlice", name := "of", desc := "([CII)Lcom/example/reckoner/reckoner/io/CharSlice;" } : Jvm.MethodName) prog_4_method_2_code (4 : Nat) (Option.some (Jvm.ClassFile.FieldType.object "com/example/reckoner/reckoner/io/CharSlice"))).before args0 about1 = true := code_word (m := ⟨3, 1⟩) (meth := k3m1) (c := k3c1) (by decide +kernel) rfl rfl rfl (by decide +kernel)
set_option maxRecDepth 65536 in
theorem w_c4 : (Jvm.Cond.code ({ cls := "java/util/Objects", name := "checkFromIndexSize", desc := "(III)I" } : Jvm.MethodName) jdk_31_method_19_code (3 : Nat) (Option.some Jvm.ClassFile.FieldType.int)).before args0 about1 = true := code_word (m := ⟨4, 2⟩) (meth := k4m2) (c := k4c2) (by decide +kernel) rfl rfl rfl (by decide +kernel)
set_option maxRecDepth 65536 in
theorem w_c5 : (Jvm.Cond.code ({ cls := "jdk/internal/util/Preconditions", name := "checkFromIndexSize", desc := "(IIILjava/util/function/BiFunction;)I" } : Jvm.MethodName) jdk_41_method_13_code (4 : Nat) (Option.some Jvm.ClassFile.FieldType.int)).before args0 about1 = true := code_word (m := ⟨5, 2⟩) (meth := k5m2) (c := k5c2) (by decide +kernel) rfl rfl rfl (by decide +kernel)
set_option maxRecDepth 65536 in
theorem w_c6 : (Jvm.Cond.code ({ cls := "com/example/reckoner/reckoner/io/CharSlice", name := "charAt", desc := "(I)C" } : Jvm.MethodName) prog_4_method_4_code (2 : Nat) (Option.some Jvm.ClassFile.FieldType.char)).before args0 about1 = true := code_word (m := ⟨3, 2⟩) (meth := k3m2) (c := k3c2) (by decide +kernel) rfl rfl rfl (by decide +kernel)
set_option maxRecDepth 65536 in
theorem w_c7 : (Jvm.Cond.code ({ cls := "java/util/Objects", name := "checkIndex", desc := "(II)I" } : Jvm.MethodName) jdk_31_method_17_code (2 : Nat) (Option.some Jvm.ClassFile.FieldType.int)).before args0 about1 = true := code_word (m := ⟨4, 1⟩) (meth := k4m1) (c := k4c1) (by decide +kernel) rfl rfl rfl (by decide +kernel)
set_option maxRecDepth 65536 in
theorem w_c8 : (Jvm.Cond.code ({ cls := "jdk/internal/util/Preconditions", name := "checkIndex", desc := "(IILjava/util/function/BiFunction;)I" } : Jvm.MethodName) jdk_41_method_11_code (3 : Nat) (Option.some Jvm.ClassFile.FieldType.int)).before args0 about1 = true := code_word (m := ⟨5, 1⟩) (meth := k5m1) (c := k5c1) (by decide +kernel) rfl rfl rfl (by decide +kernel)
def codes1 : List Jvm.Cond := [Jvm.Cond.code x code maxLocals ret, Jvm.Cond.code ({ cls := "com/example/reckoner/reckoner/io/CharSlice", name := "<init>", desc := "()V" } : Jvm.MethodName) prog_4_method_1_code (1 : Nat) (Option.none : Option Jvm.ClassFile.FieldType), Jvm.Cond.code ({ cls := "java/lang/Object", name := "<init>", desc := "()V" } : Jvm.MethodName) object_method_1_code (1 : Nat) (Option.none : Option Jvm.ClassFile.FieldType), Jvm.Cond.code ({ cls := "com/example/reckoner/reckoner/io/CharSlice", name := "of", desc := "([CII)Lcom/example/reckoner/reckoner/io/CharSlice;" } : Jvm.MethodName) prog_4_method_2_code (4 : Nat) (Option.some (Jvm.ClassFile.FieldType.object "com/example/reckoner/reckoner/io/CharSlice")), Jvm.Cond.code ({ cls := "java/util/Objects", name := "checkFromIndexSize", desc := "(III)I" } : Jvm.MethodName) jdk_31_method_19_code (3 : Nat) (Option.some Jvm.ClassFile.FieldType.int), Jvm.Cond.code ({ cls := "jdk/internal/util/Preconditions", name := "checkFromIndexSize", desc := "(IIILjava/util/function/BiFunction;)I" } : Jvm.MethodName) jdk_41_method_13_code (4 : Nat) (Option.some Jvm.ClassFile.FieldType.int), Jvm.Cond.code ({ cls := "com/example/reckoner/reckoner/io/CharSlice", name := "charAt", desc := "(I)C" } : Jvm.MethodName) prog_4_method_4_code (2 : Nat) (Option.some Jvm.ClassFile.FieldType.char), Jvm.Cond.code ({ cls := "java/util/Objects", name := "checkIndex", desc := "(II)I" } : Jvm.MethodName) jdk_31_method_17_code (2 : Nat) (Option.some Jvm.ClassFile.FieldType.int), Jvm.Cond.code ({ cls := "jdk/internal/util/Preconditions", name := "checkIndex", desc := "(IILjava/util/function/BiFunction;)I" } : Jvm.MethodName) jdk_41_method_11_code (3 : Nat) (Option.some Jvm.ClassFile.FieldType.int)]
set_option maxRecDepth 65536 in
theorem codes_eq : words1.filter isCode = codes1 := rfl
theorem w_codes : ∀ c ∈ words1.filter isCode, c.before args0 about1 = true := by
  rw [codes_eq]
  intro c hc
  simp only [codes1, List.mem_cons, List.not_mem_nil, or_false] at hc
  rcases hc with rfl | rfl | rfl | rfl | rfl | rfl | rfl | rfl | rfl
  · exact w_c0
  · exact w_c1
  · exact w_c2
  · exact w_c3
  · exact w_c4
  · exact w_c5
  · exact w_c6
  · exact w_c7
  · exact w_c8
set_option maxRecDepth 65536 in
theorem w_t1 : (words1.take 24).all (fun c => isCode c || c.before args0 about1) = true := by decide +kernel
set_option maxRecDepth 65536 in
theorem w_t2 : (words1.drop 24).all (fun c => isCode c || c.before args0 about1) = true := by decide +kernel
theorem w_tables : (allAtoms (Jvm.Cond.code x code maxLocals ret :: tables_1)).before args0 about1 = true := by
  rw [allAtoms_all]
  show words1.all (fun c => c.before args0 about1) = true
  refine all_split ?_ w_codes
  rw [← List.take_append_drop 24 words1, List.all_append, w_t1, w_t2]
  rfl
set_option maxRecDepth 65536 in
theorem w_case : (Jvm.Cond.and given_1 narrow_1).before args0 about1 = true := by decide +kernel
theorem w_applies : (headSpec (Jvm.Cond.code x code maxLocals ret :: tables_1) room_1).applies x e0.platform about1 = true :=
  (Spec.applies_iff w_frames).mpr ⟨w_running, w_runnable, w_alone, w_named, w_hears, w_ripe, w_room, w_tables⟩
theorem atStart : AtStart classFile x code maxLocals ret World_1 tables_1 room_1 Calls_1 rest_1 Pre_1 launch0 p0 e0 about1 theMethod args0 below0 :=
  ⟨lists_1, trivial, launch0.admits_env _ _ _, launch0.least_env, fairChoices_fair.cas, fairChoices_fair.clock, w_frames, w_args, w_heap, w_applies, trivial, trivial, w_case⟩
end start1
theorem witness_1 : WitnessClaimed_1 := ⟨start1.p0, start1.e0, start1.about1, start1.theMethod, start1.args0, start1.below0, start1.atStart⟩
end Jvm.Pilot.@@N@@
