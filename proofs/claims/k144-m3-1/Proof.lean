import JvmDerived
import JvmDerived.Pilot.@@N@@Statement
import JvmDerived.Pilot.@@N@@Code
set_option linter.unusedVariables false
set_option linter.unusedSimpArgs false
namespace Jvm.Pilot.@@N@@
open Jvm Jvm.ClassFile Sem Op Lib Jvm.Free Jvm.Stand Jvm.LawKit Jvm.RoadKit Bundle Jvm.Pilot.@@N@@.Jvm.D
section Own
variable {p : Program} {l : Launch} {e : Env} {R : Room} {s : State} {m : MethodId} {args : Array Value} {below : List Frame} {meth : Method} {c : Code} {T T' : State} {locs : List Loc} {cells slots : Nat} {Z : State} {h h' : Heap} {P : Option Value → Heap → List Loc → Prop} {cm sm : Nat} {g g' : JFrame}
/-- from where the walk stands the body comes to its end, and P says what it leaves -/
def own_Go (p : Program) (e : Env) (below : List Frame) (s : State) (P : Option Value → Heap → List Loc → Prop) (cm sm : Nat) (T : State) (g : JFrame) : Prop :=
  ∃ s₂ o, Steps p.tables e below (T.setTop g) s₂ ∧ s₂.status = .running ∧ Ended s₂ below o ∧ ∃ v L, o = .returned v ∧ P v s₂.heap L ∧ FrameEnd s o s₂ L cm sm
theorem own_st (st : ∀ t, Steps p.tables e below (T'.setTop g') t → Steps p.tables e below (T.setTop g) t) (k : own_Go p e below s P cm sm T' g') : own_Go p e below s P cm sm T g := by
  obtain ⟨s₂, o, h1, h2⟩ := k; exact ⟨s₂, o, st _ h1, h2⟩
theorem own_tr (st : Steps p.tables e below (T.setTop g) (T'.setTop g')) (k : own_Go p e below s P cm sm T' g') : own_Go p e below s P cm sm T g := own_st (fun _ q => st.trans q) k
theorem own_out (X : Stand p l e R s m args below meth c T locs cells slots) {v : Option Value} (hv : meth.sig.returnType = none → v = none) (hlk : meth.locks = false) (eT : T.heap = h)
    (hret : ∀ fs, (∀ (f : JFrame) (acts : List Action), f.method = m → f.locked = none → f.entered = [] → (doReturn e (T.setTop f) acts v).1 = T.setFrames fs) → Steps p.tables e below (T.setTop g) (T.setFrames fs))
    (hP : P v h locs) (hc : cells ≤ cm) (hs : slots ≤ sm) : own_Go p e below s P cm sm T g := by
  obtain ⟨fs, hr, hrun, hended, hW, hsame⟩ := X.leave hv hlk
  subst eT
  exact ⟨_, _, hret fs hr, hrun, hended, v, locs, rfl, hP, ⟨_, rfl⟩, hW, hsame.mono hc hs⟩
theorem own_retI (X : Stand p l e R s m args below meth c T locs cells slots) (hx : p.tables.exec = Jvm.exec) (hret : meth.sig.returnType = some .int) (hlk : meth.locks = false) (eT : T.heap = h) {pc : Nat} {Ls : Array Slot} {z : Int32} {rest : List Value} (hd : decode c.code pc = .ok (.ireturn, 1))
    (hP : P (some (.int z)) h locs) (hc : cells ≤ cm) (hs : slots ≤ sm) : own_Go p e below s P cm sm T (mkF m pc Ls (.int z :: rest)) :=
  own_out X (fun q => by rw [hret] at q; cases q) hlk eT (fun fs hr => retOut X hx hret rfl (Or.inl ⟨rfl, Or.inl rfl, z, rfl⟩) hd hr) hP hc hs
theorem own_retN (X : Stand p l e R s m args below meth c T locs cells slots) (hx : p.tables.exec = Jvm.exec) {t : FieldType} (hret : meth.sig.returnType = some t) (hlk : meth.locks = false) (eT : T.heap = h) (ht : t = .boolean ∨ t = .byte ∨ t = .char ∨ t = .short) {pc : Nat} {Ls : Array Slot} {z : Int32} {rest : List Value} (hd : decode c.code pc = .ok (.ireturn, 1))
    (hP : P (some (.int (nar t z))) h locs) (hc : cells ≤ cm) (hs : slots ≤ sm) : own_Go p e below s P cm sm T (mkF m pc Ls (.int z :: rest)) :=
  own_out X (fun q => by rw [hret] at q; cases q) hlk eT (fun fs hr => retN X hx hret ht hd hr) hP hc hs
theorem own_retJ (X : Stand p l e R s m args below meth c T locs cells slots) (hx : p.tables.exec = Jvm.exec) (hret : meth.sig.returnType = some .long) (hlk : meth.locks = false) (eT : T.heap = h) {pc : Nat} {Ls : Array Slot} {z : Int64} {rest : List Value} (hd : decode c.code pc = .ok (.lreturn, 1))
    (hP : P (some (.long z)) h locs) (hc : cells ≤ cm) (hs : slots ≤ sm) : own_Go p e below s P cm sm T (mkF m pc Ls (.long z :: rest)) :=
  own_out X (fun q => by rw [hret] at q; cases q) hlk eT (fun fs hr => retOut X hx hret rfl (Or.inr (Or.inl ⟨rfl, rfl, z, rfl⟩)) hd hr) hP hc hs
theorem own_retR (X : Stand p l e R s m args below meth c T locs cells slots) (hx : p.tables.exec = Jvm.exec) {t : FieldType} (hret : meth.sig.returnType = some t) (hlk : meth.locks = false) (eT : T.heap = h) (ht : t.isReference = true) {pc : Nat} {Ls : Array Slot} {w : Value} (hw : w.isRef = true) {rest : List Value} (hd : decode c.code pc = .ok (.areturn, 1))
    (hP : P (some w) h locs) (hc : cells ≤ cm) (hs : slots ≤ sm) : own_Go p e below s P cm sm T (mkF m pc Ls (w :: rest)) :=
  own_out X (fun q => by rw [hret] at q; cases q) hlk eT (fun fs hr => retOut X hx hret (by cases t <;> cases w <;> first | rfl | (simp [Value.isRef] at hw; done) | (simp [FieldType.isReference] at ht; done)) (Or.inr (Or.inr (Or.inr (Or.inr ⟨rfl, ht, hw⟩)))) hd hr) hP hc hs
theorem own_ret0 (X : Stand p l e R s m args below meth c T locs cells slots) (hx : p.tables.exec = Jvm.exec) (hret : meth.sig.returnType = none) (hlk : meth.locks = false) (eT : T.heap = h) {pc : Nat} {Ls : Array Slot} (hd : decode c.code pc = .ok (.return_, 1))
    (hP : P none h locs) (hc : cells ≤ cm) (hs : slots ≤ sm) : own_Go p e below s P cm sm T (mkF m pc Ls []) :=
  own_out X (fun _ => rfl) hlk eT (fun fs hr => X.returnOut hx hret hd hr) hP hc hs
/-- an array by its length and what each place holds -/
def own_Av (Z : State) (h : Heap) (a : Addr) (k : ClassId) (ty : FieldType) (n : Nat) (f : Nat → Value) : Prop := ∃ cl : Cell, Arr Z h a cl ty ∧ cl.cls = k ∧ cl.slots.size = n ∧ ∀ j, j < n → cl.slots[j]? = some (f j)
variable {a b : Addr} {k : ClassId} {ty : FieldType} {n i sl : Nat} {f : Nat → Value} {v w : Value} {ws : List Addr} {z j x : Int32} {rest : List Value}
theorem own_Av.lt (F : own_Av Z h a k ty n f) : a < h.size := by obtain ⟨cl, A, -⟩ := F; exact A.lt
theorem own_Av.ext (F : own_Av Z h a k ty n f) (E : Ext h h') : own_Av Z h' a k ty n f := by obtain ⟨cl, A, r⟩ := F; exact ⟨cl, A.ext E, r⟩
theorem own_Av.other (F : own_Av Z h b k ty n f) (W : Wr h h' a sl v) (q : b ≠ a) : own_Av Z h' b k ty n f := by obtain ⟨cl, A, r⟩ := F; exact ⟨cl, A.other W q, r⟩
theorem own_Av.keep (F : own_Av Z h a k ty n f) (K : Keep h h' ws) (q : a ∉ ws) : own_Av Z h' a k ty n f := by obtain ⟨cl, A, r⟩ := F; exact ⟨cl, ⟨K.2.1 a cl A.1 q, A.2⟩, r⟩
theorem own_Av.new (A : Arr Z h a (newA k ty z) ty) (hz : z.toNatClampNeg = n) : own_Av Z h a k ty n (fun _ => defaultValue ty) := ⟨_, A, rfl, (sz_new _ _ _).trans hz, fun q hq => by
  subst hz; simp [newA, hq]⟩
theorem own_Av.set (F : own_Av Z h a k ty n f) (W : Wr h h' a i v) (hi : i < n) : own_Av Z h' a k ty n (fun q => if q = i then v else f q) := by
  obtain ⟨cl, A, r1, r2, r3⟩ := F
  refine ⟨_, A.same W, r1, by rw [sz_set]; exact r2, fun q hq => ?_⟩
  by_cases u : q = i
  · subst u; simp [Cell.setSlot, r2, hi]
  · have := r3 q hq; simp only [Cell.setSlot, u, if_false]; rw [Array.getElem?_setIfInBounds_ne (Ne.symm u)]; exact this
theorem own_Av.to {f' : Nat → Value} (F : own_Av Z h a k ty n f) (q : ∀ j, j < n → f j = f' j) : own_Av Z h a k ty n f' := by
  obtain ⟨cl, A, r1, r2, r3⟩ := F; exact ⟨cl, A, r1, r2, fun j hj => by rw [← q j hj]; exact r3 j hj⟩
theorem own_idx (hj : j.toInt = i) : j.toNatClampNeg = i := by simp [Int32.toNatClampNeg, hj]
theorem own_inb {cl : Cell} (hj : j.toInt = i) (hs : cl.slots.size = n) (hi : i < n) : ¬ (j < 0 ∨ cl.slots.size ≤ j.toNatClampNeg) := by
  rw [own_idx hj, hs, Int32.lt_iff_toInt_lt, hj]; have : (0 : Int32).toInt = 0 := rfl; omega
theorem own_stC (X : Stand p l e R s m args below meth c T locs cells slots) (hx : p.tables.exec = Jvm.exec) (hZ : Z.Warmed39 s.vm) (eT : T.heap = h) (F : own_Av Z h a k .char n f) (hj : j.toInt = i) (hi : i < n) (hg : g.method = m) (hs : g.stack = .int x :: .int j :: .ref a :: rest) (hd : decode c.code g.pc = .ok (.castore, 1)) :
    ∃ T' h', Stand p l e R s m args below meth c T' (locs ++ [⟨a, i⟩]) cells slots ∧ T'.heap = h' ∧ Wr h h' a i (.int (nar .char x)) ∧ own_Av Z h' a k .char n (fun q => if q = i then .int (nar .char x) else f q) ∧ ∀ target, Steps p.tables e below (T'.setTop { g with pc := g.pc + 1, stack := rest }) target → Steps p.tables e below (T.setTop g) target := by
  obtain ⟨cl, A, r1, r2, r3⟩ := F
  obtain ⟨T', h', X', e', W, st⟩ := stC X hx hZ eT A (own_inb hj r2 hi) hg hs hd
  rw [own_idx hj] at X' W
  exact ⟨T', h', X', e', W, own_Av.set ⟨cl, A, r1, r2, r3⟩ W hi, st⟩
theorem own_stB (X : Stand p l e R s m args below meth c T locs cells slots) (hx : p.tables.exec = Jvm.exec) (hZ : Z.Warmed39 s.vm) (eT : T.heap = h) (F : own_Av Z h a k .byte n f) (hj : j.toInt = i) (hi : i < n) (hg : g.method = m) (hs : g.stack = .int x :: .int j :: .ref a :: rest) (hd : decode c.code g.pc = .ok (.bastore, 1)) :
    ∃ T' h', Stand p l e R s m args below meth c T' (locs ++ [⟨a, i⟩]) cells slots ∧ T'.heap = h' ∧ Wr h h' a i (.int (nar .byte x)) ∧ own_Av Z h' a k .byte n (fun q => if q = i then .int (nar .byte x) else f q) ∧ ∀ target, Steps p.tables e below (T'.setTop { g with pc := g.pc + 1, stack := rest }) target → Steps p.tables e below (T.setTop g) target := by
  obtain ⟨cl, A, r1, r2, r3⟩ := F
  obtain ⟨T', h', X', e', W, st⟩ := stB X hx hZ eT A (own_inb hj r2 hi) hg hs hd
  rw [own_idx hj] at X' W
  exact ⟨T', h', X', e', W, own_Av.set ⟨cl, A, r1, r2, r3⟩ W hi, st⟩
theorem own_stI (X : Stand p l e R s m args below meth c T locs cells slots) (hx : p.tables.exec = Jvm.exec) (hZ : Z.Warmed39 s.vm) (eT : T.heap = h) (F : own_Av Z h a k .int n f) (hj : j.toInt = i) (hi : i < n) (hg : g.method = m) (hs : g.stack = .int x :: .int j :: .ref a :: rest) (hd : decode c.code g.pc = .ok (.iastore, 1)) :
    ∃ T' h', Stand p l e R s m args below meth c T' (locs ++ [⟨a, i⟩]) cells slots ∧ T'.heap = h' ∧ Wr h h' a i (.int x) ∧ own_Av Z h' a k .int n (fun q => if q = i then .int x else f q) ∧ ∀ target, Steps p.tables e below (T'.setTop { g with pc := g.pc + 1, stack := rest }) target → Steps p.tables e below (T.setTop g) target := by
  obtain ⟨cl, A, r1, r2, r3⟩ := F
  obtain ⟨T', h', X', e', W, st⟩ := stI X hx hZ eT A (own_inb hj r2 hi) hg hs hd
  rw [own_idx hj] at X' W
  exact ⟨T', h', X', e', W, own_Av.set ⟨cl, A, r1, r2, r3⟩ W hi, st⟩
theorem own_stJ {y : Int64} (X : Stand p l e R s m args below meth c T locs cells slots) (hx : p.tables.exec = Jvm.exec) (hZ : Z.Warmed39 s.vm) (eT : T.heap = h) (F : own_Av Z h a k .long n f) (hj : j.toInt = i) (hi : i < n) (hg : g.method = m) (hs : g.stack = .long y :: .int j :: .ref a :: rest) (hd : decode c.code g.pc = .ok (.lastore, 1)) :
    ∃ T' h', Stand p l e R s m args below meth c T' (locs ++ [⟨a, i⟩]) cells slots ∧ T'.heap = h' ∧ Wr h h' a i (.long y) ∧ own_Av Z h' a k .long n (fun q => if q = i then .long y else f q) ∧ ∀ target, Steps p.tables e below (T'.setTop { g with pc := g.pc + 1, stack := rest }) target → Steps p.tables e below (T.setTop g) target := by
  obtain ⟨cl, A, r1, r2, r3⟩ := F
  obtain ⟨T', h', X', e', W, st⟩ := stJ X hx hZ eT A (own_inb hj r2 hi) hg hs hd
  rw [own_idx hj] at X' W
  exact ⟨T', h', X', e', W, own_Av.set ⟨cl, A, r1, r2, r3⟩ W hi, st⟩
theorem own_stR {C : String} (X : Stand p l e R s m args below meth c T locs cells slots) (hx : p.tables.exec = Jvm.exec) (hZ : Z.Warmed39 s.vm) (eT : T.heap = h) (F : own_Av Z h a k (.object C) n f) (O : Ovr Z k C) (I : v = .null ∨ ∃ y, v = .ref y ∧ Ins Z h y C true) (hj : j.toInt = i) (hi : i < n) (hg : g.method = m) (hs : g.stack = v :: .int j :: .ref a :: rest) (hd : decode c.code g.pc = .ok (.aastore, 1)) :
    ∃ T' h', Stand p l e R s m args below meth c T' (locs ++ [⟨a, i⟩]) cells slots ∧ T'.heap = h' ∧ Wr h h' a i v ∧ own_Av Z h' a k (.object C) n (fun q => if q = i then v else f q) ∧ ∀ target, Steps p.tables e below (T'.setTop { g with pc := g.pc + 1, stack := rest }) target → Steps p.tables e below (T.setTop g) target := by
  obtain ⟨cl, A, r1, r2, r3⟩ := F
  have St : Sto Z h a v := by
    rcases I with rfl | ⟨y, rfl, I⟩
    · exact Or.inl rfl
    · exact Sto.ofV A r1 O I
  obtain ⟨T', h', X', e', W, st⟩ := stR X hx hZ eT A (own_inb hj r2 hi) rfl St hg hs hd
  rw [own_idx hj] at X' W
  exact ⟨T', h', X', e', W, own_Av.set ⟨cl, A, r1, r2, r3⟩ W hi, st⟩
theorem own_ldC (X : Stand p l e R s m args below meth c T locs cells slots) (hx : p.tables.exec = Jvm.exec) (hZ : Z.Warmed39 s.vm) (eT : T.heap = h) (F : own_Av Z h a k .char n f) (hj : j.toInt = i) (hi : i < n) (hv : f i = v) (hg : g.method = m) (hs : g.stack = .int j :: .ref a :: rest) (hd : decode c.code g.pc = .ok (.caload, 1)) (target : State)
    (hr : Steps p.tables e below (T.setTop { g with pc := g.pc + 1, stack := v :: rest }) target) : Steps p.tables e below (T.setTop g) target := by
  obtain ⟨cl, A, r1, r2, r3⟩ := F
  exact X.caload hx (by rw [eT]; exact A.1) (State.isArrayOf_alike hZ.alike A.2.1) A.2.2 (own_inb hj r2 hi) (by rw [own_idx hj, r3 i hi, hv]) hg hs hd target hr
theorem own_ldB (X : Stand p l e R s m args below meth c T locs cells slots) (hx : p.tables.exec = Jvm.exec) (hZ : Z.Warmed39 s.vm) (eT : T.heap = h) (F : own_Av Z h a k .byte n f) (hj : j.toInt = i) (hi : i < n) (hv : f i = v) (hg : g.method = m) (hs : g.stack = .int j :: .ref a :: rest) (hd : decode c.code g.pc = .ok (.baload, 1)) (target : State)
    (hr : Steps p.tables e below (T.setTop { g with pc := g.pc + 1, stack := v :: rest }) target) : Steps p.tables e below (T.setTop g) target := by
  obtain ⟨cl, A, r1, r2, r3⟩ := F
  exact X.baloadBytes hx (by rw [eT]; exact A.1) (State.isArrayOf_alike hZ.alike A.2.1) A.2.2 (own_inb hj r2 hi) (by rw [own_idx hj, r3 i hi, hv]) hg hs hd target hr
theorem own_ldI (X : Stand p l e R s m args below meth c T locs cells slots) (hx : p.tables.exec = Jvm.exec) (hZ : Z.Warmed39 s.vm) (eT : T.heap = h) (F : own_Av Z h a k .int n f) (hj : j.toInt = i) (hi : i < n) (hv : f i = v) (hg : g.method = m) (hs : g.stack = .int j :: .ref a :: rest) (hd : decode c.code g.pc = .ok (.iaload, 1)) (target : State)
    (hr : Steps p.tables e below (T.setTop { g with pc := g.pc + 1, stack := v :: rest }) target) : Steps p.tables e below (T.setTop g) target := by
  obtain ⟨cl, A, r1, r2, r3⟩ := F
  exact X.iaload hx (by rw [eT]; exact A.1) (State.isArrayOf_alike hZ.alike A.2.1) A.2.2 (own_inb hj r2 hi) (by rw [own_idx hj, r3 i hi, hv]) hg hs hd target hr
theorem own_ldR (X : Stand p l e R s m args below meth c T locs cells slots) (hx : p.tables.exec = Jvm.exec) (hZ : Z.Warmed39 s.vm) (eT : T.heap = h) (F : own_Av Z h a k ty n f) (hty : ty.isReference = true) (hj : j.toInt = i) (hi : i < n) (hv : f i = v) (hg : g.method = m) (hs : g.stack = .int j :: .ref a :: rest) (hd : decode c.code g.pc = .ok (.aaload, 1)) (target : State)
    (hr : Steps p.tables e below (T.setTop { g with pc := g.pc + 1, stack := v :: rest }) target) : Steps p.tables e below (T.setTop g) target := by
  obtain ⟨cl, A, r1, r2, r3⟩ := F
  exact X.aaload hx (by rw [eT]; exact A.1) (State.isArrayOf_alike hZ.alike A.2.1) hty A.2.2 (own_inb hj r2 hi) (by rw [own_idx hj, r3 i hi, hv]) hg hs hd target hr
theorem own_len (X : Stand p l e R s m args below meth c T locs cells slots) (hx : p.tables.exec = Jvm.exec) (hZ : Z.Warmed39 s.vm) (eT : T.heap = h) (F : own_Av Z h a k ty n f) (hz : n.toInt32 = z) (hg : g.method = m) (hs : g.stack = .ref a :: rest) (hd : decode c.code g.pc = .ok (.arraylength, 1)) (target : State)
    (hr : Steps p.tables e below (T.setTop { g with pc := g.pc + 1, stack := .int z :: rest }) target) : Steps p.tables e below (T.setTop g) target := by
  obtain ⟨cl, A, r1, r2, r3⟩ := F
  exact X.arraylength hx (by rw [eT]; exact A.1) (State.isArrayOf_alike hZ.alike A.2.1) hg hs hd target (by rw [r2, hz]; exact hr)
theorem own_ne (q : a < h.size) (r : b = h.size) : a ≠ b := Nat.ne_of_lt (Nat.lt_of_lt_of_le q (Nat.le_of_eq r.symm))
theorem own_ne2 (q : a < h.size) (r : h.size ≤ b) : a ≠ b := Nat.ne_of_lt (Nat.lt_of_lt_of_le q r)
theorem own_ge {n0 : Nat} (q : n0 ≤ h.size) (r : b = h.size) : n0 ≤ b := Nat.le_trans q (Nat.le_of_eq r.symm)
theorem own_store1 {L : Array Slot} {o : Slot} (hv : v.isRef = true) (hold : L[i]? = some o) (ho : o = .unset ∨ ∃ w, o = .val w ∧ w.category = 1) : storeLocals L i v = some (L.setIfInBounds i (.val v)) := XS.store1 hold ho (Jvm.Free.XT.cat1 hv)
theorem own_nref (ht : ty.isReference = true) (hv : v.isRef = true) : narrow ty v = v := by cases ty <;> cases v <;> first | rfl | (simp [Value.isRef] at hv; done) | (simp [FieldType.isReference] at ht; done)
theorem own_fref (ht : ty.isReference = true) (hv : v.isRef = true) : fits ty v = true := by cases ty <;> cases v <;> first | rfl | (simp [Value.isRef] at hv; done) | (simp [FieldType.isReference] at ht; done)
theorem own_fldI {t : Term} {C nm d : String} (ev : t.eval args s none [] s = some (.ref a)) (hq : (Cond.eq (Term.field t C nm d) (Term.int z)).value args s none s [] = some true) : Fld s s.heap a C nm d (.int z) := by
  obtain ⟨x, y, hx, hy, -, -⟩ := cmp_v (Or.inl hq)
  obtain rfl : y = .int z := (Option.some.inj hy).symm
  have : x = .int z := by simp only [Cond.value, hx, hy] at hq; cases x <;> simp at hq ⊢; exact hq
  rw [fld_at ev] at hx
  exact Fld.start (this ▸ hx)
theorem own_fldJ {t : Term} {C nm d : String} {z : Int64} (ev : t.eval args s none [] s = some (.ref a)) (hq : (Cond.eq (Term.field t C nm d) (Term.long z)).value args s none s [] = some true) : Fld s s.heap a C nm d (.long z) := by
  obtain ⟨x, y, hx, hy, -, -⟩ := cmp_v (Or.inl hq)
  obtain rfl : y = .long z := (Option.some.inj hy).symm
  have : x = .long z := by simp only [Cond.value, hx, hy] at hq; cases x <;> simp at hq ⊢; exact hq
  rw [fld_at ev] at hx
  exact Fld.start (this ▸ hx)
theorem own_fldN {t : Term} {C nm d : String} (ev : t.eval args s none [] s = some (.ref a)) (hq : (Cond.eq (Term.field t C nm d) Term.null).value args s none s [] = some true) : Fld s s.heap a C nm d .null := by
  have hx := null_v hq
  rw [fld_at ev] at hx
  exact Fld.start hx
theorem own_selP {y : MethodName} {nn : Nat} {a0 : Array Value} (hZ : Z.Warmed39 s.vm) (wi : (Cond.instantiable y.cls nn).before a0 Z = true) (wp : (Cond.privateMethod y).before a0 Z = true) (wm : (Cond.instanceMethod y).before a0 Z = true) (hy : y.cls ≠ "java/lang/invoke/MethodHandle" ∧ y.cls ≠ "java/lang/invoke/VarHandle") : (Cond.selects y.cls y y).before args s = true := by
  obtain ⟨c', k', h1, h2, -, h4, -⟩ := Cond.instantiable_spec (mv (args := args) hZ wi : (Cond.instantiable y.cls nn).before args s = true)
  exact selects_self_of_private h1 h2 (by simp at h4; exact h4.1) (Cond.privateMethod_at (mvP hZ wp (args := args))) (mv hZ wm) hy
end Own

def own_upd {β : Type} (f : Addr → β) (e : Addr) (v : β) : Addr → β := fun x => if x = e then v else f x
def own_St (Z : State) (h : Heap) (ix t : Addr) (k : ClassId) (es : List Addr) (n : Int32) (f : Nat → Value) (dl : Addr → Int64) (pl : Addr → Int32) : Prop :=
  Exa Z h ix "com/example/ovrdue/ovrdue/keyspace/DeadlineIndex" ∧ Fld Z h ix "com/example/ovrdue/ovrdue/keyspace/DeadlineIndex" "heap" "[Lcom/example/ovrdue/ovrdue/keyspace/Entry;" (.ref t) ∧ Fld Z h ix "com/example/ovrdue/ovrdue/keyspace/DeadlineIndex" "size" "I" (.int n) ∧ own_Av Z h t k (.object "com/example/ovrdue/ovrdue/keyspace/Entry") 16 f ∧ ∀ x, x ∈ es → Exa Z h x "com/example/ovrdue/ovrdue/keyspace/Entry" ∧ Fld Z h x "com/example/ovrdue/ovrdue/keyspace/Entry" "deadline" "J" (.long (dl x)) ∧ Fld Z h x "com/example/ovrdue/ovrdue/keyspace/Entry" "place" "I" (.int (pl x))
def own_Ds (Z : State) (n0 : Nat) (ix t : Addr) (k : ClassId) (es : List Addr) : Prop :=
  ix ≠ t ∧ n0 ≤ ix ∧ n0 ≤ t ∧ Ovr Z k "com/example/ovrdue/ovrdue/keyspace/Entry" ∧ (∀ x, x ∈ es → x ≠ ix ∧ x ≠ t ∧ n0 ≤ x) ∧ Jvm.RoadKit.slotOf Z "com/example/ovrdue/ovrdue/keyspace/DeadlineIndex" "heap" "[Lcom/example/ovrdue/ovrdue/keyspace/Entry;" ≠ Jvm.RoadKit.slotOf Z "com/example/ovrdue/ovrdue/keyspace/DeadlineIndex" "size" "I" ∧ Jvm.RoadKit.slotOf Z "com/example/ovrdue/ovrdue/keyspace/Entry" "deadline" "J" ≠ Jvm.RoadKit.slotOf Z "com/example/ovrdue/ovrdue/keyspace/Entry" "place" "I"
theorem own_z12 {z : Int32} {i : Nat} (hz : z.toInt = i) (hi : i = 1 ∨ i = 2) : z = 1 ∨ z = 2 := by
  rcases hi with u | u
  · left; subst u; exact Int32.toInt_inj.mp hz
  · right; subst u; exact Int32.toInt_inj.mp hz
section OwnSt
variable {Z : State} {h h' : Heap} {ix t e : Addr} {k : ClassId} {es : List Addr} {n z : Int32} {f : Nat → Value} {dl : Addr → Int64} {pl : Addr → Int32} {n0 i : Nat} {v : Value} {q : Int64}
theorem own_St.wArr (S : own_St Z h ix t k es n f dl pl) (D : own_Ds Z n0 ix t k es) (W : Wr h h' t i v) (hi : i < 16) : own_St Z h' ix t k es n (fun q => if q = i then v else f q) dl pl := by
  obtain ⟨s1, s2, s3, s4, s5⟩ := S
  obtain ⟨d1, d2, d3, d4, d5, d6, d7⟩ := D
  exact ⟨s1.wr W, s2.other W (Or.inl d1), s3.other W (Or.inl d1), s4.set W hi, fun x hx => ⟨(s5 x hx).1.wr W, (s5 x hx).2.1.other W (Or.inl (d5 x hx).2.1), (s5 x hx).2.2.other W (Or.inl (d5 x hx).2.1)⟩⟩
theorem own_St.wSize (S : own_St Z h ix t k es n f dl pl) (D : own_Ds Z n0 ix t k es) (W : Wr h h' ix (Jvm.RoadKit.slotOf Z "com/example/ovrdue/ovrdue/keyspace/DeadlineIndex" "size" "I") (.int z)) : own_St Z h' ix t k es z f dl pl := by
  obtain ⟨s1, s2, s3, s4, s5⟩ := S
  obtain ⟨d1, d2, d3, d4, d5, d6, d7⟩ := D
  exact ⟨s1.wr W, s2.other W (Or.inr d6), s3.same W, s4.other W (Ne.symm d1), fun x hx => ⟨(s5 x hx).1.wr W, (s5 x hx).2.1.other W (Or.inl (d5 x hx).1), (s5 x hx).2.2.other W (Or.inl (d5 x hx).1)⟩⟩
theorem own_St.wPl (S : own_St Z h ix t k es n f dl pl) (D : own_Ds Z n0 ix t k es) (he : e ∈ es) (W : Wr h h' e (Jvm.RoadKit.slotOf Z "com/example/ovrdue/ovrdue/keyspace/Entry" "place" "I") (.int z)) : own_St Z h' ix t k es n f dl (own_upd pl e z) := by
  obtain ⟨s1, s2, s3, s4, s5⟩ := S
  obtain ⟨d1, d2, d3, d4, d5, d6, d7⟩ := D
  refine ⟨s1.wr W, s2.other W (Or.inl (Ne.symm (d5 e he).1)), s3.other W (Or.inl (Ne.symm (d5 e he).1)), s4.other W (Ne.symm (d5 e he).2.1), fun x hx => ⟨(s5 x hx).1.wr W, ?_, ?_⟩⟩
  · exact (s5 x hx).2.1.other W (Or.inr d7)
  · by_cases u : x = e
    · subst u; rw [show own_upd pl x z x = z by simp [own_upd]]; exact (s5 x hx).2.2.same W
    · rw [show own_upd pl e z x = pl x by simp [own_upd, u]]; exact (s5 x hx).2.2.other W (Or.inl u)
theorem own_St.wDl (S : own_St Z h ix t k es n f dl pl) (D : own_Ds Z n0 ix t k es) (he : e ∈ es) (W : Wr h h' e (Jvm.RoadKit.slotOf Z "com/example/ovrdue/ovrdue/keyspace/Entry" "deadline" "J") (.long q)) : own_St Z h' ix t k es n f (own_upd dl e q) pl := by
  obtain ⟨s1, s2, s3, s4, s5⟩ := S
  obtain ⟨d1, d2, d3, d4, d5, d6, d7⟩ := D
  refine ⟨s1.wr W, s2.other W (Or.inl (Ne.symm (d5 e he).1)), s3.other W (Or.inl (Ne.symm (d5 e he).1)), s4.other W (Ne.symm (d5 e he).2.1), fun x hx => ⟨(s5 x hx).1.wr W, ?_, ?_⟩⟩
  · by_cases u : x = e
    · subst u; rw [show own_upd dl x q x = q by simp [own_upd]]; exact (s5 x hx).2.1.same W
    · rw [show own_upd dl e q x = dl x by simp [own_upd, u]]; exact (s5 x hx).2.1.other W (Or.inl u)
  · exact (s5 x hx).2.2.other W (Or.inr (Ne.symm d7))
end OwnSt
/-- what the heap of deadlines holds: its entries in their places, the least first -/
def own_Inv (dl : Addr → Int64) (pl : Addr → Int32) (f : Nat → Value) (xs : List Addr) (n : Int32) : Prop :=
  (xs = [] ∧ n = 0) ∨ (∃ x0, xs = [x0] ∧ n = 1 ∧ f 0 = .ref x0 ∧ pl x0 = 0) ∨
  (∃ x0 x1, xs = [x0, x1] ∧ n = 2 ∧ f 0 = .ref x0 ∧ f 1 = .ref x1 ∧ pl x0 = 0 ∧ pl x1 = 1 ∧ x0 ≠ x1 ∧ dl x0 ≤ dl x1) ∨
  (∃ x0 x1 x2, xs = [x0, x1, x2] ∧ n = 3 ∧ f 0 = .ref x0 ∧ f 1 = .ref x1 ∧ f 2 = .ref x2 ∧ pl x0 = 0 ∧ pl x1 = 1 ∧ pl x2 = 2 ∧ x0 ≠ x1 ∧ x0 ≠ x2 ∧ x1 ≠ x2 ∧ dl x0 ≤ dl x1 ∧ dl x0 ≤ dl x2)
def own_Mem (es : List Addr) (dl : Addr → Int64) (xs : List Addr) : Prop := (∀ x, x ∈ xs → x ∈ es) ∧ ∀ x, x ∈ es → (x ∈ xs ↔ dl x ≠ (-9223372036854775808 : Int64))
def own_Ix (Z : State) (h : Heap) (ix t : Addr) (k : ClassId) (es : List Addr) (dl : Addr → Int64) : Prop := ∃ xs f pl n, own_St Z h ix t k es n f dl pl ∧ own_Inv dl pl f xs n ∧ own_Mem es dl xs

theorem d8_0 : decode prog_6_method_10_code 0 = .ok (.aload_n 0, 1) := by decide +kernel
theorem d8_1 : decode prog_6_method_10_code 1 = .ok (.getfield 11, 3) := by decide +kernel
theorem d8_4 : decode prog_6_method_10_code 4 = .ok (.iload_n 2, 1) := by decide +kernel
theorem d8_5 : decode prog_6_method_10_code 5 = .ok (.aload_n 1, 1) := by decide +kernel
theorem d8_6 : decode prog_6_method_10_code 6 = .ok (.aastore, 1) := by decide +kernel
theorem d8_7 : decode prog_6_method_10_code 7 = .ok (.aload_n 1, 1) := by decide +kernel
theorem d8_8 : decode prog_6_method_10_code 8 = .ok (.iload_n 2, 1) := by decide +kernel
theorem d8_9 : decode prog_6_method_10_code 9 = .ok (.putfield 37, 3) := by decide +kernel
theorem d8_12 : decode prog_6_method_10_code 12 = .ok (.return_, 1) := by decide +kernel
theorem own_pn0 : plainName "com/example/ovrdue/ovrdue/keyspace/DeadlineIndex" = true := by first | (simp [plainName, overriddenIn]; done) | decide +kernel
def own_put_Q (Z : State) (ix : Addr) (en : Addr) (z : Int32) (t : Addr) (k : ClassId) (es : List Addr) (n : Int32) (f : Nat → Value) (dl : Addr → Int64) (pl : Addr → Int32) (i : Nat) (h0 : Heap) (n0 : Nat) (v : Option Value) (h : Heap) (L : List Loc) : Prop := v = none ∧ Fr n0 L ∧ h0.size ≤ h.size ∧ own_St Z h ix t k es n (fun q => if q = i then (.ref en) else f q) dl (own_upd pl en z)
set_option maxRecDepth 65536 in
set_option maxHeartbeats 40000000 in
theorem own_put (l : Launch) (Z : State) (a0 : Array Value) (hw : ∀ d ∈ tables_1, d.before a0 Z = true) (ws : List Jvm.Cond) (ix : Addr) (en : Addr) (z : Int32) (t : Addr) (k : ClassId) (es : List Addr) (n : Int32) (f : Nat → Value) (dl : Addr → Int64) (pl : Addr → Int32) (i : Nat) (h0 : Heap) (n0 : Nat) (Z0 : n0 ≤ h0.size) (D : own_Ds Z n0 ix t k es) (St : own_St Z h0 ix t k es n f dl pl) (hen : en ∈ es) (hz : z.toInt = i) (hi : i < 16) :
    MetFree l (⟨"com/example/ovrdue/ovrdue/keyspace/DeadlineIndex", "put", "(Lcom/example/ovrdue/ovrdue/keyspace/Entry;I)V"⟩ : MethodName) (head1 (Jvm.Cond.code (⟨"com/example/ovrdue/ovrdue/keyspace/DeadlineIndex", "put", "(Lcom/example/ovrdue/ovrdue/keyspace/Entry;I)V"⟩ : MethodName) prog_6_method_10_code 3 none :: ws) ({ frames := 0, cells := 0, slots := 0, locals := 0 } : Room)) (fun aa U0 => aa = #[(.ref ix), (.ref en), (.int z)] ∧ Z.Warmed39 U0.vm ∧ U0.heap = h0) (fun _ _ _ _ _ => True) (fun _ U0 o0 U1 => ∃ v0 L0, o0 = .returned v0 ∧ own_put_Q Z ix en z t k es n f dl pl i h0 n0 v0 U1.heap L0 ∧ FrameEnd U0 o0 U1 L0 ({ frames := 0, cells := 0, slots := 0, locals := 0 } : Room).cells ({ frames := 0, cells := 0, slots := 0, locals := 0 } : Room).slots) := by
  refine MetFree.of_bodySF (plainFor_of_name own_pn0) hisR ?_
  intro p e s m args below meth c s₁ Bd hml0 hP hK
  obtain ⟨rfl, hZ, hh⟩ := hP
  have hx := Bd.exec
  have hby := Bd.bytes
  have hml : c.maxLocals = 3 := hml0
  have hown : s.vm.findClass "com/example/ovrdue/ovrdue/keyspace/DeadlineIndex" = some m.cls := findClass_of_methodNamed Bd.named
  have hnm := (name_of_methodNamed Bd.named Bd.method).1
  have X0 : Stand p l e ({ frames := 0, cells := 0, slots := 0, locals := 0 } : Room) s m #[(.ref ix), (.ref en), (.int z)] below meth c s₁ [] 0 0 := Stand.of_body Bd
  have e0 : s₁.heap = h0 := by rw [← hh, Bd.state]; rfl
  have N0 := Fr.nil n0
  show own_Go p e below s (own_put_Q Z ix en z t k es n f dl pl i h0 n0) 0 0 s₁ (entryFrame m #[(.ref ix), (.ref en), (.int z)] 3)
  rw [show entryFrame m #[(.ref ix), (.ref en), (.int z)] 3 = mkF m 0 #[.val (.ref ix), .val (.ref en), .val (.int z)] [] from by first | (simp [entryFrame, mkF, argsToLocals, Value.category]; done) | rfl]
  have G0 : h0.size ≤ h0.size := Nat.le_refl _
  refine own_st (T' := s₁) (g' := (mkF m 1 #[.val (.ref ix), .val (.ref en), .val (.int z)] [(.ref ix)])) (fun _ k => XS.aloadN X0.here hx rfl (hb hby d8_0) rfl rfl k) ?_
  obtain ⟨T1, X1, e1, st1⟩ := getF X0 hx hZ hown (host := "") (Or.inl (hw _ (List.mem_of_getElem? (i := 12) rfl))) Via.refl e0 St.2.1 (g := (mkF m 1 #[.val (.ref ix), .val (.ref en), .val (.int z)] [(.ref ix)])) rfl rfl (hb hby d8_1)
  refine own_st (T' := T1) (g' := (mkF m 4 #[.val (.ref ix), .val (.ref en), .val (.int z)] [(.ref t)])) st1 ?_
  refine own_st (T' := T1) (g' := (mkF m 5 #[.val (.ref ix), .val (.ref en), .val (.int z)] [(.int z), (.ref t)])) (fun _ k => XS.iloadN X1.here hx rfl (hb hby d8_4) rfl k) ?_
  refine own_st (T' := T1) (g' := (mkF m 6 #[.val (.ref ix), .val (.ref en), .val (.int z)] [(.ref en), (.int z), (.ref t)])) (fun _ k => XS.aloadN X1.here hx rfl (hb hby d8_5) rfl rfl k) ?_
  obtain ⟨T2, h2, X2, e2, W2, V2, st2⟩ := own_stR X1 hx hZ e1 St.2.2.2.1 D.2.2.2.1 (Or.inr ⟨_, rfl, Ins.self (St.2.2.2.2 en hen).1⟩) (i := i) hz hi (g := (mkF m 6 #[.val (.ref ix), .val (.ref en), .val (.int z)] [(.ref en), (.int z), (.ref t)])) rfl rfl (hb hby d8_6)
  have Z0' := Nat.le_trans Z0 (Keep.of_wr W2).1
  have G0' := Nat.le_trans G0 (Keep.of_wr W2).1
  have N0' := Fr.snoc X2 N0 D.2.2.1
  have St := St.wArr D W2 (i := i) hi
  refine own_st (T' := T2) (g' := (mkF m 7 #[.val (.ref ix), .val (.ref en), .val (.int z)] [])) st2 ?_
  refine own_st (T' := T2) (g' := (mkF m 8 #[.val (.ref ix), .val (.ref en), .val (.int z)] [(.ref en)])) (fun _ k => XS.aloadN X2.here hx rfl (hb hby d8_7) rfl rfl k) ?_
  refine own_st (T' := T2) (g' := (mkF m 9 #[.val (.ref ix), .val (.ref en), .val (.int z)] [(.int z), (.ref en)])) (fun _ k => XS.iloadN X2.here hx rfl (hb hby d8_8) rfl k) ?_
  obtain ⟨T3, h3, X3, e3, W3, st3⟩ := putF X2 hx hZ hown (host := "") (Or.inl (hw _ (List.mem_of_getElem? (i := 55) rfl))) Via.refl e2 (St.2.2.2.2 en hen).2.2 (St.2.2.2.2 en hen).1 (Or.inl (hw _ (List.mem_of_getElem? (i := 56) rfl))) (hw _ (List.mem_of_getElem? (i := 15) rfl)) (ty := .int) (by decide) rfl rfl (g := (mkF m 9 #[.val (.ref ix), .val (.ref en), .val (.int z)] [(.int z), (.ref en)])) rfl rfl (hb hby d8_9)
  have Z0'' := Nat.le_trans Z0' (Keep.of_wr W3).1
  have G0'' := Nat.le_trans G0' (Keep.of_wr W3).1
  have N0'' := Fr.snoc X3 N0' (D.2.2.2.2.1 en hen).2.2
  have St := St.wPl D hen W3
  refine own_st (T' := T3) (g' := (mkF m 12 #[.val (.ref ix), .val (.ref en), .val (.int z)] [])) st3 ?_
  exact own_ret0 X3 hx Bd.returns Bd.notSynchronized e3 (hb hby d8_12) ⟨rfl, N0'', G0'', St⟩ (by decide) (by decide)
theorem d5_0 : decode prog_8_method_2_code 0 = .ok (.aload_n 0, 1) := by decide +kernel
theorem d5_1 : decode prog_8_method_2_code 1 = .ok (.getfield 13, 3) := by decide +kernel
theorem d5_4 : decode prog_8_method_2_code 4 = .ok (.ldc2_w 11, 3) := by decide +kernel
theorem d5_7 : decode prog_8_method_2_code 7 = .ok (.lcmp, 1) := by decide +kernel
theorem d5_8 : decode prog_8_method_2_code 8 = .ok (.ifCond .eq 7, 3) := by decide +kernel
theorem d5_11 : decode prog_8_method_2_code 11 = .ok (.iconst 1, 1) := by decide +kernel
theorem d5_12 : decode prog_8_method_2_code 12 = .ok (.goto 4, 3) := by decide +kernel
theorem d5_15 : decode prog_8_method_2_code 15 = .ok (.iconst 0, 1) := by decide +kernel
theorem d5_16 : decode prog_8_method_2_code 16 = .ok (.ireturn, 1) := by decide +kernel
theorem own_pn1 : plainName "com/example/ovrdue/ovrdue/keyspace/Entry" = true := by first | (simp [plainName, overriddenIn]; done) | decide +kernel
def own_has_Q (Z : State) (en : Addr) (d : Int64) (h0 : Heap) (n0 : Nat) (v : Option Value) (h : Heap) (L : List Loc) : Prop := v = some (.int (if d = (-9223372036854775808 : Int64) then 0 else 1)) ∧ Fr n0 L ∧ h = h0
set_option maxRecDepth 65536 in
set_option maxHeartbeats 40000000 in
theorem own_has (l : Launch) (Z : State) (a0 : Array Value) (hw : ∀ d ∈ tables_1, d.before a0 Z = true) (ws : List Jvm.Cond) (en : Addr) (d : Int64) (h0 : Heap) (n0 : Nat) (Z0 : n0 ≤ h0.size) (F : Fld Z h0 en "com/example/ovrdue/ovrdue/keyspace/Entry" "deadline" "J" (.long d)) :
    MetFree l (⟨"com/example/ovrdue/ovrdue/keyspace/Entry", "hasDeadline", "()Z"⟩ : MethodName) (head1 (Jvm.Cond.code (⟨"com/example/ovrdue/ovrdue/keyspace/Entry", "hasDeadline", "()Z"⟩ : MethodName) prog_8_method_2_code 1 (some .boolean) :: ws) ({ frames := 0, cells := 0, slots := 0, locals := 0 } : Room)) (fun aa U0 => aa = #[(.ref en)] ∧ Z.Warmed39 U0.vm ∧ U0.heap = h0) (fun _ _ _ _ _ => True) (fun _ U0 o0 U1 => ∃ v0 L0, o0 = .returned v0 ∧ own_has_Q Z en d h0 n0 v0 U1.heap L0 ∧ FrameEnd U0 o0 U1 L0 ({ frames := 0, cells := 0, slots := 0, locals := 0 } : Room).cells ({ frames := 0, cells := 0, slots := 0, locals := 0 } : Room).slots) := by
  refine MetFree.of_bodySF (plainFor_of_name own_pn1) hisR ?_
  intro p e s m args below meth c s₁ Bd hml0 hP hK
  obtain ⟨rfl, hZ, hh⟩ := hP
  have hx := Bd.exec
  have hby := Bd.bytes
  have hml : c.maxLocals = 1 := hml0
  have hown : s.vm.findClass "com/example/ovrdue/ovrdue/keyspace/Entry" = some m.cls := findClass_of_methodNamed Bd.named
  have hnm := (name_of_methodNamed Bd.named Bd.method).1
  have X0 : Stand p l e ({ frames := 0, cells := 0, slots := 0, locals := 0 } : Room) s m #[(.ref en)] below meth c s₁ [] 0 0 := Stand.of_body Bd
  have e0 : s₁.heap = h0 := by rw [← hh, Bd.state]; rfl
  have N0 := Fr.nil n0
  show own_Go p e below s (own_has_Q Z en d h0 n0) 0 0 s₁ (entryFrame m #[(.ref en)] 1)
  rw [show entryFrame m #[(.ref en)] 1 = mkF m 0 #[.val (.ref en)] [] from by first | (simp [entryFrame, mkF, argsToLocals, Value.category]; done) | rfl]
  refine own_st (T' := s₁) (g' := (mkF m 1 #[.val (.ref en)] [(.ref en)])) (fun _ k => XS.aloadN X0.here hx rfl (hb hby d5_0) rfl rfl k) ?_
  obtain ⟨T4, X4, e4, st4⟩ := getF X0 hx hZ hown (host := "") (Or.inl (hw _ (List.mem_of_getElem? (i := 22) rfl))) Via.refl e0 F (g := (mkF m 1 #[.val (.ref en)] [(.ref en)])) rfl rfl (hb hby d5_1)
  refine own_st (T' := T4) (g' := (mkF m 4 #[.val (.ref en)] [(.long d)])) st4 ?_
  refine own_st (T' := T4) (g' := (mkF m 7 #[.val (.ref en)] [(.long (-9223372036854775808 : Int64)), (.long d)])) (X4.ldc2Long hx hown (mvT hZ (hw _ (List.mem_of_getElem? (i := 21) rfl))) (g := (mkF m 4 #[.val (.ref en)] [(.long d)])) rfl (hb hby d5_4)) ?_
  refine own_st (T' := T4) (g' := (mkF m 8 #[.val (.ref en)] [(.int (lcmpW d (-9223372036854775808 : Int64)))])) (fun _ k => XS.lcmp X4.here hx rfl (hb hby d5_7) rfl k) ?_
  by_cases q1 : d = (-9223372036854775808 : Int64)
  · refine own_st (T' := T4) (g' := (mkF m 15 #[.val (.ref en)] [])) (fun _ k => XS.ifYes X4.here hx rfl (pc0 := 8) (pc' := 15) rfl (hb hby d5_8) rfl (Jvm.Free.XT.i0_eq_t ((lw_eq d (-9223372036854775808 : Int64)).mpr q1)) (by decide) (by decide) k) ?_
    refine own_st (T' := T4) (g' := (mkF m 16 #[.val (.ref en)] [(.int (0 : Int32))])) (fun _ k => XS.iconst X4.here hx rfl (hb hby d5_15) k) ?_
    exact own_retN X4 hx Bd.returns Bd.notSynchronized e4 (by simp) (hb hby d5_16) ⟨by simp [q1, nar], N0, rfl⟩ (by decide) (by decide)
  · refine own_st (T' := T4) (g' := (mkF m 11 #[.val (.ref en)] [])) (fun _ k => XS.ifNo X4.here hx rfl (hb hby d5_8) rfl (Jvm.Free.XT.i0_eq_f (mt (lw_eq d (-9223372036854775808 : Int64)).mp q1)) k) ?_
    refine own_st (T' := T4) (g' := (mkF m 12 #[.val (.ref en)] [(.int (1 : Int32))])) (fun _ k => XS.iconst X4.here hx rfl (hb hby d5_11) k) ?_
    refine own_st (T' := T4) (g' := (mkF m 16 #[.val (.ref en)] [(.int (1 : Int32))])) (fun _ k => XS.goto X4.here hx rfl (pc0 := 12) (pc' := 16) rfl (hb hby d5_12) (by decide) (by decide) k) ?_
    exact own_retN X4 hx Bd.returns Bd.notSynchronized e4 (by simp) (hb hby d5_16) ⟨by simp [q1, nar], N0, rfl⟩ (by decide) (by decide)
theorem own_pd0 : parseMethodDescriptor "(Lcom/example/ovrdue/ovrdue/keyspace/Entry;I)V" = some ⟨[(.object "com/example/ovrdue/ovrdue/keyspace/Entry"), .int], none⟩ := by decide +kernel
theorem d7_0 : decode prog_6_method_8_code 0 = .ok (.iload_n 2, 1) := by decide +kernel
theorem d7_1 : decode prog_6_method_8_code 1 = .ok (.ifCond .le 45, 3) := by decide +kernel
theorem d7_4 : decode prog_6_method_8_code 4 = .ok (.iload_n 2, 1) := by decide +kernel
theorem d7_5 : decode prog_6_method_8_code 5 = .ok (.iconst 1, 1) := by decide +kernel
theorem d7_6 : decode prog_6_method_8_code 6 = .ok (.isub, 1) := by decide +kernel
theorem d7_7 : decode prog_6_method_8_code 7 = .ok (.iconst 2, 1) := by decide +kernel
theorem d7_8 : decode prog_6_method_8_code 8 = .ok (.idiv, 1) := by decide +kernel
theorem d7_9 : decode prog_6_method_8_code 9 = .ok (.istore_n 3, 1) := by decide +kernel
theorem d7_10 : decode prog_6_method_8_code 10 = .ok (.aload_n 0, 1) := by decide +kernel
theorem d7_11 : decode prog_6_method_8_code 11 = .ok (.getfield 11, 3) := by decide +kernel
theorem d7_14 : decode prog_6_method_8_code 14 = .ok (.iload_n 3, 1) := by decide +kernel
theorem d7_15 : decode prog_6_method_8_code 15 = .ok (.aaload, 1) := by decide +kernel
theorem d7_16 : decode prog_6_method_8_code 16 = .ok (.astore 4, 2) := by decide +kernel
theorem d7_18 : decode prog_6_method_8_code 18 = .ok (.aload 4, 2) := by decide +kernel
theorem d7_20 : decode prog_6_method_8_code 20 = .ok (.getfield 33, 3) := by decide +kernel
theorem d7_23 : decode prog_6_method_8_code 23 = .ok (.aload_n 1, 1) := by decide +kernel
theorem d7_24 : decode prog_6_method_8_code 24 = .ok (.getfield 33, 3) := by decide +kernel
theorem d7_27 : decode prog_6_method_8_code 27 = .ok (.lcmp, 1) := by decide +kernel
theorem d7_28 : decode prog_6_method_8_code 28 = .ok (.ifCond .gt 6, 3) := by decide +kernel
theorem d7_31 : decode prog_6_method_8_code 31 = .ok (.goto 15, 3) := by decide +kernel
theorem d7_46 : decode prog_6_method_8_code 46 = .ok (.aload_n 0, 1) := by decide +kernel
theorem d7_47 : decode prog_6_method_8_code 47 = .ok (.aload_n 1, 1) := by decide +kernel
theorem d7_48 : decode prog_6_method_8_code 48 = .ok (.iload_n 2, 1) := by decide +kernel
theorem d7_49 : decode prog_6_method_8_code 49 = .ok (.invokevirtual 54, 3) := by decide +kernel
theorem d7_52 : decode prog_6_method_8_code 52 = .ok (.return_, 1) := by decide +kernel
def own_upA_Q (Z : State) (ix : Addr) (en : Addr) (z : Int32) (t : Addr) (k : ClassId) (es : List Addr) (n : Int32) (f : Nat → Value) (dl : Addr → Int64) (pl : Addr → Int32) (i : Nat) (p0 : Addr) (h0 : Heap) (n0 : Nat) (v : Option Value) (h : Heap) (L : List Loc) : Prop := v = none ∧ Fr n0 L ∧ h0.size ≤ h.size ∧ own_St Z h ix t k es n (fun q => if q = i then (.ref en) else f q) dl (own_upd pl en z)
set_option maxRecDepth 65536 in
set_option maxHeartbeats 40000000 in
theorem own_upA (l : Launch) (Z : State) (a0 : Array Value) (hw : ∀ d ∈ tables_1, d.before a0 Z = true) (ws : List Jvm.Cond) (ix : Addr) (en : Addr) (z : Int32) (t : Addr) (k : ClassId) (es : List Addr) (n : Int32) (f : Nat → Value) (dl : Addr → Int64) (pl : Addr → Int32) (i : Nat) (p0 : Addr) (h0 : Heap) (n0 : Nat) (Z0 : n0 ≤ h0.size) (D : own_Ds Z n0 ix t k es) (St : own_St Z h0 ix t k es n f dl pl) (hen : en ∈ es) (hz : z.toInt = i) (hi : i ≤ 2) (hp : i ≠ 0 → f 0 = .ref p0 ∧ p0 ∈ es ∧ ¬ dl en < dl p0) :
    MetFree l (⟨"com/example/ovrdue/ovrdue/keyspace/DeadlineIndex", "siftUp", "(Lcom/example/ovrdue/ovrdue/keyspace/Entry;I)V"⟩ : MethodName) (head1 (Jvm.Cond.code (⟨"com/example/ovrdue/ovrdue/keyspace/DeadlineIndex", "siftUp", "(Lcom/example/ovrdue/ovrdue/keyspace/Entry;I)V"⟩ : MethodName) prog_6_method_8_code 5 none :: ws) ({ frames := 1, cells := 0, slots := 0, locals := 14 } : Room)) (fun aa U0 => aa = #[(.ref ix), (.ref en), (.int z)] ∧ Z.Warmed39 U0.vm ∧ U0.heap = h0) (fun _ _ _ _ _ => True) (fun _ U0 o0 U1 => ∃ v0 L0, o0 = .returned v0 ∧ own_upA_Q Z ix en z t k es n f dl pl i p0 h0 n0 v0 U1.heap L0 ∧ FrameEnd U0 o0 U1 L0 ({ frames := 1, cells := 0, slots := 0, locals := 14 } : Room).cells ({ frames := 1, cells := 0, slots := 0, locals := 14 } : Room).slots) := by
  refine MetFree.of_bodySF (plainFor_of_name own_pn0) hisR ?_
  intro p e s m args below meth c s₁ Bd hml0 hP hK
  obtain ⟨rfl, hZ, hh⟩ := hP
  have hx := Bd.exec
  have hby := Bd.bytes
  have hml : c.maxLocals = 5 := hml0
  have hown : s.vm.findClass "com/example/ovrdue/ovrdue/keyspace/DeadlineIndex" = some m.cls := findClass_of_methodNamed Bd.named
  have hnm := (name_of_methodNamed Bd.named Bd.method).1
  have X0 : Stand p l e ({ frames := 1, cells := 0, slots := 0, locals := 14 } : Room) s m #[(.ref ix), (.ref en), (.int z)] below meth c s₁ [] 0 0 := Stand.of_body Bd
  have e0 : s₁.heap = h0 := by rw [← hh, Bd.state]; rfl
  have N0 := Fr.nil n0
  show own_Go p e below s (own_upA_Q Z ix en z t k es n f dl pl i p0 h0 n0) 0 0 s₁ (entryFrame m #[(.ref ix), (.ref en), (.int z)] 5)
  rw [show entryFrame m #[(.ref ix), (.ref en), (.int z)] 5 = mkF m 0 #[.val (.ref ix), .val (.ref en), .val (.int z), .unset, .unset] [] from by first | (simp [entryFrame, mkF, argsToLocals, Value.category]; done) | rfl]
  have G0 : h0.size ≤ h0.size := Nat.le_refl _
  refine own_st (T' := s₁) (g' := (mkF m 1 #[.val (.ref ix), .val (.ref en), .val (.int z), .unset, .unset] [(.int z)])) (fun _ k => XS.iloadN X0.here hx rfl (hb hby d7_0) rfl k) ?_
  by_cases q0 : (0 : Int32) < z
  · refine own_st (T' := s₁) (g' := (mkF m 4 #[.val (.ref ix), .val (.ref en), .val (.int z), .unset, .unset] [])) (fun _ k => XS.ifNo X0.here hx rfl (hb hby d7_1) rfl (Jvm.Free.XT.i0_le_f q0) k) ?_
    have hi0 : i ≠ 0 := fun u => by rw [Int32.lt_iff_toInt_lt] at q0; have : (0 : Int32).toInt = 0 := rfl; omega
    obtain ⟨hf0, hp0, hle⟩ := hp hi0
    have hz12 : z = 1 ∨ z = 2 := own_z12 hz (by omega)
    have hpar : (z - (1 : Int32)) / (2 : Int32) = 0 := by rcases hz12 with rfl | rfl <;> decide
    refine own_st (T' := s₁) (g' := (mkF m 5 #[.val (.ref ix), .val (.ref en), .val (.int z), .unset, .unset] [(.int z)])) (fun _ k => XS.iloadN X0.here hx rfl (hb hby d7_4) rfl k) ?_
    refine own_st (T' := s₁) (g' := (mkF m 6 #[.val (.ref ix), .val (.ref en), .val (.int z), .unset, .unset] [(.int (1 : Int32)), (.int z)])) (fun _ k => XS.iconst X0.here hx rfl (hb hby d7_5) k) ?_
    refine own_st (T' := s₁) (g' := (mkF m 7 #[.val (.ref ix), .val (.ref en), .val (.int z), .unset, .unset] [(.int (z - (1 : Int32)))])) (fun _ k => XS.isub X0.here hx rfl (hb hby d7_6) rfl k) ?_
    refine own_st (T' := s₁) (g' := (mkF m 8 #[.val (.ref ix), .val (.ref en), .val (.int z), .unset, .unset] [(.int (2 : Int32)), (.int (z - (1 : Int32)))])) (fun _ k => XS.iconst X0.here hx rfl (hb hby d7_7) k) ?_
    refine own_st (T' := s₁) (g' := (mkF m 9 #[.val (.ref ix), .val (.ref en), .val (.int z), .unset, .unset] [(.int ((z - (1 : Int32)) / (2 : Int32)))])) (fun _ k => XS.idiv X0.here hx rfl (hb hby d7_8) rfl (by decide) k) ?_
    rw [hpar]
    refine own_st (T' := s₁) (g' := (mkF m 10 #[.val (.ref ix), .val (.ref en), .val (.int z), .val (.int (0 : Int32)), .unset] [])) (fun _ k => XS.istoreN X0.here hx rfl (hb hby d7_9) rfl (l' := #[.val (.ref ix), .val (.ref en), .val (.int z), .val (.int (0 : Int32)), .unset]) rfl k) ?_
    refine own_st (T' := s₁) (g' := (mkF m 11 #[.val (.ref ix), .val (.ref en), .val (.int z), .val (.int (0 : Int32)), .unset] [(.ref ix)])) (fun _ k => XS.aloadN X0.here hx rfl (hb hby d7_10) rfl rfl k) ?_
    obtain ⟨T5, X5, e5, st5⟩ := getF X0 hx hZ hown (host := "") (Or.inl (hw _ (List.mem_of_getElem? (i := 12) rfl))) Via.refl e0 St.2.1 (g := (mkF m 11 #[.val (.ref ix), .val (.ref en), .val (.int z), .val (.int (0 : Int32)), .unset] [(.ref ix)])) rfl rfl (hb hby d7_11)
    refine own_st (T' := T5) (g' := (mkF m 14 #[.val (.ref ix), .val (.ref en), .val (.int z), .val (.int (0 : Int32)), .unset] [(.ref t)])) st5 ?_
    refine own_st (T' := T5) (g' := (mkF m 15 #[.val (.ref ix), .val (.ref en), .val (.int z), .val (.int (0 : Int32)), .unset] [(.int (0 : Int32)), (.ref t)])) (fun _ k => XS.iloadN X5.here hx rfl (hb hby d7_14) rfl k) ?_
    refine own_st (T' := T5) (g' := (mkF m 16 #[.val (.ref ix), .val (.ref en), .val (.int z), .val (.int (0 : Int32)), .unset] [(.ref p0)])) (own_ldR X5 hx hZ e5 St.2.2.2.1 rfl (i := 0) (by decide) (by decide) (v := (.ref p0)) hf0 (g := (mkF m 15 #[.val (.ref ix), .val (.ref en), .val (.int z), .val (.int (0 : Int32)), .unset] [(.int (0 : Int32)), (.ref t)])) rfl rfl (hb hby d7_15)) ?_
    refine own_st (T' := T5) (g' := (mkF m 18 #[.val (.ref ix), .val (.ref en), .val (.int z), .val (.int (0 : Int32)), .val (.ref p0)] [])) (fun _ k => XS.astore X5.here hx rfl (hb hby d7_16) rfl rfl (l' := #[.val (.ref ix), .val (.ref en), .val (.int z), .val (.int (0 : Int32)), .val (.ref p0)]) rfl k) ?_
    refine own_st (T' := T5) (g' := (mkF m 20 #[.val (.ref ix), .val (.ref en), .val (.int z), .val (.int (0 : Int32)), .val (.ref p0)] [(.ref p0)])) (fun _ k => XS.aload X5.here hx rfl (hb hby d7_18) rfl rfl k) ?_
    obtain ⟨T6, X6, e6, st6⟩ := getF X5 hx hZ hown (host := "") (Or.inl (hw _ (List.mem_of_getElem? (i := 45) rfl))) Via.refl e5 (St.2.2.2.2 p0 hp0).2.1 (g := (mkF m 20 #[.val (.ref ix), .val (.ref en), .val (.int z), .val (.int (0 : Int32)), .val (.ref p0)] [(.ref p0)])) rfl rfl (hb hby d7_20)
    refine own_st (T' := T6) (g' := (mkF m 23 #[.val (.ref ix), .val (.ref en), .val (.int z), .val (.int (0 : Int32)), .val (.ref p0)] [(.long (dl p0))])) st6 ?_
    refine own_st (T' := T6) (g' := (mkF m 24 #[.val (.ref ix), .val (.ref en), .val (.int z), .val (.int (0 : Int32)), .val (.ref p0)] [(.ref en), (.long (dl p0))])) (fun _ k => XS.aloadN X6.here hx rfl (hb hby d7_23) rfl rfl k) ?_
    obtain ⟨T7, X7, e7, st7⟩ := getF X6 hx hZ hown (host := "") (Or.inl (hw _ (List.mem_of_getElem? (i := 45) rfl))) Via.refl e6 (St.2.2.2.2 en hen).2.1 (g := (mkF m 24 #[.val (.ref ix), .val (.ref en), .val (.int z), .val (.int (0 : Int32)), .val (.ref p0)] [(.ref en), (.long (dl p0))])) rfl rfl (hb hby d7_24)
    refine own_st (T' := T7) (g' := (mkF m 27 #[.val (.ref ix), .val (.ref en), .val (.int z), .val (.int (0 : Int32)), .val (.ref p0)] [(.long (dl en)), (.long (dl p0))])) st7 ?_
    refine own_st (T' := T7) (g' := (mkF m 28 #[.val (.ref ix), .val (.ref en), .val (.int z), .val (.int (0 : Int32)), .val (.ref p0)] [(.int (lcmpW (dl p0) (dl en)))])) (fun _ k => XS.lcmp X7.here hx rfl (hb hby d7_27) rfl k) ?_
    refine own_st (T' := T7) (g' := (mkF m 31 #[.val (.ref ix), .val (.ref en), .val (.int z), .val (.int (0 : Int32)), .val (.ref p0)] [])) (fun _ k => XS.ifNo X7.here hx rfl (hb hby d7_28) rfl (Jvm.Free.XT.i0_gt_f (mt (lw_gt (dl p0) (dl en)).mp hle)) k) ?_
    refine own_st (T' := T7) (g' := (mkF m 46 #[.val (.ref ix), .val (.ref en), .val (.int z), .val (.int (0 : Int32)), .val (.ref p0)] [])) (fun _ k => XS.goto X7.here hx rfl (pc0 := 31) (pc' := 46) rfl (hb hby d7_31) (by decide) (by decide) k) ?_
    refine own_st (T' := T7) (g' := (mkF m 47 #[.val (.ref ix), .val (.ref en), .val (.int z), .val (.int (0 : Int32)), .val (.ref p0)] [(.ref ix)])) (fun _ k => XS.aloadN X7.here hx rfl (hb hby d7_46) rfl rfl k) ?_
    refine own_st (T' := T7) (g' := (mkF m 48 #[.val (.ref ix), .val (.ref en), .val (.int z), .val (.int (0 : Int32)), .val (.ref p0)] [(.ref en), (.ref ix)])) (fun _ k => XS.aloadN X7.here hx rfl (hb hby d7_47) rfl rfl k) ?_
    refine own_st (T' := T7) (g' := (mkF m 49 #[.val (.ref ix), .val (.ref en), .val (.int z), .val (.int (0 : Int32)), .val (.ref p0)] [(.int z), (.ref en), (.ref ix)])) (fun _ k => XS.iloadN X7.here hx rfl (hb hby d7_48) rfl k) ?_
    obtain ⟨cq8, q8, q8'⟩ := St.1.cell
    obtain ⟨_, _, ⟨T8, L8, k8, n8⟩, -, X8, ⟨Lc8, hQ8, l8, y8, z8⟩, st8⟩ := X7.privateBack hx (y := (⟨"com/example/ovrdue/ovrdue/keyspace/DeadlineIndex", "put", "(Lcom/example/ovrdue/ovrdue/keyspace/Entry;I)V"⟩ : MethodName)) hown (mvT hZ (hw _ (List.mem_of_getElem? (i := 50) rfl))) (mvT hZ (hw _ (List.mem_of_getElem? (i := 51) rfl))) (own_selP hZ (hw _ (List.mem_of_getElem? (i := 2) rfl)) (hw _ (List.mem_of_getElem? (i := 52) rfl)) (hw _ (List.mem_of_getElem? (i := 51) rfl)) (by decide)) (Cond.privateMethod_at (mvP hZ (hw _ (List.mem_of_getElem? (i := 52) rfl)) (args := #[]))) (mvT hZ (hw _ (List.mem_of_getElem? (i := 53) rfl))) (by decide) (backOf (W := 0) (own_put l Z a0 hw [] ix en z t k es n f dl pl i h0 n0 Z0 D St hen hz (by omega)) hZ (hw _ (List.mem_of_getElem? (i := 53) rfl)) (hw _ (List.mem_of_getElem? (i := 3) rfl)) (by decide) (by decide)) (g := (mkF m 49 #[.val (.ref ix), .val (.ref en), .val (.int z), .val (.int (0 : Int32)), .val (.ref p0)] [(.int z), (.ref en), (.ref ix)])) rfl (by rw [hml]; rfl) (Steps.refl _) (a := ix) (by first | exact q8 | (rw [e7]; exact q8)) q8' (argsL := [(.ref en), (.int z)]) (rest := []) (lenOf own_pd0 rfl) rfl (by show 2 * 0 + _ ≤ _; exact Nat.le_of_eq rfl) (hb hby d7_49) (fun _ _ => ⟨rfl, e7, (by decide : 0 + 0 ≤ _), (by decide : 0 + 0 ≤ _)⟩)
    dsimp only [Pt.U, Pt.locs, Pt.cells, Pt.slots] at X8 l8 y8 z8 st8 hQ8
    subst l8 y8 z8
    obtain ⟨rfl, N8q, K8, St⟩ := hQ8
    have N0' := Fr.app N0 N8q
    have Z0' := Nat.le_trans Z0 K8
    have G0' := Nat.le_trans G0 K8
    refine own_tr (T' := T8) (g' := (mkF m 52 #[.val (.ref ix), .val (.ref en), .val (.int z), .val (.int (0 : Int32)), .val (.ref p0)] [])) st8 ?_
    exact own_ret0 X8 hx Bd.returns Bd.notSynchronized rfl (hb hby d7_52) ⟨rfl, N0', G0', St⟩ (by decide) (by decide)
  · refine own_st (T' := s₁) (g' := (mkF m 46 #[.val (.ref ix), .val (.ref en), .val (.int z), .unset, .unset] [])) (fun _ k => XS.ifYes X0.here hx rfl (pc0 := 1) (pc' := 46) rfl (hb hby d7_1) rfl (Jvm.Free.XT.i0_le_t q0) (by decide) (by decide) k) ?_
    refine own_st (T' := s₁) (g' := (mkF m 47 #[.val (.ref ix), .val (.ref en), .val (.int z), .unset, .unset] [(.ref ix)])) (fun _ k => XS.aloadN X0.here hx rfl (hb hby d7_46) rfl rfl k) ?_
    refine own_st (T' := s₁) (g' := (mkF m 48 #[.val (.ref ix), .val (.ref en), .val (.int z), .unset, .unset] [(.ref en), (.ref ix)])) (fun _ k => XS.aloadN X0.here hx rfl (hb hby d7_47) rfl rfl k) ?_
    refine own_st (T' := s₁) (g' := (mkF m 49 #[.val (.ref ix), .val (.ref en), .val (.int z), .unset, .unset] [(.int z), (.ref en), (.ref ix)])) (fun _ k => XS.iloadN X0.here hx rfl (hb hby d7_48) rfl k) ?_
    obtain ⟨cq9, q9, q9'⟩ := St.1.cell
    obtain ⟨_, _, ⟨T9, L9, k9, n9⟩, -, X9, ⟨Lc9, hQ9, l9, y9, z9⟩, st9⟩ := X0.privateBack hx (y := (⟨"com/example/ovrdue/ovrdue/keyspace/DeadlineIndex", "put", "(Lcom/example/ovrdue/ovrdue/keyspace/Entry;I)V"⟩ : MethodName)) hown (mvT hZ (hw _ (List.mem_of_getElem? (i := 50) rfl))) (mvT hZ (hw _ (List.mem_of_getElem? (i := 51) rfl))) (own_selP hZ (hw _ (List.mem_of_getElem? (i := 2) rfl)) (hw _ (List.mem_of_getElem? (i := 52) rfl)) (hw _ (List.mem_of_getElem? (i := 51) rfl)) (by decide)) (Cond.privateMethod_at (mvP hZ (hw _ (List.mem_of_getElem? (i := 52) rfl)) (args := #[]))) (mvT hZ (hw _ (List.mem_of_getElem? (i := 53) rfl))) (by decide) (backOf (W := 0) (own_put l Z a0 hw [] ix en z t k es n f dl pl i h0 n0 Z0 D St hen hz (by omega)) hZ (hw _ (List.mem_of_getElem? (i := 53) rfl)) (hw _ (List.mem_of_getElem? (i := 3) rfl)) (by decide) (by decide)) (g := (mkF m 49 #[.val (.ref ix), .val (.ref en), .val (.int z), .unset, .unset] [(.int z), (.ref en), (.ref ix)])) rfl (by rw [hml]; rfl) (Steps.refl _) (a := ix) (by first | exact q9 | (rw [e0]; exact q9)) q9' (argsL := [(.ref en), (.int z)]) (rest := []) (lenOf own_pd0 rfl) rfl (by show 2 * 0 + _ ≤ _; exact Nat.le_of_eq rfl) (hb hby d7_49) (fun _ _ => ⟨rfl, e0, (by decide : 0 + 0 ≤ _), (by decide : 0 + 0 ≤ _)⟩)
    dsimp only [Pt.U, Pt.locs, Pt.cells, Pt.slots] at X9 l9 y9 z9 st9 hQ9
    subst l9 y9 z9
    obtain ⟨rfl, N9q, K9, St⟩ := hQ9
    have N0' := Fr.app N0 N9q
    have Z0' := Nat.le_trans Z0 K9
    have G0' := Nat.le_trans G0 K9
    refine own_tr (T' := T9) (g' := (mkF m 52 #[.val (.ref ix), .val (.ref en), .val (.int z), .unset, .unset] [])) st9 ?_
    exact own_ret0 X9 hx Bd.returns Bd.notSynchronized rfl (hb hby d7_52) ⟨rfl, N0', G0', St⟩ (by decide) (by decide)
theorem d7_34 : decode prog_6_method_8_code 34 = .ok (.aload_n 0, 1) := by decide +kernel
theorem d7_35 : decode prog_6_method_8_code 35 = .ok (.aload 4, 2) := by decide +kernel
theorem d7_37 : decode prog_6_method_8_code 37 = .ok (.iload_n 2, 1) := by decide +kernel
theorem d7_38 : decode prog_6_method_8_code 38 = .ok (.invokevirtual 54, 3) := by decide +kernel
theorem d7_41 : decode prog_6_method_8_code 41 = .ok (.iload_n 3, 1) := by decide +kernel
theorem d7_42 : decode prog_6_method_8_code 42 = .ok (.istore_n 2, 1) := by decide +kernel
theorem d7_43 : decode prog_6_method_8_code 43 = .ok (.goto (-43), 3) := by decide +kernel
def own_upB_Q (Z : State) (ix : Addr) (en : Addr) (z : Int32) (t : Addr) (k : ClassId) (es : List Addr) (n : Int32) (f : Nat → Value) (dl : Addr → Int64) (pl : Addr → Int32) (i : Nat) (p0 : Addr) (h0 : Heap) (n0 : Nat) (v : Option Value) (h : Heap) (L : List Loc) : Prop := v = none ∧ Fr n0 L ∧ h0.size ≤ h.size ∧ own_St Z h ix t k es n (fun q => if q = 0 then (.ref en) else (fun q => if q = i then (.ref p0) else f q) q) dl (own_upd (own_upd pl p0 z) en (0 : Int32))
set_option maxRecDepth 65536 in
set_option maxHeartbeats 40000000 in
theorem own_upB (l : Launch) (Z : State) (a0 : Array Value) (hw : ∀ d ∈ tables_1, d.before a0 Z = true) (ws : List Jvm.Cond) (ix : Addr) (en : Addr) (z : Int32) (t : Addr) (k : ClassId) (es : List Addr) (n : Int32) (f : Nat → Value) (dl : Addr → Int64) (pl : Addr → Int32) (i : Nat) (p0 : Addr) (h0 : Heap) (n0 : Nat) (Z0 : n0 ≤ h0.size) (D : own_Ds Z n0 ix t k es) (St : own_St Z h0 ix t k es n f dl pl) (hen : en ∈ es) (hp0 : p0 ∈ es) (hz : z.toInt = i) (hi : i = 1 ∨ i = 2) (hf0 : f 0 = .ref p0) (hlt : dl en < dl p0) :
    MetFree l (⟨"com/example/ovrdue/ovrdue/keyspace/DeadlineIndex", "siftUp", "(Lcom/example/ovrdue/ovrdue/keyspace/Entry;I)V"⟩ : MethodName) (head1 (Jvm.Cond.code (⟨"com/example/ovrdue/ovrdue/keyspace/DeadlineIndex", "siftUp", "(Lcom/example/ovrdue/ovrdue/keyspace/Entry;I)V"⟩ : MethodName) prog_6_method_8_code 5 none :: ws) ({ frames := 1, cells := 0, slots := 0, locals := 14 } : Room)) (fun aa U0 => aa = #[(.ref ix), (.ref en), (.int z)] ∧ Z.Warmed39 U0.vm ∧ U0.heap = h0) (fun _ _ _ _ _ => True) (fun _ U0 o0 U1 => ∃ v0 L0, o0 = .returned v0 ∧ own_upB_Q Z ix en z t k es n f dl pl i p0 h0 n0 v0 U1.heap L0 ∧ FrameEnd U0 o0 U1 L0 ({ frames := 1, cells := 0, slots := 0, locals := 14 } : Room).cells ({ frames := 1, cells := 0, slots := 0, locals := 14 } : Room).slots) := by
  refine MetFree.of_bodySF (plainFor_of_name own_pn0) hisR ?_
  intro p e s m args below meth c s₁ Bd hml0 hP hK
  obtain ⟨rfl, hZ, hh⟩ := hP
  have hx := Bd.exec
  have hby := Bd.bytes
  have hml : c.maxLocals = 5 := hml0
  have hown : s.vm.findClass "com/example/ovrdue/ovrdue/keyspace/DeadlineIndex" = some m.cls := findClass_of_methodNamed Bd.named
  have hnm := (name_of_methodNamed Bd.named Bd.method).1
  have X0 : Stand p l e ({ frames := 1, cells := 0, slots := 0, locals := 14 } : Room) s m #[(.ref ix), (.ref en), (.int z)] below meth c s₁ [] 0 0 := Stand.of_body Bd
  have e0 : s₁.heap = h0 := by rw [← hh, Bd.state]; rfl
  have N0 := Fr.nil n0
  show own_Go p e below s (own_upB_Q Z ix en z t k es n f dl pl i p0 h0 n0) 0 0 s₁ (entryFrame m #[(.ref ix), (.ref en), (.int z)] 5)
  rw [show entryFrame m #[(.ref ix), (.ref en), (.int z)] 5 = mkF m 0 #[.val (.ref ix), .val (.ref en), .val (.int z), .unset, .unset] [] from by first | (simp [entryFrame, mkF, argsToLocals, Value.category]; done) | rfl]
  have G0 : h0.size ≤ h0.size := Nat.le_refl _
  have hz12 : z = 1 ∨ z = 2 := own_z12 hz (by omega)
  have hpar : (z - (1 : Int32)) / (2 : Int32) = 0 := by rcases hz12 with rfl | rfl <;> decide
  have hpos : (0 : Int32) < z := by rcases hz12 with rfl | rfl <;> decide
  refine own_st (T' := s₁) (g' := (mkF m 1 #[.val (.ref ix), .val (.ref en), .val (.int z), .unset, .unset] [(.int z)])) (fun _ k => XS.iloadN X0.here hx rfl (hb hby d7_0) rfl k) ?_
  refine own_st (T' := s₁) (g' := (mkF m 4 #[.val (.ref ix), .val (.ref en), .val (.int z), .unset, .unset] [])) (fun _ k => XS.ifNo X0.here hx rfl (hb hby d7_1) rfl (Jvm.Free.XT.i0_le_f hpos) k) ?_
  refine own_st (T' := s₁) (g' := (mkF m 5 #[.val (.ref ix), .val (.ref en), .val (.int z), .unset, .unset] [(.int z)])) (fun _ k => XS.iloadN X0.here hx rfl (hb hby d7_4) rfl k) ?_
  refine own_st (T' := s₁) (g' := (mkF m 6 #[.val (.ref ix), .val (.ref en), .val (.int z), .unset, .unset] [(.int (1 : Int32)), (.int z)])) (fun _ k => XS.iconst X0.here hx rfl (hb hby d7_5) k) ?_
  refine own_st (T' := s₁) (g' := (mkF m 7 #[.val (.ref ix), .val (.ref en), .val (.int z), .unset, .unset] [(.int (z - (1 : Int32)))])) (fun _ k => XS.isub X0.here hx rfl (hb hby d7_6) rfl k) ?_
  refine own_st (T' := s₁) (g' := (mkF m 8 #[.val (.ref ix), .val (.ref en), .val (.int z), .unset, .unset] [(.int (2 : Int32)), (.int (z - (1 : Int32)))])) (fun _ k => XS.iconst X0.here hx rfl (hb hby d7_7) k) ?_
  refine own_st (T' := s₁) (g' := (mkF m 9 #[.val (.ref ix), .val (.ref en), .val (.int z), .unset, .unset] [(.int ((z - (1 : Int32)) / (2 : Int32)))])) (fun _ k => XS.idiv X0.here hx rfl (hb hby d7_8) rfl (by decide) k) ?_
  rw [hpar]
  refine own_st (T' := s₁) (g' := (mkF m 10 #[.val (.ref ix), .val (.ref en), .val (.int z), .val (.int (0 : Int32)), .unset] [])) (fun _ k => XS.istoreN X0.here hx rfl (hb hby d7_9) rfl (l' := #[.val (.ref ix), .val (.ref en), .val (.int z), .val (.int (0 : Int32)), .unset]) rfl k) ?_
  refine own_st (T' := s₁) (g' := (mkF m 11 #[.val (.ref ix), .val (.ref en), .val (.int z), .val (.int (0 : Int32)), .unset] [(.ref ix)])) (fun _ k => XS.aloadN X0.here hx rfl (hb hby d7_10) rfl rfl k) ?_
  obtain ⟨T10, X10, e10, st10⟩ := getF X0 hx hZ hown (host := "") (Or.inl (hw _ (List.mem_of_getElem? (i := 12) rfl))) Via.refl e0 St.2.1 (g := (mkF m 11 #[.val (.ref ix), .val (.ref en), .val (.int z), .val (.int (0 : Int32)), .unset] [(.ref ix)])) rfl rfl (hb hby d7_11)
  refine own_st (T' := T10) (g' := (mkF m 14 #[.val (.ref ix), .val (.ref en), .val (.int z), .val (.int (0 : Int32)), .unset] [(.ref t)])) st10 ?_
  refine own_st (T' := T10) (g' := (mkF m 15 #[.val (.ref ix), .val (.ref en), .val (.int z), .val (.int (0 : Int32)), .unset] [(.int (0 : Int32)), (.ref t)])) (fun _ k => XS.iloadN X10.here hx rfl (hb hby d7_14) rfl k) ?_
  refine own_st (T' := T10) (g' := (mkF m 16 #[.val (.ref ix), .val (.ref en), .val (.int z), .val (.int (0 : Int32)), .unset] [(.ref p0)])) (own_ldR X10 hx hZ e10 St.2.2.2.1 rfl (i := 0) (by decide) (by decide) (v := (.ref p0)) hf0 (g := (mkF m 15 #[.val (.ref ix), .val (.ref en), .val (.int z), .val (.int (0 : Int32)), .unset] [(.int (0 : Int32)), (.ref t)])) rfl rfl (hb hby d7_15)) ?_
  refine own_st (T' := T10) (g' := (mkF m 18 #[.val (.ref ix), .val (.ref en), .val (.int z), .val (.int (0 : Int32)), .val (.ref p0)] [])) (fun _ k => XS.astore X10.here hx rfl (hb hby d7_16) rfl rfl (l' := #[.val (.ref ix), .val (.ref en), .val (.int z), .val (.int (0 : Int32)), .val (.ref p0)]) rfl k) ?_
  refine own_st (T' := T10) (g' := (mkF m 20 #[.val (.ref ix), .val (.ref en), .val (.int z), .val (.int (0 : Int32)), .val (.ref p0)] [(.ref p0)])) (fun _ k => XS.aload X10.here hx rfl (hb hby d7_18) rfl rfl k) ?_
  obtain ⟨T11, X11, e11, st11⟩ := getF X10 hx hZ hown (host := "") (Or.inl (hw _ (List.mem_of_getElem? (i := 45) rfl))) Via.refl e10 (St.2.2.2.2 p0 hp0).2.1 (g := (mkF m 20 #[.val (.ref ix), .val (.ref en), .val (.int z), .val (.int (0 : Int32)), .val (.ref p0)] [(.ref p0)])) rfl rfl (hb hby d7_20)
  refine own_st (T' := T11) (g' := (mkF m 23 #[.val (.ref ix), .val (.ref en), .val (.int z), .val (.int (0 : Int32)), .val (.ref p0)] [(.long (dl p0))])) st11 ?_
  refine own_st (T' := T11) (g' := (mkF m 24 #[.val (.ref ix), .val (.ref en), .val (.int z), .val (.int (0 : Int32)), .val (.ref p0)] [(.ref en), (.long (dl p0))])) (fun _ k => XS.aloadN X11.here hx rfl (hb hby d7_23) rfl rfl k) ?_
  obtain ⟨T12, X12, e12, st12⟩ := getF X11 hx hZ hown (host := "") (Or.inl (hw _ (List.mem_of_getElem? (i := 45) rfl))) Via.refl e11 (St.2.2.2.2 en hen).2.1 (g := (mkF m 24 #[.val (.ref ix), .val (.ref en), .val (.int z), .val (.int (0 : Int32)), .val (.ref p0)] [(.ref en), (.long (dl p0))])) rfl rfl (hb hby d7_24)
  refine own_st (T' := T12) (g' := (mkF m 27 #[.val (.ref ix), .val (.ref en), .val (.int z), .val (.int (0 : Int32)), .val (.ref p0)] [(.long (dl en)), (.long (dl p0))])) st12 ?_
  refine own_st (T' := T12) (g' := (mkF m 28 #[.val (.ref ix), .val (.ref en), .val (.int z), .val (.int (0 : Int32)), .val (.ref p0)] [(.int (lcmpW (dl p0) (dl en)))])) (fun _ k => XS.lcmp X12.here hx rfl (hb hby d7_27) rfl k) ?_
  refine own_st (T' := T12) (g' := (mkF m 34 #[.val (.ref ix), .val (.ref en), .val (.int z), .val (.int (0 : Int32)), .val (.ref p0)] [])) (fun _ k => XS.ifYes X12.here hx rfl (pc0 := 28) (pc' := 34) rfl (hb hby d7_28) rfl (Jvm.Free.XT.i0_gt_t ((lw_gt (dl p0) (dl en)).mpr hlt)) (by decide) (by decide) k) ?_
  refine own_st (T' := T12) (g' := (mkF m 35 #[.val (.ref ix), .val (.ref en), .val (.int z), .val (.int (0 : Int32)), .val (.ref p0)] [(.ref ix)])) (fun _ k => XS.aloadN X12.here hx rfl (hb hby d7_34) rfl rfl k) ?_
  refine own_st (T' := T12) (g' := (mkF m 37 #[.val (.ref ix), .val (.ref en), .val (.int z), .val (.int (0 : Int32)), .val (.ref p0)] [(.ref p0), (.ref ix)])) (fun _ k => XS.aload X12.here hx rfl (hb hby d7_35) rfl rfl k) ?_
  refine own_st (T' := T12) (g' := (mkF m 38 #[.val (.ref ix), .val (.ref en), .val (.int z), .val (.int (0 : Int32)), .val (.ref p0)] [(.int z), (.ref p0), (.ref ix)])) (fun _ k => XS.iloadN X12.here hx rfl (hb hby d7_37) rfl k) ?_
  obtain ⟨cq13, q13, q13'⟩ := St.1.cell
  obtain ⟨_, _, ⟨T13, L13, k13, n13⟩, -, X13, ⟨Lc13, hQ13, l13, y13, z13⟩, st13⟩ := X12.privateBack hx (y := (⟨"com/example/ovrdue/ovrdue/keyspace/DeadlineIndex", "put", "(Lcom/example/ovrdue/ovrdue/keyspace/Entry;I)V"⟩ : MethodName)) hown (mvT hZ (hw _ (List.mem_of_getElem? (i := 50) rfl))) (mvT hZ (hw _ (List.mem_of_getElem? (i := 51) rfl))) (own_selP hZ (hw _ (List.mem_of_getElem? (i := 2) rfl)) (hw _ (List.mem_of_getElem? (i := 52) rfl)) (hw _ (List.mem_of_getElem? (i := 51) rfl)) (by decide)) (Cond.privateMethod_at (mvP hZ (hw _ (List.mem_of_getElem? (i := 52) rfl)) (args := #[]))) (mvT hZ (hw _ (List.mem_of_getElem? (i := 53) rfl))) (by decide) (backOf (W := 0) (own_put l Z a0 hw [] ix p0 z t k es n f dl pl i h0 n0 Z0 D St hp0 hz (by omega)) hZ (hw _ (List.mem_of_getElem? (i := 53) rfl)) (hw _ (List.mem_of_getElem? (i := 3) rfl)) (by decide) (by decide)) (g := (mkF m 38 #[.val (.ref ix), .val (.ref en), .val (.int z), .val (.int (0 : Int32)), .val (.ref p0)] [(.int z), (.ref p0), (.ref ix)])) rfl (by rw [hml]; rfl) (Steps.refl _) (a := ix) (by first | exact q13 | (rw [e12]; exact q13)) q13' (argsL := [(.ref p0), (.int z)]) (rest := []) (lenOf own_pd0 rfl) rfl (by show 2 * 0 + _ ≤ _; exact Nat.le_of_eq rfl) (hb hby d7_38) (fun _ _ => ⟨rfl, e12, (by decide : 0 + 0 ≤ _), (by decide : 0 + 0 ≤ _)⟩)
  dsimp only [Pt.U, Pt.locs, Pt.cells, Pt.slots] at X13 l13 y13 z13 st13 hQ13
  subst l13 y13 z13
  obtain ⟨rfl, N13q, K13, St⟩ := hQ13
  have N0' := Fr.app N0 N13q
  have Z0' := Nat.le_trans Z0 K13
  have G0' := Nat.le_trans G0 K13
  refine own_tr (T' := T13) (g' := (mkF m 41 #[.val (.ref ix), .val (.ref en), .val (.int z), .val (.int (0 : Int32)), .val (.ref p0)] [])) st13 ?_
  refine own_st (T' := T13) (g' := (mkF m 42 #[.val (.ref ix), .val (.ref en), .val (.int z), .val (.int (0 : Int32)), .val (.ref p0)] [(.int (0 : Int32))])) (fun _ k => XS.iloadN X13.here hx rfl (hb hby d7_41) rfl k) ?_
  refine own_st (T' := T13) (g' := (mkF m 43 #[.val (.ref ix), .val (.ref en), .val (.int (0 : Int32)), .val (.int (0 : Int32)), .val (.ref p0)] [])) (fun _ k => XS.istoreN X13.here hx rfl (hb hby d7_42) rfl (l' := #[.val (.ref ix), .val (.ref en), .val (.int (0 : Int32)), .val (.int (0 : Int32)), .val (.ref p0)]) rfl k) ?_
  refine own_st (T' := T13) (g' := (mkF m 0 #[.val (.ref ix), .val (.ref en), .val (.int (0 : Int32)), .val (.int (0 : Int32)), .val (.ref p0)] [])) (fun _ k => XS.goto X13.here hx rfl (pc0 := 43) (pc' := 0) rfl (hb hby d7_43) (by decide) (by decide) k) ?_
  refine own_st (T' := T13) (g' := (mkF m 1 #[.val (.ref ix), .val (.ref en), .val (.int (0 : Int32)), .val (.int (0 : Int32)), .val (.ref p0)] [(.int (0 : Int32))])) (fun _ k => XS.iloadN X13.here hx rfl (hb hby d7_0) rfl k) ?_
  refine own_st (T' := T13) (g' := (mkF m 46 #[.val (.ref ix), .val (.ref en), .val (.int (0 : Int32)), .val (.int (0 : Int32)), .val (.ref p0)] [])) (fun _ k => XS.ifYes X13.here hx rfl (pc0 := 1) (pc' := 46) rfl (hb hby d7_1) rfl (Jvm.Free.XT.i0_le_t (by decide)) (by decide) (by decide) k) ?_
  refine own_st (T' := T13) (g' := (mkF m 47 #[.val (.ref ix), .val (.ref en), .val (.int (0 : Int32)), .val (.int (0 : Int32)), .val (.ref p0)] [(.ref ix)])) (fun _ k => XS.aloadN X13.here hx rfl (hb hby d7_46) rfl rfl k) ?_
  refine own_st (T' := T13) (g' := (mkF m 48 #[.val (.ref ix), .val (.ref en), .val (.int (0 : Int32)), .val (.int (0 : Int32)), .val (.ref p0)] [(.ref en), (.ref ix)])) (fun _ k => XS.aloadN X13.here hx rfl (hb hby d7_47) rfl rfl k) ?_
  refine own_st (T' := T13) (g' := (mkF m 49 #[.val (.ref ix), .val (.ref en), .val (.int (0 : Int32)), .val (.int (0 : Int32)), .val (.ref p0)] [(.int (0 : Int32)), (.ref en), (.ref ix)])) (fun _ k => XS.iloadN X13.here hx rfl (hb hby d7_48) rfl k) ?_
  obtain ⟨cq14, q14, q14'⟩ := St.1.cell
  obtain ⟨_, _, ⟨T14, L14, k14, n14⟩, -, X14, ⟨Lc14, hQ14, l14, y14, z14⟩, st14⟩ := X13.privateBack hx (y := (⟨"com/example/ovrdue/ovrdue/keyspace/DeadlineIndex", "put", "(Lcom/example/ovrdue/ovrdue/keyspace/Entry;I)V"⟩ : MethodName)) hown (mvT hZ (hw _ (List.mem_of_getElem? (i := 50) rfl))) (mvT hZ (hw _ (List.mem_of_getElem? (i := 51) rfl))) (own_selP hZ (hw _ (List.mem_of_getElem? (i := 2) rfl)) (hw _ (List.mem_of_getElem? (i := 52) rfl)) (hw _ (List.mem_of_getElem? (i := 51) rfl)) (by decide)) (Cond.privateMethod_at (mvP hZ (hw _ (List.mem_of_getElem? (i := 52) rfl)) (args := #[]))) (mvT hZ (hw _ (List.mem_of_getElem? (i := 53) rfl))) (by decide) (backOf (W := 0) (own_put l Z a0 hw [] ix en (0 : Int32) t k es n (fun q => if q = i then (.ref p0) else f q) dl (own_upd pl p0 z) 0 T13.heap n0 Z0' D St hen (by decide) (by omega)) hZ (hw _ (List.mem_of_getElem? (i := 53) rfl)) (hw _ (List.mem_of_getElem? (i := 3) rfl)) (by decide) (by decide)) (g := (mkF m 49 #[.val (.ref ix), .val (.ref en), .val (.int (0 : Int32)), .val (.int (0 : Int32)), .val (.ref p0)] [(.int (0 : Int32)), (.ref en), (.ref ix)])) rfl (by rw [hml]; rfl) (Steps.refl _) (a := ix) (by first | exact q14 | (rw [rfl]; exact q14)) q14' (argsL := [(.ref en), (.int (0 : Int32))]) (rest := []) (lenOf own_pd0 rfl) rfl (by show 2 * 0 + _ ≤ _; exact Nat.le_of_eq rfl) (hb hby d7_49) (fun _ _ => ⟨rfl, rfl, (by decide : (0 + 0) + 0 ≤ _), (by decide : (0 + 0) + 0 ≤ _)⟩)
  dsimp only [Pt.U, Pt.locs, Pt.cells, Pt.slots] at X14 l14 y14 z14 st14 hQ14
  subst l14 y14 z14
  obtain ⟨rfl, N14q, K14, St⟩ := hQ14
  have N0'' := Fr.app N0' N14q
  have Z0'' := Nat.le_trans Z0' K14
  have G0'' := Nat.le_trans G0' K14
  refine own_tr (T' := T14) (g' := (mkF m 52 #[.val (.ref ix), .val (.ref en), .val (.int (0 : Int32)), .val (.int (0 : Int32)), .val (.ref p0)] [])) st14 ?_
  exact own_ret0 X14 hx Bd.returns Bd.notSynchronized rfl (hb hby d7_52) ⟨rfl, N0'', G0'', St⟩ (by decide) (by decide)
theorem d9_0 : decode prog_6_method_9_code 0 = .ok (.iload_n 2, 1) := by decide +kernel
theorem d9_1 : decode prog_6_method_9_code 1 = .ok (.aload_n 0, 1) := by decide +kernel
theorem d9_2 : decode prog_6_method_9_code 2 = .ok (.getfield 15, 3) := by decide +kernel
theorem d9_5 : decode prog_6_method_9_code 5 = .ok (.iconst 2, 1) := by decide +kernel
theorem d9_6 : decode prog_6_method_9_code 6 = .ok (.idiv, 1) := by decide +kernel
theorem d9_7 : decode prog_6_method_9_code 7 = .ok (.if_icmp .ge 82, 3) := by decide +kernel
theorem d9_89 : decode prog_6_method_9_code 89 = .ok (.aload_n 0, 1) := by decide +kernel
theorem d9_90 : decode prog_6_method_9_code 90 = .ok (.aload_n 1, 1) := by decide +kernel
theorem d9_91 : decode prog_6_method_9_code 91 = .ok (.iload_n 2, 1) := by decide +kernel
theorem d9_92 : decode prog_6_method_9_code 92 = .ok (.invokevirtual 54, 3) := by decide +kernel
theorem d9_95 : decode prog_6_method_9_code 95 = .ok (.return_, 1) := by decide +kernel
def own_dnA_Q (Z : State) (ix : Addr) (en : Addr) (z : Int32) (t : Addr) (k : ClassId) (es : List Addr) (n : Int32) (f : Nat → Value) (dl : Addr → Int64) (pl : Addr → Int32) (i : Nat) (h0 : Heap) (n0 : Nat) (v : Option Value) (h : Heap) (L : List Loc) : Prop := v = none ∧ Fr n0 L ∧ h0.size ≤ h.size ∧ own_St Z h ix t k es n (fun q => if q = i then (.ref en) else f q) dl (own_upd pl en z)
set_option maxRecDepth 65536 in
set_option maxHeartbeats 40000000 in
theorem own_dnA (l : Launch) (Z : State) (a0 : Array Value) (hw : ∀ d ∈ tables_1, d.before a0 Z = true) (ws : List Jvm.Cond) (ix : Addr) (en : Addr) (z : Int32) (t : Addr) (k : ClassId) (es : List Addr) (n : Int32) (f : Nat → Value) (dl : Addr → Int64) (pl : Addr → Int32) (i : Nat) (h0 : Heap) (n0 : Nat) (Z0 : n0 ≤ h0.size) (D : own_Ds Z n0 ix t k es) (St : own_St Z h0 ix t k es n f dl pl) (hen : en ∈ es) (hz : z.toInt = i) (hi : i ≤ 2) (hleaf : ¬ z < n / (2 : Int32)) :
    MetFree l (⟨"com/example/ovrdue/ovrdue/keyspace/DeadlineIndex", "siftDown", "(Lcom/example/ovrdue/ovrdue/keyspace/Entry;I)V"⟩ : MethodName) (head1 (Jvm.Cond.code (⟨"com/example/ovrdue/ovrdue/keyspace/DeadlineIndex", "siftDown", "(Lcom/example/ovrdue/ovrdue/keyspace/Entry;I)V"⟩ : MethodName) prog_6_method_9_code 5 none :: ws) ({ frames := 1, cells := 0, slots := 0, locals := 14 } : Room)) (fun aa U0 => aa = #[(.ref ix), (.ref en), (.int z)] ∧ Z.Warmed39 U0.vm ∧ U0.heap = h0) (fun _ _ _ _ _ => True) (fun _ U0 o0 U1 => ∃ v0 L0, o0 = .returned v0 ∧ own_dnA_Q Z ix en z t k es n f dl pl i h0 n0 v0 U1.heap L0 ∧ FrameEnd U0 o0 U1 L0 ({ frames := 1, cells := 0, slots := 0, locals := 14 } : Room).cells ({ frames := 1, cells := 0, slots := 0, locals := 14 } : Room).slots) := by
  refine MetFree.of_bodySF (plainFor_of_name own_pn0) hisR ?_
  intro p e s m args below meth c s₁ Bd hml0 hP hK
  obtain ⟨rfl, hZ, hh⟩ := hP
  have hx := Bd.exec
  have hby := Bd.bytes
  have hml : c.maxLocals = 5 := hml0
  have hown : s.vm.findClass "com/example/ovrdue/ovrdue/keyspace/DeadlineIndex" = some m.cls := findClass_of_methodNamed Bd.named
  have hnm := (name_of_methodNamed Bd.named Bd.method).1
  have X0 : Stand p l e ({ frames := 1, cells := 0, slots := 0, locals := 14 } : Room) s m #[(.ref ix), (.ref en), (.int z)] below meth c s₁ [] 0 0 := Stand.of_body Bd
  have e0 : s₁.heap = h0 := by rw [← hh, Bd.state]; rfl
  have N0 := Fr.nil n0
  show own_Go p e below s (own_dnA_Q Z ix en z t k es n f dl pl i h0 n0) 0 0 s₁ (entryFrame m #[(.ref ix), (.ref en), (.int z)] 5)
  rw [show entryFrame m #[(.ref ix), (.ref en), (.int z)] 5 = mkF m 0 #[.val (.ref ix), .val (.ref en), .val (.int z), .unset, .unset] [] from by first | (simp [entryFrame, mkF, argsToLocals, Value.category]; done) | rfl]
  have G0 : h0.size ≤ h0.size := Nat.le_refl _
  refine own_st (T' := s₁) (g' := (mkF m 1 #[.val (.ref ix), .val (.ref en), .val (.int z), .unset, .unset] [(.int z)])) (fun _ k => XS.iloadN X0.here hx rfl (hb hby d9_0) rfl k) ?_
  refine own_st (T' := s₁) (g' := (mkF m 2 #[.val (.ref ix), .val (.ref en), .val (.int z), .unset, .unset] [(.ref ix), (.int z)])) (fun _ k => XS.aloadN X0.here hx rfl (hb hby d9_1) rfl rfl k) ?_
  obtain ⟨T15, X15, e15, st15⟩ := getF X0 hx hZ hown (host := "") (Or.inl (hw _ (List.mem_of_getElem? (i := 43) rfl))) Via.refl e0 St.2.2.1 (g := (mkF m 2 #[.val (.ref ix), .val (.ref en), .val (.int z), .unset, .unset] [(.ref ix), (.int z)])) rfl rfl (hb hby d9_2)
  refine own_st (T' := T15) (g' := (mkF m 5 #[.val (.ref ix), .val (.ref en), .val (.int z), .unset, .unset] [(.int n), (.int z)])) st15 ?_
  refine own_st (T' := T15) (g' := (mkF m 6 #[.val (.ref ix), .val (.ref en), .val (.int z), .unset, .unset] [(.int (2 : Int32)), (.int n), (.int z)])) (fun _ k => XS.iconst X15.here hx rfl (hb hby d9_5) k) ?_
  refine own_st (T' := T15) (g' := (mkF m 7 #[.val (.ref ix), .val (.ref en), .val (.int z), .unset, .unset] [(.int (n / (2 : Int32))), (.int z)])) (fun _ k => XS.idiv X15.here hx rfl (hb hby d9_6) rfl (by decide) k) ?_
  refine own_st (T' := T15) (g' := (mkF m 89 #[.val (.ref ix), .val (.ref en), .val (.int z), .unset, .unset] [])) (fun _ k => XS.icmpYes X15.here hx rfl (pc0 := 7) (pc' := 89) rfl (hb hby d9_7) rfl (Jvm.Free.XT.ii_ge_t hleaf) (by decide) (by decide) k) ?_
  refine own_st (T' := T15) (g' := (mkF m 90 #[.val (.ref ix), .val (.ref en), .val (.int z), .unset, .unset] [(.ref ix)])) (fun _ k => XS.aloadN X15.here hx rfl (hb hby d9_89) rfl rfl k) ?_
  refine own_st (T' := T15) (g' := (mkF m 91 #[.val (.ref ix), .val (.ref en), .val (.int z), .unset, .unset] [(.ref en), (.ref ix)])) (fun _ k => XS.aloadN X15.here hx rfl (hb hby d9_90) rfl rfl k) ?_
  refine own_st (T' := T15) (g' := (mkF m 92 #[.val (.ref ix), .val (.ref en), .val (.int z), .unset, .unset] [(.int z), (.ref en), (.ref ix)])) (fun _ k => XS.iloadN X15.here hx rfl (hb hby d9_91) rfl k) ?_
  obtain ⟨cq16, q16, q16'⟩ := St.1.cell
  obtain ⟨_, _, ⟨T16, L16, k16, n16⟩, -, X16, ⟨Lc16, hQ16, l16, y16, z16⟩, st16⟩ := X15.privateBack hx (y := (⟨"com/example/ovrdue/ovrdue/keyspace/DeadlineIndex", "put", "(Lcom/example/ovrdue/ovrdue/keyspace/Entry;I)V"⟩ : MethodName)) hown (mvT hZ (hw _ (List.mem_of_getElem? (i := 50) rfl))) (mvT hZ (hw _ (List.mem_of_getElem? (i := 51) rfl))) (own_selP hZ (hw _ (List.mem_of_getElem? (i := 2) rfl)) (hw _ (List.mem_of_getElem? (i := 52) rfl)) (hw _ (List.mem_of_getElem? (i := 51) rfl)) (by decide)) (Cond.privateMethod_at (mvP hZ (hw _ (List.mem_of_getElem? (i := 52) rfl)) (args := #[]))) (mvT hZ (hw _ (List.mem_of_getElem? (i := 53) rfl))) (by decide) (backOf (W := 0) (own_put l Z a0 hw [] ix en z t k es n f dl pl i h0 n0 Z0 D St hen hz (by omega)) hZ (hw _ (List.mem_of_getElem? (i := 53) rfl)) (hw _ (List.mem_of_getElem? (i := 3) rfl)) (by decide) (by decide)) (g := (mkF m 92 #[.val (.ref ix), .val (.ref en), .val (.int z), .unset, .unset] [(.int z), (.ref en), (.ref ix)])) rfl (by rw [hml]; rfl) (Steps.refl _) (a := ix) (by first | exact q16 | (rw [e15]; exact q16)) q16' (argsL := [(.ref en), (.int z)]) (rest := []) (lenOf own_pd0 rfl) rfl (by show 2 * 0 + _ ≤ _; exact Nat.le_of_eq rfl) (hb hby d9_92) (fun _ _ => ⟨rfl, e15, (by decide : 0 + 0 ≤ _), (by decide : 0 + 0 ≤ _)⟩)
  dsimp only [Pt.U, Pt.locs, Pt.cells, Pt.slots] at X16 l16 y16 z16 st16 hQ16
  subst l16 y16 z16
  obtain ⟨rfl, N16q, K16, St⟩ := hQ16
  have N0' := Fr.app N0 N16q
  have Z0' := Nat.le_trans Z0 K16
  have G0' := Nat.le_trans G0 K16
  refine own_tr (T' := T16) (g' := (mkF m 95 #[.val (.ref ix), .val (.ref en), .val (.int z), .unset, .unset] [])) st16 ?_
  exact own_ret0 X16 hx Bd.returns Bd.notSynchronized rfl (hb hby d9_95) ⟨rfl, N0', G0', St⟩ (by decide) (by decide)
theorem d9_10 : decode prog_6_method_9_code 10 = .ok (.iconst 2, 1) := by decide +kernel
theorem d9_11 : decode prog_6_method_9_code 11 = .ok (.iload_n 2, 1) := by decide +kernel
theorem d9_12 : decode prog_6_method_9_code 12 = .ok (.imul, 1) := by decide +kernel
theorem d9_13 : decode prog_6_method_9_code 13 = .ok (.iconst 1, 1) := by decide +kernel
theorem d9_14 : decode prog_6_method_9_code 14 = .ok (.iadd, 1) := by decide +kernel
theorem d9_15 : decode prog_6_method_9_code 15 = .ok (.istore_n 3, 1) := by decide +kernel
theorem d9_16 : decode prog_6_method_9_code 16 = .ok (.iload_n 3, 1) := by decide +kernel
theorem d9_17 : decode prog_6_method_9_code 17 = .ok (.iconst 1, 1) := by decide +kernel
theorem d9_18 : decode prog_6_method_9_code 18 = .ok (.iadd, 1) := by decide +kernel
theorem d9_19 : decode prog_6_method_9_code 19 = .ok (.aload_n 0, 1) := by decide +kernel
theorem d9_20 : decode prog_6_method_9_code 20 = .ok (.getfield 15, 3) := by decide +kernel
theorem d9_23 : decode prog_6_method_9_code 23 = .ok (.if_icmp .ge 30, 3) := by decide +kernel
theorem d9_26 : decode prog_6_method_9_code 26 = .ok (.aload_n 0, 1) := by decide +kernel
theorem d9_27 : decode prog_6_method_9_code 27 = .ok (.getfield 11, 3) := by decide +kernel
theorem d9_30 : decode prog_6_method_9_code 30 = .ok (.iload_n 3, 1) := by decide +kernel
theorem d9_31 : decode prog_6_method_9_code 31 = .ok (.iconst 1, 1) := by decide +kernel
theorem d9_32 : decode prog_6_method_9_code 32 = .ok (.iadd, 1) := by decide +kernel
theorem d9_33 : decode prog_6_method_9_code 33 = .ok (.aaload, 1) := by decide +kernel
theorem d9_34 : decode prog_6_method_9_code 34 = .ok (.getfield 33, 3) := by decide +kernel
theorem d9_37 : decode prog_6_method_9_code 37 = .ok (.aload_n 0, 1) := by decide +kernel
theorem d9_38 : decode prog_6_method_9_code 38 = .ok (.getfield 11, 3) := by decide +kernel
theorem d9_41 : decode prog_6_method_9_code 41 = .ok (.iload_n 3, 1) := by decide +kernel
theorem d9_42 : decode prog_6_method_9_code 42 = .ok (.aaload, 1) := by decide +kernel
theorem d9_43 : decode prog_6_method_9_code 43 = .ok (.getfield 33, 3) := by decide +kernel
theorem d9_46 : decode prog_6_method_9_code 46 = .ok (.lcmp, 1) := by decide +kernel
theorem d9_47 : decode prog_6_method_9_code 47 = .ok (.ifCond .ge 6, 3) := by decide +kernel
theorem d9_50 : decode prog_6_method_9_code 50 = .ok (.iinc 3 1, 3) := by decide +kernel
theorem d9_53 : decode prog_6_method_9_code 53 = .ok (.aload_n 0, 1) := by decide +kernel
theorem d9_54 : decode prog_6_method_9_code 54 = .ok (.getfield 11, 3) := by decide +kernel
theorem d9_57 : decode prog_6_method_9_code 57 = .ok (.iload_n 3, 1) := by decide +kernel
theorem d9_58 : decode prog_6_method_9_code 58 = .ok (.aaload, 1) := by decide +kernel
theorem d9_59 : decode prog_6_method_9_code 59 = .ok (.astore 4, 2) := by decide +kernel
theorem d9_61 : decode prog_6_method_9_code 61 = .ok (.aload 4, 2) := by decide +kernel
theorem d9_63 : decode prog_6_method_9_code 63 = .ok (.getfield 33, 3) := by decide +kernel
theorem d9_66 : decode prog_6_method_9_code 66 = .ok (.aload_n 1, 1) := by decide +kernel
theorem d9_67 : decode prog_6_method_9_code 67 = .ok (.getfield 33, 3) := by decide +kernel
theorem d9_70 : decode prog_6_method_9_code 70 = .ok (.lcmp, 1) := by decide +kernel
theorem d9_71 : decode prog_6_method_9_code 71 = .ok (.ifCond .lt 6, 3) := by decide +kernel
theorem d9_74 : decode prog_6_method_9_code 74 = .ok (.goto 15, 3) := by decide +kernel
def own_dnS_Q (Z : State) (ix : Addr) (en : Addr) (t : Addr) (k : ClassId) (es : List Addr) (n : Int32) (f : Nat → Value) (dl : Addr → Int64) (pl : Addr → Int32) (jz : Int32) (j : Nat) (xc : Addr) (h0 : Heap) (n0 : Nat) (v : Option Value) (h : Heap) (L : List Loc) : Prop := v = none ∧ Fr n0 L ∧ h0.size ≤ h.size ∧ own_St Z h ix t k es n (fun q => if q = 0 then (.ref en) else f q) dl (own_upd pl en (0 : Int32))
set_option maxRecDepth 65536 in
set_option maxHeartbeats 40000000 in
theorem own_dnS (l : Launch) (Z : State) (a0 : Array Value) (hw : ∀ d ∈ tables_1, d.before a0 Z = true) (ws : List Jvm.Cond) (ix : Addr) (en : Addr) (t : Addr) (k : ClassId) (es : List Addr) (n : Int32) (f : Nat → Value) (dl : Addr → Int64) (pl : Addr → Int32) (jz : Int32) (j : Nat) (xc : Addr) (h0 : Heap) (n0 : Nat) (Z0 : n0 ≤ h0.size) (D : own_Ds Z n0 ix t k es) (St : own_St Z h0 ix t k es n f dl pl) (hen : en ∈ es) (hxc : xc ∈ es) (hn : n = 2 ∨ n = 3) (hjz : jz.toInt = j) (hj : j = 1 ∨ j = 2) (hj12 : jz = 1 ∨ jz = 2) (hfx : f j = .ref xc) (hch : (n = 2 ∧ j = 1 ∧ jz = 1) ∨ (n = 3 ∧ ∃ c1 c2, ∃ (hc1 : c1 ∈ es) (hc2 : c2 ∈ es), f 1 = .ref c1 ∧ f 2 = .ref c2 ∧ ((dl c2 < dl c1 ∧ jz = 2) ∨ (¬ dl c2 < dl c1 ∧ jz = 1)))) (hlt : ¬ dl xc < dl en) :
    MetFree l (⟨"com/example/ovrdue/ovrdue/keyspace/DeadlineIndex", "siftDown", "(Lcom/example/ovrdue/ovrdue/keyspace/Entry;I)V"⟩ : MethodName) (head1 (Jvm.Cond.code (⟨"com/example/ovrdue/ovrdue/keyspace/DeadlineIndex", "siftDown", "(Lcom/example/ovrdue/ovrdue/keyspace/Entry;I)V"⟩ : MethodName) prog_6_method_9_code 5 none :: ws) ({ frames := 1, cells := 0, slots := 0, locals := 14 } : Room)) (fun aa U0 => aa = #[(.ref ix), (.ref en), (.int (0 : Int32))] ∧ Z.Warmed39 U0.vm ∧ U0.heap = h0) (fun _ _ _ _ _ => True) (fun _ U0 o0 U1 => ∃ v0 L0, o0 = .returned v0 ∧ own_dnS_Q Z ix en t k es n f dl pl jz j xc h0 n0 v0 U1.heap L0 ∧ FrameEnd U0 o0 U1 L0 ({ frames := 1, cells := 0, slots := 0, locals := 14 } : Room).cells ({ frames := 1, cells := 0, slots := 0, locals := 14 } : Room).slots) := by
  refine MetFree.of_bodySF (plainFor_of_name own_pn0) hisR ?_
  intro p e s m args below meth c s₁ Bd hml0 hP hK
  obtain ⟨rfl, hZ, hh⟩ := hP
  have hx := Bd.exec
  have hby := Bd.bytes
  have hml : c.maxLocals = 5 := hml0
  have hown : s.vm.findClass "com/example/ovrdue/ovrdue/keyspace/DeadlineIndex" = some m.cls := findClass_of_methodNamed Bd.named
  have hnm := (name_of_methodNamed Bd.named Bd.method).1
  have X0 : Stand p l e ({ frames := 1, cells := 0, slots := 0, locals := 14 } : Room) s m #[(.ref ix), (.ref en), (.int (0 : Int32))] below meth c s₁ [] 0 0 := Stand.of_body Bd
  have e0 : s₁.heap = h0 := by rw [← hh, Bd.state]; rfl
  have N0 := Fr.nil n0
  show own_Go p e below s (own_dnS_Q Z ix en t k es n f dl pl jz j xc h0 n0) 0 0 s₁ (entryFrame m #[(.ref ix), (.ref en), (.int (0 : Int32))] 5)
  rw [show entryFrame m #[(.ref ix), (.ref en), (.int (0 : Int32))] 5 = mkF m 0 #[.val (.ref ix), .val (.ref en), .val (.int (0 : Int32)), .unset, .unset] [] from by first | (simp [entryFrame, mkF, argsToLocals, Value.category]; done) | rfl]
  have G0 : h0.size ≤ h0.size := Nat.le_refl _
  refine own_st (T' := s₁) (g' := (mkF m 1 #[.val (.ref ix), .val (.ref en), .val (.int (0 : Int32)), .unset, .unset] [(.int (0 : Int32))])) (fun _ k => XS.iloadN X0.here hx rfl (hb hby d9_0) rfl k) ?_
  refine own_st (T' := s₁) (g' := (mkF m 2 #[.val (.ref ix), .val (.ref en), .val (.int (0 : Int32)), .unset, .unset] [(.ref ix), (.int (0 : Int32))])) (fun _ k => XS.aloadN X0.here hx rfl (hb hby d9_1) rfl rfl k) ?_
  obtain ⟨T17, X17, e17, st17⟩ := getF X0 hx hZ hown (host := "") (Or.inl (hw _ (List.mem_of_getElem? (i := 43) rfl))) Via.refl e0 St.2.2.1 (g := (mkF m 2 #[.val (.ref ix), .val (.ref en), .val (.int (0 : Int32)), .unset, .unset] [(.ref ix), (.int (0 : Int32))])) rfl rfl (hb hby d9_2)
  refine own_st (T' := T17) (g' := (mkF m 5 #[.val (.ref ix), .val (.ref en), .val (.int (0 : Int32)), .unset, .unset] [(.int n), (.int (0 : Int32))])) st17 ?_
  refine own_st (T' := T17) (g' := (mkF m 6 #[.val (.ref ix), .val (.ref en), .val (.int (0 : Int32)), .unset, .unset] [(.int (2 : Int32)), (.int n), (.int (0 : Int32))])) (fun _ k => XS.iconst X17.here hx rfl (hb hby d9_5) k) ?_
  refine own_st (T' := T17) (g' := (mkF m 7 #[.val (.ref ix), .val (.ref en), .val (.int (0 : Int32)), .unset, .unset] [(.int (n / (2 : Int32))), (.int (0 : Int32))])) (fun _ k => XS.idiv X17.here hx rfl (hb hby d9_6) rfl (by decide) k) ?_
  refine own_st (T' := T17) (g' := (mkF m 10 #[.val (.ref ix), .val (.ref en), .val (.int (0 : Int32)), .unset, .unset] [])) (fun _ k => XS.icmpNo X17.here hx rfl (hb hby d9_7) rfl (Jvm.Free.XT.ii_ge_f (by rcases hn with rfl | rfl <;> decide)) k) ?_
  refine own_st (T' := T17) (g' := (mkF m 11 #[.val (.ref ix), .val (.ref en), .val (.int (0 : Int32)), .unset, .unset] [(.int (2 : Int32))])) (fun _ k => XS.iconst X17.here hx rfl (hb hby d9_10) k) ?_
  refine own_st (T' := T17) (g' := (mkF m 12 #[.val (.ref ix), .val (.ref en), .val (.int (0 : Int32)), .unset, .unset] [(.int (0 : Int32)), (.int (2 : Int32))])) (fun _ k => XS.iloadN X17.here hx rfl (hb hby d9_11) rfl k) ?_
  refine own_st (T' := T17) (g' := (mkF m 13 #[.val (.ref ix), .val (.ref en), .val (.int (0 : Int32)), .unset, .unset] [(.int ((2 : Int32) * (0 : Int32)))])) (fun _ k => XS.imul X17.here hx rfl (hb hby d9_12) rfl k) ?_
  refine own_st (T' := T17) (g' := (mkF m 14 #[.val (.ref ix), .val (.ref en), .val (.int (0 : Int32)), .unset, .unset] [(.int (1 : Int32)), (.int ((2 : Int32) * (0 : Int32)))])) (fun _ k => XS.iconst X17.here hx rfl (hb hby d9_13) k) ?_
  refine own_st (T' := T17) (g' := (mkF m 15 #[.val (.ref ix), .val (.ref en), .val (.int (0 : Int32)), .unset, .unset] [(.int (((2 : Int32) * (0 : Int32)) + (1 : Int32)))])) (fun _ k => XS.iadd X17.here hx rfl (hb hby d9_14) rfl k) ?_
  refine own_st (T' := T17) (g' := (mkF m 16 #[.val (.ref ix), .val (.ref en), .val (.int (0 : Int32)), .val (.int (((2 : Int32) * (0 : Int32)) + (1 : Int32))), .unset] [])) (fun _ k => XS.istoreN X17.here hx rfl (hb hby d9_15) rfl (l' := #[.val (.ref ix), .val (.ref en), .val (.int (0 : Int32)), .val (.int (((2 : Int32) * (0 : Int32)) + (1 : Int32))), .unset]) rfl k) ?_
  refine own_st (T' := T17) (g' := (mkF m 17 #[.val (.ref ix), .val (.ref en), .val (.int (0 : Int32)), .val (.int (((2 : Int32) * (0 : Int32)) + (1 : Int32))), .unset] [(.int (((2 : Int32) * (0 : Int32)) + (1 : Int32)))])) (fun _ k => XS.iloadN X17.here hx rfl (hb hby d9_16) rfl k) ?_
  refine own_st (T' := T17) (g' := (mkF m 18 #[.val (.ref ix), .val (.ref en), .val (.int (0 : Int32)), .val (.int (((2 : Int32) * (0 : Int32)) + (1 : Int32))), .unset] [(.int (1 : Int32)), (.int (((2 : Int32) * (0 : Int32)) + (1 : Int32)))])) (fun _ k => XS.iconst X17.here hx rfl (hb hby d9_17) k) ?_
  refine own_st (T' := T17) (g' := (mkF m 19 #[.val (.ref ix), .val (.ref en), .val (.int (0 : Int32)), .val (.int (((2 : Int32) * (0 : Int32)) + (1 : Int32))), .unset] [(.int ((((2 : Int32) * (0 : Int32)) + (1 : Int32)) + (1 : Int32)))])) (fun _ k => XS.iadd X17.here hx rfl (hb hby d9_18) rfl k) ?_
  refine own_st (T' := T17) (g' := (mkF m 20 #[.val (.ref ix), .val (.ref en), .val (.int (0 : Int32)), .val (.int (((2 : Int32) * (0 : Int32)) + (1 : Int32))), .unset] [(.ref ix), (.int ((((2 : Int32) * (0 : Int32)) + (1 : Int32)) + (1 : Int32)))])) (fun _ k => XS.aloadN X17.here hx rfl (hb hby d9_19) rfl rfl k) ?_
  rw [show (((2 : Int32) * (0 : Int32)) + (1 : Int32)) = (1 : Int32) from rfl]
  have J53 : ∀ (T18 : State) (l18 : List Loc) (X18 : Stand p l e ({ frames := 1, cells := 0, slots := 0, locals := 14 } : Room) s m #[(.ref ix), (.ref en), (.int (0 : Int32))] below meth c T18 l18 0 0) (e18 : T18.heap = h0) (N18 : Fr n0 l18), own_Go p e below s (own_dnS_Q Z ix en t k es n f dl pl jz j xc h0 n0) 0 0 T18 (mkF m 53 #[.val (.ref ix), .val (.ref en), .val (.int (0 : Int32)), .val (.int jz), .unset] []) := by
    intro T18 l18 X18 e18 N18 
    refine own_st (T' := T18) (g' := (mkF m 54 #[.val (.ref ix), .val (.ref en), .val (.int (0 : Int32)), .val (.int jz), .unset] [(.ref ix)])) (fun _ k => XS.aloadN X18.here hx rfl (hb hby d9_53) rfl rfl k) ?_
    obtain ⟨T19, X19, e19, st19⟩ := getF X18 hx hZ hown (host := "") (Or.inl (hw _ (List.mem_of_getElem? (i := 12) rfl))) Via.refl e18 St.2.1 (g := (mkF m 54 #[.val (.ref ix), .val (.ref en), .val (.int (0 : Int32)), .val (.int jz), .unset] [(.ref ix)])) rfl rfl (hb hby d9_54)
    refine own_st (T' := T19) (g' := (mkF m 57 #[.val (.ref ix), .val (.ref en), .val (.int (0 : Int32)), .val (.int jz), .unset] [(.ref t)])) st19 ?_
    refine own_st (T' := T19) (g' := (mkF m 58 #[.val (.ref ix), .val (.ref en), .val (.int (0 : Int32)), .val (.int jz), .unset] [(.int jz), (.ref t)])) (fun _ k => XS.iloadN X19.here hx rfl (hb hby d9_57) rfl k) ?_
    refine own_st (T' := T19) (g' := (mkF m 59 #[.val (.ref ix), .val (.ref en), .val (.int (0 : Int32)), .val (.int jz), .unset] [(.ref xc)])) (own_ldR X19 hx hZ e19 St.2.2.2.1 rfl (i := j) hjz (by omega) (v := (.ref xc)) hfx (g := (mkF m 58 #[.val (.ref ix), .val (.ref en), .val (.int (0 : Int32)), .val (.int jz), .unset] [(.int jz), (.ref t)])) rfl rfl (hb hby d9_58)) ?_
    refine own_st (T' := T19) (g' := (mkF m 61 #[.val (.ref ix), .val (.ref en), .val (.int (0 : Int32)), .val (.int jz), .val (.ref xc)] [])) (fun _ k => XS.astore X19.here hx rfl (hb hby d9_59) rfl rfl (l' := #[.val (.ref ix), .val (.ref en), .val (.int (0 : Int32)), .val (.int jz), .val (.ref xc)]) rfl k) ?_
    refine own_st (T' := T19) (g' := (mkF m 63 #[.val (.ref ix), .val (.ref en), .val (.int (0 : Int32)), .val (.int jz), .val (.ref xc)] [(.ref xc)])) (fun _ k => XS.aload X19.here hx rfl (hb hby d9_61) rfl rfl k) ?_
    obtain ⟨T20, X20, e20, st20⟩ := getF X19 hx hZ hown (host := "") (Or.inl (hw _ (List.mem_of_getElem? (i := 45) rfl))) Via.refl e19 (St.2.2.2.2 xc hxc).2.1 (g := (mkF m 63 #[.val (.ref ix), .val (.ref en), .val (.int (0 : Int32)), .val (.int jz), .val (.ref xc)] [(.ref xc)])) rfl rfl (hb hby d9_63)
    refine own_st (T' := T20) (g' := (mkF m 66 #[.val (.ref ix), .val (.ref en), .val (.int (0 : Int32)), .val (.int jz), .val (.ref xc)] [(.long (dl xc))])) st20 ?_
    refine own_st (T' := T20) (g' := (mkF m 67 #[.val (.ref ix), .val (.ref en), .val (.int (0 : Int32)), .val (.int jz), .val (.ref xc)] [(.ref en), (.long (dl xc))])) (fun _ k => XS.aloadN X20.here hx rfl (hb hby d9_66) rfl rfl k) ?_
    obtain ⟨T21, X21, e21, st21⟩ := getF X20 hx hZ hown (host := "") (Or.inl (hw _ (List.mem_of_getElem? (i := 45) rfl))) Via.refl e20 (St.2.2.2.2 en hen).2.1 (g := (mkF m 67 #[.val (.ref ix), .val (.ref en), .val (.int (0 : Int32)), .val (.int jz), .val (.ref xc)] [(.ref en), (.long (dl xc))])) rfl rfl (hb hby d9_67)
    refine own_st (T' := T21) (g' := (mkF m 70 #[.val (.ref ix), .val (.ref en), .val (.int (0 : Int32)), .val (.int jz), .val (.ref xc)] [(.long (dl en)), (.long (dl xc))])) st21 ?_
    refine own_st (T' := T21) (g' := (mkF m 71 #[.val (.ref ix), .val (.ref en), .val (.int (0 : Int32)), .val (.int jz), .val (.ref xc)] [(.int (lcmpW (dl xc) (dl en)))])) (fun _ k => XS.lcmp X21.here hx rfl (hb hby d9_70) rfl k) ?_
    refine own_st (T' := T21) (g' := (mkF m 74 #[.val (.ref ix), .val (.ref en), .val (.int (0 : Int32)), .val (.int jz), .val (.ref xc)] [])) (fun _ k => XS.ifNo X21.here hx rfl (hb hby d9_71) rfl (Jvm.Free.XT.i0_lt_f (mt (lw_lt (dl xc) (dl en)).mp hlt)) k) ?_
    refine own_st (T' := T21) (g' := (mkF m 89 #[.val (.ref ix), .val (.ref en), .val (.int (0 : Int32)), .val (.int jz), .val (.ref xc)] [])) (fun _ k => XS.goto X21.here hx rfl (pc0 := 74) (pc' := 89) rfl (hb hby d9_74) (by decide) (by decide) k) ?_
    refine own_st (T' := T21) (g' := (mkF m 90 #[.val (.ref ix), .val (.ref en), .val (.int (0 : Int32)), .val (.int jz), .val (.ref xc)] [(.ref ix)])) (fun _ k => XS.aloadN X21.here hx rfl (hb hby d9_89) rfl rfl k) ?_
    refine own_st (T' := T21) (g' := (mkF m 91 #[.val (.ref ix), .val (.ref en), .val (.int (0 : Int32)), .val (.int jz), .val (.ref xc)] [(.ref en), (.ref ix)])) (fun _ k => XS.aloadN X21.here hx rfl (hb hby d9_90) rfl rfl k) ?_
    refine own_st (T' := T21) (g' := (mkF m 92 #[.val (.ref ix), .val (.ref en), .val (.int (0 : Int32)), .val (.int jz), .val (.ref xc)] [(.int (0 : Int32)), (.ref en), (.ref ix)])) (fun _ k => XS.iloadN X21.here hx rfl (hb hby d9_91) rfl k) ?_
    obtain ⟨cq22, q22, q22'⟩ := St.1.cell
    obtain ⟨_, _, ⟨T22, L22, k22, n22⟩, -, X22, ⟨Lc22, hQ22, l22, y22, z22⟩, st22⟩ := X21.privateBack hx (y := (⟨"com/example/ovrdue/ovrdue/keyspace/DeadlineIndex", "put", "(Lcom/example/ovrdue/ovrdue/keyspace/Entry;I)V"⟩ : MethodName)) hown (mvT hZ (hw _ (List.mem_of_getElem? (i := 50) rfl))) (mvT hZ (hw _ (List.mem_of_getElem? (i := 51) rfl))) (own_selP hZ (hw _ (List.mem_of_getElem? (i := 2) rfl)) (hw _ (List.mem_of_getElem? (i := 52) rfl)) (hw _ (List.mem_of_getElem? (i := 51) rfl)) (by decide)) (Cond.privateMethod_at (mvP hZ (hw _ (List.mem_of_getElem? (i := 52) rfl)) (args := #[]))) (mvT hZ (hw _ (List.mem_of_getElem? (i := 53) rfl))) (by decide) (backOf (W := 0) (own_put l Z a0 hw [] ix en (0 : Int32) t k es n f dl pl 0 h0 n0 Z0 D St hen (by decide) (by omega)) hZ (hw _ (List.mem_of_getElem? (i := 53) rfl)) (hw _ (List.mem_of_getElem? (i := 3) rfl)) (by decide) (by decide)) (g := (mkF m 92 #[.val (.ref ix), .val (.ref en), .val (.int (0 : Int32)), .val (.int jz), .val (.ref xc)] [(.int (0 : Int32)), (.ref en), (.ref ix)])) rfl (by rw [hml]; rfl) (Steps.refl _) (a := ix) (by first | exact q22 | (rw [e21]; exact q22)) q22' (argsL := [(.ref en), (.int (0 : Int32))]) (rest := []) (lenOf own_pd0 rfl) rfl (by show 2 * 0 + _ ≤ _; exact Nat.le_of_eq rfl) (hb hby d9_92) (fun _ _ => ⟨rfl, e21, (by decide : 0 + 0 ≤ _), (by decide : 0 + 0 ≤ _)⟩)
    dsimp only [Pt.U, Pt.locs, Pt.cells, Pt.slots] at X22 l22 y22 z22 st22 hQ22
    subst l22 y22 z22
    obtain ⟨rfl, N22q, K22, St⟩ := hQ22
    have N18' := Fr.app N18 N22q
    have Z0' := Nat.le_trans Z0 K22
    have G0' := Nat.le_trans G0 K22
    refine own_tr (T' := T22) (g' := (mkF m 95 #[.val (.ref ix), .val (.ref en), .val (.int (0 : Int32)), .val (.int jz), .val (.ref xc)] [])) st22 ?_
    exact own_ret0 X22 hx Bd.returns Bd.notSynchronized rfl (hb hby d9_95) ⟨rfl, N18', G0', St⟩ (by decide) (by decide)
  rw [show ((1 : Int32) + (1 : Int32)) = (2 : Int32) from rfl]
  obtain ⟨T23, X23, e23, st23⟩ := getF X17 hx hZ hown (host := "") (Or.inl (hw _ (List.mem_of_getElem? (i := 43) rfl))) Via.refl e17 St.2.2.1 (g := (mkF m 20 #[.val (.ref ix), .val (.ref en), .val (.int (0 : Int32)), .val (.int (1 : Int32)), .unset] [(.ref ix), (.int (2 : Int32))])) rfl rfl (hb hby d9_20)
  refine own_st (T' := T23) (g' := (mkF m 23 #[.val (.ref ix), .val (.ref en), .val (.int (0 : Int32)), .val (.int (1 : Int32)), .unset] [(.int n), (.int (2 : Int32))])) st23 ?_
  rcases hch with ⟨hn2, hj1, hjz1⟩ | ⟨hn3, hc⟩
  · refine own_st (T' := T23) (g' := (mkF m 53 #[.val (.ref ix), .val (.ref en), .val (.int (0 : Int32)), .val (.int (1 : Int32)), .unset] [])) (fun _ k => XS.icmpYes X23.here hx rfl (pc0 := 23) (pc' := 53) rfl (hb hby d9_23) rfl (Jvm.Free.XT.ii_ge_t (by rw [hn2]; decide)) (by decide) (by decide) k) ?_
    subst hjz1
    exact J53 _ _ X23 e23 N0 
  · refine own_st (T' := T23) (g' := (mkF m 26 #[.val (.ref ix), .val (.ref en), .val (.int (0 : Int32)), .val (.int (1 : Int32)), .unset] [])) (fun _ k => XS.icmpNo X23.here hx rfl (hb hby d9_23) rfl (Jvm.Free.XT.ii_ge_f (by rw [hn3]; decide)) k) ?_
    obtain ⟨c1, c2, hc1, hc2, hf1, hf2, hc⟩ := hc
    refine own_st (T' := T23) (g' := (mkF m 27 #[.val (.ref ix), .val (.ref en), .val (.int (0 : Int32)), .val (.int (1 : Int32)), .unset] [(.ref ix)])) (fun _ k => XS.aloadN X23.here hx rfl (hb hby d9_26) rfl rfl k) ?_
    obtain ⟨T24, X24, e24, st24⟩ := getF X23 hx hZ hown (host := "") (Or.inl (hw _ (List.mem_of_getElem? (i := 12) rfl))) Via.refl e23 St.2.1 (g := (mkF m 27 #[.val (.ref ix), .val (.ref en), .val (.int (0 : Int32)), .val (.int (1 : Int32)), .unset] [(.ref ix)])) rfl rfl (hb hby d9_27)
    refine own_st (T' := T24) (g' := (mkF m 30 #[.val (.ref ix), .val (.ref en), .val (.int (0 : Int32)), .val (.int (1 : Int32)), .unset] [(.ref t)])) st24 ?_
    refine own_st (T' := T24) (g' := (mkF m 31 #[.val (.ref ix), .val (.ref en), .val (.int (0 : Int32)), .val (.int (1 : Int32)), .unset] [(.int (1 : Int32)), (.ref t)])) (fun _ k => XS.iloadN X24.here hx rfl (hb hby d9_30) rfl k) ?_
    refine own_st (T' := T24) (g' := (mkF m 32 #[.val (.ref ix), .val (.ref en), .val (.int (0 : Int32)), .val (.int (1 : Int32)), .unset] [(.int (1 : Int32)), (.int (1 : Int32)), (.ref t)])) (fun _ k => XS.iconst X24.here hx rfl (hb hby d9_31) k) ?_
    refine own_st (T' := T24) (g' := (mkF m 33 #[.val (.ref ix), .val (.ref en), .val (.int (0 : Int32)), .val (.int (1 : Int32)), .unset] [(.int ((1 : Int32) + (1 : Int32))), (.ref t)])) (fun _ k => XS.iadd X24.here hx rfl (hb hby d9_32) rfl k) ?_
    rw [show ((1 : Int32) + (1 : Int32)) = (2 : Int32) from rfl]
    refine own_st (T' := T24) (g' := (mkF m 34 #[.val (.ref ix), .val (.ref en), .val (.int (0 : Int32)), .val (.int (1 : Int32)), .unset] [(.ref c2)])) (own_ldR X24 hx hZ e24 St.2.2.2.1 rfl (i := 2) (by decide) (by decide) (v := (.ref c2)) hf2 (g := (mkF m 33 #[.val (.ref ix), .val (.ref en), .val (.int (0 : Int32)), .val (.int (1 : Int32)), .unset] [(.int (2 : Int32)), (.ref t)])) rfl rfl (hb hby d9_33)) ?_
    obtain ⟨T25, X25, e25, st25⟩ := getF X24 hx hZ hown (host := "") (Or.inl (hw _ (List.mem_of_getElem? (i := 45) rfl))) Via.refl e24 (St.2.2.2.2 c2 hc2).2.1 (g := (mkF m 34 #[.val (.ref ix), .val (.ref en), .val (.int (0 : Int32)), .val (.int (1 : Int32)), .unset] [(.ref c2)])) rfl rfl (hb hby d9_34)
    refine own_st (T' := T25) (g' := (mkF m 37 #[.val (.ref ix), .val (.ref en), .val (.int (0 : Int32)), .val (.int (1 : Int32)), .unset] [(.long (dl c2))])) st25 ?_
    refine own_st (T' := T25) (g' := (mkF m 38 #[.val (.ref ix), .val (.ref en), .val (.int (0 : Int32)), .val (.int (1 : Int32)), .unset] [(.ref ix), (.long (dl c2))])) (fun _ k => XS.aloadN X25.here hx rfl (hb hby d9_37) rfl rfl k) ?_
    obtain ⟨T26, X26, e26, st26⟩ := getF X25 hx hZ hown (host := "") (Or.inl (hw _ (List.mem_of_getElem? (i := 12) rfl))) Via.refl e25 St.2.1 (g := (mkF m 38 #[.val (.ref ix), .val (.ref en), .val (.int (0 : Int32)), .val (.int (1 : Int32)), .unset] [(.ref ix), (.long (dl c2))])) rfl rfl (hb hby d9_38)
    refine own_st (T' := T26) (g' := (mkF m 41 #[.val (.ref ix), .val (.ref en), .val (.int (0 : Int32)), .val (.int (1 : Int32)), .unset] [(.ref t), (.long (dl c2))])) st26 ?_
    refine own_st (T' := T26) (g' := (mkF m 42 #[.val (.ref ix), .val (.ref en), .val (.int (0 : Int32)), .val (.int (1 : Int32)), .unset] [(.int (1 : Int32)), (.ref t), (.long (dl c2))])) (fun _ k => XS.iloadN X26.here hx rfl (hb hby d9_41) rfl k) ?_
    refine own_st (T' := T26) (g' := (mkF m 43 #[.val (.ref ix), .val (.ref en), .val (.int (0 : Int32)), .val (.int (1 : Int32)), .unset] [(.ref c1), (.long (dl c2))])) (own_ldR X26 hx hZ e26 St.2.2.2.1 rfl (i := 1) (by decide) (by decide) (v := (.ref c1)) hf1 (g := (mkF m 42 #[.val (.ref ix), .val (.ref en), .val (.int (0 : Int32)), .val (.int (1 : Int32)), .unset] [(.int (1 : Int32)), (.ref t), (.long (dl c2))])) rfl rfl (hb hby d9_42)) ?_
    obtain ⟨T27, X27, e27, st27⟩ := getF X26 hx hZ hown (host := "") (Or.inl (hw _ (List.mem_of_getElem? (i := 45) rfl))) Via.refl e26 (St.2.2.2.2 c1 hc1).2.1 (g := (mkF m 43 #[.val (.ref ix), .val (.ref en), .val (.int (0 : Int32)), .val (.int (1 : Int32)), .unset] [(.ref c1), (.long (dl c2))])) rfl rfl (hb hby d9_43)
    refine own_st (T' := T27) (g' := (mkF m 46 #[.val (.ref ix), .val (.ref en), .val (.int (0 : Int32)), .val (.int (1 : Int32)), .unset] [(.long (dl c1)), (.long (dl c2))])) st27 ?_
    refine own_st (T' := T27) (g' := (mkF m 47 #[.val (.ref ix), .val (.ref en), .val (.int (0 : Int32)), .val (.int (1 : Int32)), .unset] [(.int (lcmpW (dl c2) (dl c1)))])) (fun _ k => XS.lcmp X27.here hx rfl (hb hby d9_46) rfl k) ?_
    rcases hc with ⟨hcl, hjz2⟩ | ⟨hcl, hjz2⟩
    · refine own_st (T' := T27) (g' := (mkF m 50 #[.val (.ref ix), .val (.ref en), .val (.int (0 : Int32)), .val (.int (1 : Int32)), .unset] [])) (fun _ k => XS.ifNo X27.here hx rfl (hb hby d9_47) rfl (Jvm.Free.XT.i0_ge_f ((lw_lt (dl c2) (dl c1)).mpr hcl)) k) ?_
      refine own_st (T' := T27) (g' := (mkF m 53 #[.val (.ref ix), .val (.ref en), .val (.int (0 : Int32)), .val (.int ((1 : Int32) + (1 : Int32))), .unset] [])) (fun _ k => XS.iinc X27.here hx rfl (hb hby d9_50) rfl (l' := #[.val (.ref ix), .val (.ref en), .val (.int (0 : Int32)), .val (.int ((1 : Int32) + (1 : Int32))), .unset]) rfl k) ?_
      rw [show ((1 : Int32) + (1 : Int32)) = (2 : Int32) from rfl]
      subst hjz2
      exact J53 _ _ X27 e27 N0 
    · refine own_st (T' := T27) (g' := (mkF m 53 #[.val (.ref ix), .val (.ref en), .val (.int (0 : Int32)), .val (.int (1 : Int32)), .unset] [])) (fun _ k => XS.ifYes X27.here hx rfl (pc0 := 47) (pc' := 53) rfl (hb hby d9_47) rfl (Jvm.Free.XT.i0_ge_t (mt (lw_lt (dl c2) (dl c1)).mp hcl)) (by decide) (by decide) k) ?_
      subst hjz2
      exact J53 _ _ X27 e27 N0 
theorem d9_77 : decode prog_6_method_9_code 77 = .ok (.aload_n 0, 1) := by decide +kernel
theorem d9_78 : decode prog_6_method_9_code 78 = .ok (.aload 4, 2) := by decide +kernel
theorem d9_80 : decode prog_6_method_9_code 80 = .ok (.iload_n 2, 1) := by decide +kernel
theorem d9_81 : decode prog_6_method_9_code 81 = .ok (.invokevirtual 54, 3) := by decide +kernel
theorem d9_84 : decode prog_6_method_9_code 84 = .ok (.iload_n 3, 1) := by decide +kernel
theorem d9_85 : decode prog_6_method_9_code 85 = .ok (.istore_n 2, 1) := by decide +kernel
theorem d9_86 : decode prog_6_method_9_code 86 = .ok (.goto (-86), 3) := by decide +kernel
def own_dnM_Q (Z : State) (ix : Addr) (en : Addr) (t : Addr) (k : ClassId) (es : List Addr) (n : Int32) (f : Nat → Value) (dl : Addr → Int64) (pl : Addr → Int32) (jz : Int32) (j : Nat) (xc : Addr) (h0 : Heap) (n0 : Nat) (v : Option Value) (h : Heap) (L : List Loc) : Prop := v = none ∧ Fr n0 L ∧ h0.size ≤ h.size ∧ own_St Z h ix t k es n (fun q => if q = j then (.ref en) else (fun q => if q = 0 then (.ref xc) else f q) q) dl (own_upd (own_upd pl xc (0 : Int32)) en jz)
set_option maxRecDepth 65536 in
set_option maxHeartbeats 40000000 in
theorem own_dnM (l : Launch) (Z : State) (a0 : Array Value) (hw : ∀ d ∈ tables_1, d.before a0 Z = true) (ws : List Jvm.Cond) (ix : Addr) (en : Addr) (t : Addr) (k : ClassId) (es : List Addr) (n : Int32) (f : Nat → Value) (dl : Addr → Int64) (pl : Addr → Int32) (jz : Int32) (j : Nat) (xc : Addr) (h0 : Heap) (n0 : Nat) (Z0 : n0 ≤ h0.size) (D : own_Ds Z n0 ix t k es) (St : own_St Z h0 ix t k es n f dl pl) (hen : en ∈ es) (hxc : xc ∈ es) (hn : n = 2 ∨ n = 3) (hjz : jz.toInt = j) (hj : j = 1 ∨ j = 2) (hj12 : jz = 1 ∨ jz = 2) (hfx : f j = .ref xc) (hch : (n = 2 ∧ j = 1 ∧ jz = 1) ∨ (n = 3 ∧ ∃ c1 c2, ∃ (hc1 : c1 ∈ es) (hc2 : c2 ∈ es), f 1 = .ref c1 ∧ f 2 = .ref c2 ∧ ((dl c2 < dl c1 ∧ jz = 2) ∨ (¬ dl c2 < dl c1 ∧ jz = 1)))) (hlt : dl xc < dl en) :
    MetFree l (⟨"com/example/ovrdue/ovrdue/keyspace/DeadlineIndex", "siftDown", "(Lcom/example/ovrdue/ovrdue/keyspace/Entry;I)V"⟩ : MethodName) (head1 (Jvm.Cond.code (⟨"com/example/ovrdue/ovrdue/keyspace/DeadlineIndex", "siftDown", "(Lcom/example/ovrdue/ovrdue/keyspace/Entry;I)V"⟩ : MethodName) prog_6_method_9_code 5 none :: ws) ({ frames := 1, cells := 0, slots := 0, locals := 14 } : Room)) (fun aa U0 => aa = #[(.ref ix), (.ref en), (.int (0 : Int32))] ∧ Z.Warmed39 U0.vm ∧ U0.heap = h0) (fun _ _ _ _ _ => True) (fun _ U0 o0 U1 => ∃ v0 L0, o0 = .returned v0 ∧ own_dnM_Q Z ix en t k es n f dl pl jz j xc h0 n0 v0 U1.heap L0 ∧ FrameEnd U0 o0 U1 L0 ({ frames := 1, cells := 0, slots := 0, locals := 14 } : Room).cells ({ frames := 1, cells := 0, slots := 0, locals := 14 } : Room).slots) := by
  refine MetFree.of_bodySF (plainFor_of_name own_pn0) hisR ?_
  intro p e s m args below meth c s₁ Bd hml0 hP hK
  obtain ⟨rfl, hZ, hh⟩ := hP
  have hx := Bd.exec
  have hby := Bd.bytes
  have hml : c.maxLocals = 5 := hml0
  have hown : s.vm.findClass "com/example/ovrdue/ovrdue/keyspace/DeadlineIndex" = some m.cls := findClass_of_methodNamed Bd.named
  have hnm := (name_of_methodNamed Bd.named Bd.method).1
  have X0 : Stand p l e ({ frames := 1, cells := 0, slots := 0, locals := 14 } : Room) s m #[(.ref ix), (.ref en), (.int (0 : Int32))] below meth c s₁ [] 0 0 := Stand.of_body Bd
  have e0 : s₁.heap = h0 := by rw [← hh, Bd.state]; rfl
  have N0 := Fr.nil n0
  show own_Go p e below s (own_dnM_Q Z ix en t k es n f dl pl jz j xc h0 n0) 0 0 s₁ (entryFrame m #[(.ref ix), (.ref en), (.int (0 : Int32))] 5)
  rw [show entryFrame m #[(.ref ix), (.ref en), (.int (0 : Int32))] 5 = mkF m 0 #[.val (.ref ix), .val (.ref en), .val (.int (0 : Int32)), .unset, .unset] [] from by first | (simp [entryFrame, mkF, argsToLocals, Value.category]; done) | rfl]
  have G0 : h0.size ≤ h0.size := Nat.le_refl _
  refine own_st (T' := s₁) (g' := (mkF m 1 #[.val (.ref ix), .val (.ref en), .val (.int (0 : Int32)), .unset, .unset] [(.int (0 : Int32))])) (fun _ k => XS.iloadN X0.here hx rfl (hb hby d9_0) rfl k) ?_
  refine own_st (T' := s₁) (g' := (mkF m 2 #[.val (.ref ix), .val (.ref en), .val (.int (0 : Int32)), .unset, .unset] [(.ref ix), (.int (0 : Int32))])) (fun _ k => XS.aloadN X0.here hx rfl (hb hby d9_1) rfl rfl k) ?_
  obtain ⟨T28, X28, e28, st28⟩ := getF X0 hx hZ hown (host := "") (Or.inl (hw _ (List.mem_of_getElem? (i := 43) rfl))) Via.refl e0 St.2.2.1 (g := (mkF m 2 #[.val (.ref ix), .val (.ref en), .val (.int (0 : Int32)), .unset, .unset] [(.ref ix), (.int (0 : Int32))])) rfl rfl (hb hby d9_2)
  refine own_st (T' := T28) (g' := (mkF m 5 #[.val (.ref ix), .val (.ref en), .val (.int (0 : Int32)), .unset, .unset] [(.int n), (.int (0 : Int32))])) st28 ?_
  refine own_st (T' := T28) (g' := (mkF m 6 #[.val (.ref ix), .val (.ref en), .val (.int (0 : Int32)), .unset, .unset] [(.int (2 : Int32)), (.int n), (.int (0 : Int32))])) (fun _ k => XS.iconst X28.here hx rfl (hb hby d9_5) k) ?_
  refine own_st (T' := T28) (g' := (mkF m 7 #[.val (.ref ix), .val (.ref en), .val (.int (0 : Int32)), .unset, .unset] [(.int (n / (2 : Int32))), (.int (0 : Int32))])) (fun _ k => XS.idiv X28.here hx rfl (hb hby d9_6) rfl (by decide) k) ?_
  refine own_st (T' := T28) (g' := (mkF m 10 #[.val (.ref ix), .val (.ref en), .val (.int (0 : Int32)), .unset, .unset] [])) (fun _ k => XS.icmpNo X28.here hx rfl (hb hby d9_7) rfl (Jvm.Free.XT.ii_ge_f (by rcases hn with rfl | rfl <;> decide)) k) ?_
  refine own_st (T' := T28) (g' := (mkF m 11 #[.val (.ref ix), .val (.ref en), .val (.int (0 : Int32)), .unset, .unset] [(.int (2 : Int32))])) (fun _ k => XS.iconst X28.here hx rfl (hb hby d9_10) k) ?_
  refine own_st (T' := T28) (g' := (mkF m 12 #[.val (.ref ix), .val (.ref en), .val (.int (0 : Int32)), .unset, .unset] [(.int (0 : Int32)), (.int (2 : Int32))])) (fun _ k => XS.iloadN X28.here hx rfl (hb hby d9_11) rfl k) ?_
  refine own_st (T' := T28) (g' := (mkF m 13 #[.val (.ref ix), .val (.ref en), .val (.int (0 : Int32)), .unset, .unset] [(.int ((2 : Int32) * (0 : Int32)))])) (fun _ k => XS.imul X28.here hx rfl (hb hby d9_12) rfl k) ?_
  refine own_st (T' := T28) (g' := (mkF m 14 #[.val (.ref ix), .val (.ref en), .val (.int (0 : Int32)), .unset, .unset] [(.int (1 : Int32)), (.int ((2 : Int32) * (0 : Int32)))])) (fun _ k => XS.iconst X28.here hx rfl (hb hby d9_13) k) ?_
  refine own_st (T' := T28) (g' := (mkF m 15 #[.val (.ref ix), .val (.ref en), .val (.int (0 : Int32)), .unset, .unset] [(.int (((2 : Int32) * (0 : Int32)) + (1 : Int32)))])) (fun _ k => XS.iadd X28.here hx rfl (hb hby d9_14) rfl k) ?_
  refine own_st (T' := T28) (g' := (mkF m 16 #[.val (.ref ix), .val (.ref en), .val (.int (0 : Int32)), .val (.int (((2 : Int32) * (0 : Int32)) + (1 : Int32))), .unset] [])) (fun _ k => XS.istoreN X28.here hx rfl (hb hby d9_15) rfl (l' := #[.val (.ref ix), .val (.ref en), .val (.int (0 : Int32)), .val (.int (((2 : Int32) * (0 : Int32)) + (1 : Int32))), .unset]) rfl k) ?_
  refine own_st (T' := T28) (g' := (mkF m 17 #[.val (.ref ix), .val (.ref en), .val (.int (0 : Int32)), .val (.int (((2 : Int32) * (0 : Int32)) + (1 : Int32))), .unset] [(.int (((2 : Int32) * (0 : Int32)) + (1 : Int32)))])) (fun _ k => XS.iloadN X28.here hx rfl (hb hby d9_16) rfl k) ?_
  refine own_st (T' := T28) (g' := (mkF m 18 #[.val (.ref ix), .val (.ref en), .val (.int (0 : Int32)), .val (.int (((2 : Int32) * (0 : Int32)) + (1 : Int32))), .unset] [(.int (1 : Int32)), (.int (((2 : Int32) * (0 : Int32)) + (1 : Int32)))])) (fun _ k => XS.iconst X28.here hx rfl (hb hby d9_17) k) ?_
  refine own_st (T' := T28) (g' := (mkF m 19 #[.val (.ref ix), .val (.ref en), .val (.int (0 : Int32)), .val (.int (((2 : Int32) * (0 : Int32)) + (1 : Int32))), .unset] [(.int ((((2 : Int32) * (0 : Int32)) + (1 : Int32)) + (1 : Int32)))])) (fun _ k => XS.iadd X28.here hx rfl (hb hby d9_18) rfl k) ?_
  refine own_st (T' := T28) (g' := (mkF m 20 #[.val (.ref ix), .val (.ref en), .val (.int (0 : Int32)), .val (.int (((2 : Int32) * (0 : Int32)) + (1 : Int32))), .unset] [(.ref ix), (.int ((((2 : Int32) * (0 : Int32)) + (1 : Int32)) + (1 : Int32)))])) (fun _ k => XS.aloadN X28.here hx rfl (hb hby d9_19) rfl rfl k) ?_
  rw [show (((2 : Int32) * (0 : Int32)) + (1 : Int32)) = (1 : Int32) from rfl]
  have J53 : ∀ (T29 : State) (l29 : List Loc) (X29 : Stand p l e ({ frames := 1, cells := 0, slots := 0, locals := 14 } : Room) s m #[(.ref ix), (.ref en), (.int (0 : Int32))] below meth c T29 l29 0 0) (e29 : T29.heap = h0) (N29 : Fr n0 l29), own_Go p e below s (own_dnM_Q Z ix en t k es n f dl pl jz j xc h0 n0) 0 0 T29 (mkF m 53 #[.val (.ref ix), .val (.ref en), .val (.int (0 : Int32)), .val (.int jz), .unset] []) := by
    intro T29 l29 X29 e29 N29 
    refine own_st (T' := T29) (g' := (mkF m 54 #[.val (.ref ix), .val (.ref en), .val (.int (0 : Int32)), .val (.int jz), .unset] [(.ref ix)])) (fun _ k => XS.aloadN X29.here hx rfl (hb hby d9_53) rfl rfl k) ?_
    obtain ⟨T30, X30, e30, st30⟩ := getF X29 hx hZ hown (host := "") (Or.inl (hw _ (List.mem_of_getElem? (i := 12) rfl))) Via.refl e29 St.2.1 (g := (mkF m 54 #[.val (.ref ix), .val (.ref en), .val (.int (0 : Int32)), .val (.int jz), .unset] [(.ref ix)])) rfl rfl (hb hby d9_54)
    refine own_st (T' := T30) (g' := (mkF m 57 #[.val (.ref ix), .val (.ref en), .val (.int (0 : Int32)), .val (.int jz), .unset] [(.ref t)])) st30 ?_
    refine own_st (T' := T30) (g' := (mkF m 58 #[.val (.ref ix), .val (.ref en), .val (.int (0 : Int32)), .val (.int jz), .unset] [(.int jz), (.ref t)])) (fun _ k => XS.iloadN X30.here hx rfl (hb hby d9_57) rfl k) ?_
    refine own_st (T' := T30) (g' := (mkF m 59 #[.val (.ref ix), .val (.ref en), .val (.int (0 : Int32)), .val (.int jz), .unset] [(.ref xc)])) (own_ldR X30 hx hZ e30 St.2.2.2.1 rfl (i := j) hjz (by omega) (v := (.ref xc)) hfx (g := (mkF m 58 #[.val (.ref ix), .val (.ref en), .val (.int (0 : Int32)), .val (.int jz), .unset] [(.int jz), (.ref t)])) rfl rfl (hb hby d9_58)) ?_
    refine own_st (T' := T30) (g' := (mkF m 61 #[.val (.ref ix), .val (.ref en), .val (.int (0 : Int32)), .val (.int jz), .val (.ref xc)] [])) (fun _ k => XS.astore X30.here hx rfl (hb hby d9_59) rfl rfl (l' := #[.val (.ref ix), .val (.ref en), .val (.int (0 : Int32)), .val (.int jz), .val (.ref xc)]) rfl k) ?_
    refine own_st (T' := T30) (g' := (mkF m 63 #[.val (.ref ix), .val (.ref en), .val (.int (0 : Int32)), .val (.int jz), .val (.ref xc)] [(.ref xc)])) (fun _ k => XS.aload X30.here hx rfl (hb hby d9_61) rfl rfl k) ?_
    obtain ⟨T31, X31, e31, st31⟩ := getF X30 hx hZ hown (host := "") (Or.inl (hw _ (List.mem_of_getElem? (i := 45) rfl))) Via.refl e30 (St.2.2.2.2 xc hxc).2.1 (g := (mkF m 63 #[.val (.ref ix), .val (.ref en), .val (.int (0 : Int32)), .val (.int jz), .val (.ref xc)] [(.ref xc)])) rfl rfl (hb hby d9_63)
    refine own_st (T' := T31) (g' := (mkF m 66 #[.val (.ref ix), .val (.ref en), .val (.int (0 : Int32)), .val (.int jz), .val (.ref xc)] [(.long (dl xc))])) st31 ?_
    refine own_st (T' := T31) (g' := (mkF m 67 #[.val (.ref ix), .val (.ref en), .val (.int (0 : Int32)), .val (.int jz), .val (.ref xc)] [(.ref en), (.long (dl xc))])) (fun _ k => XS.aloadN X31.here hx rfl (hb hby d9_66) rfl rfl k) ?_
    obtain ⟨T32, X32, e32, st32⟩ := getF X31 hx hZ hown (host := "") (Or.inl (hw _ (List.mem_of_getElem? (i := 45) rfl))) Via.refl e31 (St.2.2.2.2 en hen).2.1 (g := (mkF m 67 #[.val (.ref ix), .val (.ref en), .val (.int (0 : Int32)), .val (.int jz), .val (.ref xc)] [(.ref en), (.long (dl xc))])) rfl rfl (hb hby d9_67)
    refine own_st (T' := T32) (g' := (mkF m 70 #[.val (.ref ix), .val (.ref en), .val (.int (0 : Int32)), .val (.int jz), .val (.ref xc)] [(.long (dl en)), (.long (dl xc))])) st32 ?_
    refine own_st (T' := T32) (g' := (mkF m 71 #[.val (.ref ix), .val (.ref en), .val (.int (0 : Int32)), .val (.int jz), .val (.ref xc)] [(.int (lcmpW (dl xc) (dl en)))])) (fun _ k => XS.lcmp X32.here hx rfl (hb hby d9_70) rfl k) ?_
    refine own_st (T' := T32) (g' := (mkF m 77 #[.val (.ref ix), .val (.ref en), .val (.int (0 : Int32)), .val (.int jz), .val (.ref xc)] [])) (fun _ k => XS.ifYes X32.here hx rfl (pc0 := 71) (pc' := 77) rfl (hb hby d9_71) rfl (Jvm.Free.XT.i0_lt_t ((lw_lt (dl xc) (dl en)).mpr hlt)) (by decide) (by decide) k) ?_
    refine own_st (T' := T32) (g' := (mkF m 78 #[.val (.ref ix), .val (.ref en), .val (.int (0 : Int32)), .val (.int jz), .val (.ref xc)] [(.ref ix)])) (fun _ k => XS.aloadN X32.here hx rfl (hb hby d9_77) rfl rfl k) ?_
    refine own_st (T' := T32) (g' := (mkF m 80 #[.val (.ref ix), .val (.ref en), .val (.int (0 : Int32)), .val (.int jz), .val (.ref xc)] [(.ref xc), (.ref ix)])) (fun _ k => XS.aload X32.here hx rfl (hb hby d9_78) rfl rfl k) ?_
    refine own_st (T' := T32) (g' := (mkF m 81 #[.val (.ref ix), .val (.ref en), .val (.int (0 : Int32)), .val (.int jz), .val (.ref xc)] [(.int (0 : Int32)), (.ref xc), (.ref ix)])) (fun _ k => XS.iloadN X32.here hx rfl (hb hby d9_80) rfl k) ?_
    obtain ⟨cq33, q33, q33'⟩ := St.1.cell
    obtain ⟨_, _, ⟨T33, L33, k33, n33⟩, -, X33, ⟨Lc33, hQ33, l33, y33, z33⟩, st33⟩ := X32.privateBack hx (y := (⟨"com/example/ovrdue/ovrdue/keyspace/DeadlineIndex", "put", "(Lcom/example/ovrdue/ovrdue/keyspace/Entry;I)V"⟩ : MethodName)) hown (mvT hZ (hw _ (List.mem_of_getElem? (i := 50) rfl))) (mvT hZ (hw _ (List.mem_of_getElem? (i := 51) rfl))) (own_selP hZ (hw _ (List.mem_of_getElem? (i := 2) rfl)) (hw _ (List.mem_of_getElem? (i := 52) rfl)) (hw _ (List.mem_of_getElem? (i := 51) rfl)) (by decide)) (Cond.privateMethod_at (mvP hZ (hw _ (List.mem_of_getElem? (i := 52) rfl)) (args := #[]))) (mvT hZ (hw _ (List.mem_of_getElem? (i := 53) rfl))) (by decide) (backOf (W := 0) (own_put l Z a0 hw [] ix xc (0 : Int32) t k es n f dl pl 0 h0 n0 Z0 D St hxc (by decide) (by omega)) hZ (hw _ (List.mem_of_getElem? (i := 53) rfl)) (hw _ (List.mem_of_getElem? (i := 3) rfl)) (by decide) (by decide)) (g := (mkF m 81 #[.val (.ref ix), .val (.ref en), .val (.int (0 : Int32)), .val (.int jz), .val (.ref xc)] [(.int (0 : Int32)), (.ref xc), (.ref ix)])) rfl (by rw [hml]; rfl) (Steps.refl _) (a := ix) (by first | exact q33 | (rw [e32]; exact q33)) q33' (argsL := [(.ref xc), (.int (0 : Int32))]) (rest := []) (lenOf own_pd0 rfl) rfl (by show 2 * 0 + _ ≤ _; exact Nat.le_of_eq rfl) (hb hby d9_81) (fun _ _ => ⟨rfl, e32, (by decide : 0 + 0 ≤ _), (by decide : 0 + 0 ≤ _)⟩)
    dsimp only [Pt.U, Pt.locs, Pt.cells, Pt.slots] at X33 l33 y33 z33 st33 hQ33
    subst l33 y33 z33
    obtain ⟨rfl, N33q, K33, St⟩ := hQ33
    have N29' := Fr.app N29 N33q
    have Z0' := Nat.le_trans Z0 K33
    have G0' := Nat.le_trans G0 K33
    refine own_tr (T' := T33) (g' := (mkF m 84 #[.val (.ref ix), .val (.ref en), .val (.int (0 : Int32)), .val (.int jz), .val (.ref xc)] [])) st33 ?_
    refine own_st (T' := T33) (g' := (mkF m 85 #[.val (.ref ix), .val (.ref en), .val (.int (0 : Int32)), .val (.int jz), .val (.ref xc)] [(.int jz)])) (fun _ k => XS.iloadN X33.here hx rfl (hb hby d9_84) rfl k) ?_
    refine own_st (T' := T33) (g' := (mkF m 86 #[.val (.ref ix), .val (.ref en), .val (.int jz), .val (.int jz), .val (.ref xc)] [])) (fun _ k => XS.istoreN X33.here hx rfl (hb hby d9_85) rfl (l' := #[.val (.ref ix), .val (.ref en), .val (.int jz), .val (.int jz), .val (.ref xc)]) rfl k) ?_
    refine own_st (T' := T33) (g' := (mkF m 0 #[.val (.ref ix), .val (.ref en), .val (.int jz), .val (.int jz), .val (.ref xc)] [])) (fun _ k => XS.goto X33.here hx rfl (pc0 := 86) (pc' := 0) rfl (hb hby d9_86) (by decide) (by decide) k) ?_
    refine own_st (T' := T33) (g' := (mkF m 1 #[.val (.ref ix), .val (.ref en), .val (.int jz), .val (.int jz), .val (.ref xc)] [(.int jz)])) (fun _ k => XS.iloadN X33.here hx rfl (hb hby d9_0) rfl k) ?_
    refine own_st (T' := T33) (g' := (mkF m 2 #[.val (.ref ix), .val (.ref en), .val (.int jz), .val (.int jz), .val (.ref xc)] [(.ref ix), (.int jz)])) (fun _ k => XS.aloadN X33.here hx rfl (hb hby d9_1) rfl rfl k) ?_
    obtain ⟨T34, X34, e34, st34⟩ := getF X33 hx hZ hown (host := "") (Or.inl (hw _ (List.mem_of_getElem? (i := 43) rfl))) Via.refl rfl St.2.2.1 (g := (mkF m 2 #[.val (.ref ix), .val (.ref en), .val (.int jz), .val (.int jz), .val (.ref xc)] [(.ref ix), (.int jz)])) rfl rfl (hb hby d9_2)
    refine own_st (T' := T34) (g' := (mkF m 5 #[.val (.ref ix), .val (.ref en), .val (.int jz), .val (.int jz), .val (.ref xc)] [(.int n), (.int jz)])) st34 ?_
    refine own_st (T' := T34) (g' := (mkF m 6 #[.val (.ref ix), .val (.ref en), .val (.int jz), .val (.int jz), .val (.ref xc)] [(.int (2 : Int32)), (.int n), (.int jz)])) (fun _ k => XS.iconst X34.here hx rfl (hb hby d9_5) k) ?_
    refine own_st (T' := T34) (g' := (mkF m 7 #[.val (.ref ix), .val (.ref en), .val (.int jz), .val (.int jz), .val (.ref xc)] [(.int (n / (2 : Int32))), (.int jz)])) (fun _ k => XS.idiv X34.here hx rfl (hb hby d9_6) rfl (by decide) k) ?_
    refine own_st (T' := T34) (g' := (mkF m 89 #[.val (.ref ix), .val (.ref en), .val (.int jz), .val (.int jz), .val (.ref xc)] [])) (fun _ k => XS.icmpYes X34.here hx rfl (pc0 := 7) (pc' := 89) rfl (hb hby d9_7) rfl (Jvm.Free.XT.ii_ge_t (by rcases hj12 with rfl | rfl <;> rcases hn with rfl | rfl <;> decide)) (by decide) (by decide) k) ?_
    refine own_st (T' := T34) (g' := (mkF m 90 #[.val (.ref ix), .val (.ref en), .val (.int jz), .val (.int jz), .val (.ref xc)] [(.ref ix)])) (fun _ k => XS.aloadN X34.here hx rfl (hb hby d9_89) rfl rfl k) ?_
    refine own_st (T' := T34) (g' := (mkF m 91 #[.val (.ref ix), .val (.ref en), .val (.int jz), .val (.int jz), .val (.ref xc)] [(.ref en), (.ref ix)])) (fun _ k => XS.aloadN X34.here hx rfl (hb hby d9_90) rfl rfl k) ?_
    refine own_st (T' := T34) (g' := (mkF m 92 #[.val (.ref ix), .val (.ref en), .val (.int jz), .val (.int jz), .val (.ref xc)] [(.int jz), (.ref en), (.ref ix)])) (fun _ k => XS.iloadN X34.here hx rfl (hb hby d9_91) rfl k) ?_
    obtain ⟨cq35, q35, q35'⟩ := St.1.cell
    obtain ⟨_, _, ⟨T35, L35, k35, n35⟩, -, X35, ⟨Lc35, hQ35, l35, y35, z35⟩, st35⟩ := X34.privateBack hx (y := (⟨"com/example/ovrdue/ovrdue/keyspace/DeadlineIndex", "put", "(Lcom/example/ovrdue/ovrdue/keyspace/Entry;I)V"⟩ : MethodName)) hown (mvT hZ (hw _ (List.mem_of_getElem? (i := 50) rfl))) (mvT hZ (hw _ (List.mem_of_getElem? (i := 51) rfl))) (own_selP hZ (hw _ (List.mem_of_getElem? (i := 2) rfl)) (hw _ (List.mem_of_getElem? (i := 52) rfl)) (hw _ (List.mem_of_getElem? (i := 51) rfl)) (by decide)) (Cond.privateMethod_at (mvP hZ (hw _ (List.mem_of_getElem? (i := 52) rfl)) (args := #[]))) (mvT hZ (hw _ (List.mem_of_getElem? (i := 53) rfl))) (by decide) (backOf (W := 0) (own_put l Z a0 hw [] ix en jz t k es n (fun q => if q = 0 then (.ref xc) else f q) dl (own_upd pl xc (0 : Int32)) j T33.heap n0 Z0' D St hen hjz (by omega)) hZ (hw _ (List.mem_of_getElem? (i := 53) rfl)) (hw _ (List.mem_of_getElem? (i := 3) rfl)) (by decide) (by decide)) (g := (mkF m 92 #[.val (.ref ix), .val (.ref en), .val (.int jz), .val (.int jz), .val (.ref xc)] [(.int jz), (.ref en), (.ref ix)])) rfl (by rw [hml]; rfl) (Steps.refl _) (a := ix) (by first | exact q35 | (rw [e34]; exact q35)) q35' (argsL := [(.ref en), (.int jz)]) (rest := []) (lenOf own_pd0 rfl) rfl (by show 2 * 0 + _ ≤ _; exact Nat.le_of_eq rfl) (hb hby d9_92) (fun _ _ => ⟨rfl, e34, (by decide : (0 + 0) + 0 ≤ _), (by decide : (0 + 0) + 0 ≤ _)⟩)
    dsimp only [Pt.U, Pt.locs, Pt.cells, Pt.slots] at X35 l35 y35 z35 st35 hQ35
    subst l35 y35 z35
    obtain ⟨rfl, N35q, K35, St⟩ := hQ35
    have N29'' := Fr.app N29' N35q
    have Z0'' := Nat.le_trans Z0' K35
    have G0'' := Nat.le_trans G0' K35
    refine own_tr (T' := T35) (g' := (mkF m 95 #[.val (.ref ix), .val (.ref en), .val (.int jz), .val (.int jz), .val (.ref xc)] [])) st35 ?_
    exact own_ret0 X35 hx Bd.returns Bd.notSynchronized rfl (hb hby d9_95) ⟨rfl, N29'', G0'', St⟩ (by decide) (by decide)
  rw [show ((1 : Int32) + (1 : Int32)) = (2 : Int32) from rfl]
  obtain ⟨T36, X36, e36, st36⟩ := getF X28 hx hZ hown (host := "") (Or.inl (hw _ (List.mem_of_getElem? (i := 43) rfl))) Via.refl e28 St.2.2.1 (g := (mkF m 20 #[.val (.ref ix), .val (.ref en), .val (.int (0 : Int32)), .val (.int (1 : Int32)), .unset] [(.ref ix), (.int (2 : Int32))])) rfl rfl (hb hby d9_20)
  refine own_st (T' := T36) (g' := (mkF m 23 #[.val (.ref ix), .val (.ref en), .val (.int (0 : Int32)), .val (.int (1 : Int32)), .unset] [(.int n), (.int (2 : Int32))])) st36 ?_
  rcases hch with ⟨hn2, hj1, hjz1⟩ | ⟨hn3, hc⟩
  · refine own_st (T' := T36) (g' := (mkF m 53 #[.val (.ref ix), .val (.ref en), .val (.int (0 : Int32)), .val (.int (1 : Int32)), .unset] [])) (fun _ k => XS.icmpYes X36.here hx rfl (pc0 := 23) (pc' := 53) rfl (hb hby d9_23) rfl (Jvm.Free.XT.ii_ge_t (by rw [hn2]; decide)) (by decide) (by decide) k) ?_
    subst hjz1
    exact J53 _ _ X36 e36 N0 
  · refine own_st (T' := T36) (g' := (mkF m 26 #[.val (.ref ix), .val (.ref en), .val (.int (0 : Int32)), .val (.int (1 : Int32)), .unset] [])) (fun _ k => XS.icmpNo X36.here hx rfl (hb hby d9_23) rfl (Jvm.Free.XT.ii_ge_f (by rw [hn3]; decide)) k) ?_
    obtain ⟨c1, c2, hc1, hc2, hf1, hf2, hc⟩ := hc
    refine own_st (T' := T36) (g' := (mkF m 27 #[.val (.ref ix), .val (.ref en), .val (.int (0 : Int32)), .val (.int (1 : Int32)), .unset] [(.ref ix)])) (fun _ k => XS.aloadN X36.here hx rfl (hb hby d9_26) rfl rfl k) ?_
    obtain ⟨T37, X37, e37, st37⟩ := getF X36 hx hZ hown (host := "") (Or.inl (hw _ (List.mem_of_getElem? (i := 12) rfl))) Via.refl e36 St.2.1 (g := (mkF m 27 #[.val (.ref ix), .val (.ref en), .val (.int (0 : Int32)), .val (.int (1 : Int32)), .unset] [(.ref ix)])) rfl rfl (hb hby d9_27)
    refine own_st (T' := T37) (g' := (mkF m 30 #[.val (.ref ix), .val (.ref en), .val (.int (0 : Int32)), .val (.int (1 : Int32)), .unset] [(.ref t)])) st37 ?_
    refine own_st (T' := T37) (g' := (mkF m 31 #[.val (.ref ix), .val (.ref en), .val (.int (0 : Int32)), .val (.int (1 : Int32)), .unset] [(.int (1 : Int32)), (.ref t)])) (fun _ k => XS.iloadN X37.here hx rfl (hb hby d9_30) rfl k) ?_
    refine own_st (T' := T37) (g' := (mkF m 32 #[.val (.ref ix), .val (.ref en), .val (.int (0 : Int32)), .val (.int (1 : Int32)), .unset] [(.int (1 : Int32)), (.int (1 : Int32)), (.ref t)])) (fun _ k => XS.iconst X37.here hx rfl (hb hby d9_31) k) ?_
    refine own_st (T' := T37) (g' := (mkF m 33 #[.val (.ref ix), .val (.ref en), .val (.int (0 : Int32)), .val (.int (1 : Int32)), .unset] [(.int ((1 : Int32) + (1 : Int32))), (.ref t)])) (fun _ k => XS.iadd X37.here hx rfl (hb hby d9_32) rfl k) ?_
    rw [show ((1 : Int32) + (1 : Int32)) = (2 : Int32) from rfl]
    refine own_st (T' := T37) (g' := (mkF m 34 #[.val (.ref ix), .val (.ref en), .val (.int (0 : Int32)), .val (.int (1 : Int32)), .unset] [(.ref c2)])) (own_ldR X37 hx hZ e37 St.2.2.2.1 rfl (i := 2) (by decide) (by decide) (v := (.ref c2)) hf2 (g := (mkF m 33 #[.val (.ref ix), .val (.ref en), .val (.int (0 : Int32)), .val (.int (1 : Int32)), .unset] [(.int (2 : Int32)), (.ref t)])) rfl rfl (hb hby d9_33)) ?_
    obtain ⟨T38, X38, e38, st38⟩ := getF X37 hx hZ hown (host := "") (Or.inl (hw _ (List.mem_of_getElem? (i := 45) rfl))) Via.refl e37 (St.2.2.2.2 c2 hc2).2.1 (g := (mkF m 34 #[.val (.ref ix), .val (.ref en), .val (.int (0 : Int32)), .val (.int (1 : Int32)), .unset] [(.ref c2)])) rfl rfl (hb hby d9_34)
    refine own_st (T' := T38) (g' := (mkF m 37 #[.val (.ref ix), .val (.ref en), .val (.int (0 : Int32)), .val (.int (1 : Int32)), .unset] [(.long (dl c2))])) st38 ?_
    refine own_st (T' := T38) (g' := (mkF m 38 #[.val (.ref ix), .val (.ref en), .val (.int (0 : Int32)), .val (.int (1 : Int32)), .unset] [(.ref ix), (.long (dl c2))])) (fun _ k => XS.aloadN X38.here hx rfl (hb hby d9_37) rfl rfl k) ?_
    obtain ⟨T39, X39, e39, st39⟩ := getF X38 hx hZ hown (host := "") (Or.inl (hw _ (List.mem_of_getElem? (i := 12) rfl))) Via.refl e38 St.2.1 (g := (mkF m 38 #[.val (.ref ix), .val (.ref en), .val (.int (0 : Int32)), .val (.int (1 : Int32)), .unset] [(.ref ix), (.long (dl c2))])) rfl rfl (hb hby d9_38)
    refine own_st (T' := T39) (g' := (mkF m 41 #[.val (.ref ix), .val (.ref en), .val (.int (0 : Int32)), .val (.int (1 : Int32)), .unset] [(.ref t), (.long (dl c2))])) st39 ?_
    refine own_st (T' := T39) (g' := (mkF m 42 #[.val (.ref ix), .val (.ref en), .val (.int (0 : Int32)), .val (.int (1 : Int32)), .unset] [(.int (1 : Int32)), (.ref t), (.long (dl c2))])) (fun _ k => XS.iloadN X39.here hx rfl (hb hby d9_41) rfl k) ?_
    refine own_st (T' := T39) (g' := (mkF m 43 #[.val (.ref ix), .val (.ref en), .val (.int (0 : Int32)), .val (.int (1 : Int32)), .unset] [(.ref c1), (.long (dl c2))])) (own_ldR X39 hx hZ e39 St.2.2.2.1 rfl (i := 1) (by decide) (by decide) (v := (.ref c1)) hf1 (g := (mkF m 42 #[.val (.ref ix), .val (.ref en), .val (.int (0 : Int32)), .val (.int (1 : Int32)), .unset] [(.int (1 : Int32)), (.ref t), (.long (dl c2))])) rfl rfl (hb hby d9_42)) ?_
    obtain ⟨T40, X40, e40, st40⟩ := getF X39 hx hZ hown (host := "") (Or.inl (hw _ (List.mem_of_getElem? (i := 45) rfl))) Via.refl e39 (St.2.2.2.2 c1 hc1).2.1 (g := (mkF m 43 #[.val (.ref ix), .val (.ref en), .val (.int (0 : Int32)), .val (.int (1 : Int32)), .unset] [(.ref c1), (.long (dl c2))])) rfl rfl (hb hby d9_43)
    refine own_st (T' := T40) (g' := (mkF m 46 #[.val (.ref ix), .val (.ref en), .val (.int (0 : Int32)), .val (.int (1 : Int32)), .unset] [(.long (dl c1)), (.long (dl c2))])) st40 ?_
    refine own_st (T' := T40) (g' := (mkF m 47 #[.val (.ref ix), .val (.ref en), .val (.int (0 : Int32)), .val (.int (1 : Int32)), .unset] [(.int (lcmpW (dl c2) (dl c1)))])) (fun _ k => XS.lcmp X40.here hx rfl (hb hby d9_46) rfl k) ?_
    rcases hc with ⟨hcl, hjz2⟩ | ⟨hcl, hjz2⟩
    · refine own_st (T' := T40) (g' := (mkF m 50 #[.val (.ref ix), .val (.ref en), .val (.int (0 : Int32)), .val (.int (1 : Int32)), .unset] [])) (fun _ k => XS.ifNo X40.here hx rfl (hb hby d9_47) rfl (Jvm.Free.XT.i0_ge_f ((lw_lt (dl c2) (dl c1)).mpr hcl)) k) ?_
      refine own_st (T' := T40) (g' := (mkF m 53 #[.val (.ref ix), .val (.ref en), .val (.int (0 : Int32)), .val (.int ((1 : Int32) + (1 : Int32))), .unset] [])) (fun _ k => XS.iinc X40.here hx rfl (hb hby d9_50) rfl (l' := #[.val (.ref ix), .val (.ref en), .val (.int (0 : Int32)), .val (.int ((1 : Int32) + (1 : Int32))), .unset]) rfl k) ?_
      rw [show ((1 : Int32) + (1 : Int32)) = (2 : Int32) from rfl]
      subst hjz2
      exact J53 _ _ X40 e40 N0 
    · refine own_st (T' := T40) (g' := (mkF m 53 #[.val (.ref ix), .val (.ref en), .val (.int (0 : Int32)), .val (.int (1 : Int32)), .unset] [])) (fun _ k => XS.ifYes X40.here hx rfl (pc0 := 47) (pc' := 53) rfl (hb hby d9_47) rfl (Jvm.Free.XT.i0_ge_t (mt (lw_lt (dl c2) (dl c1)).mp hcl)) (by decide) (by decide) k) ?_
      subst hjz2
      exact J53 _ _ X40 e40 N0 
def own_D3 (es : List Addr) : Prop := ∀ x0 x1 x2 y : Addr, x0 ∈ es → x1 ∈ es → x2 ∈ es → y ∈ es → x0 ≠ x1 → x0 ≠ x2 → x1 ≠ x2 → y ≠ x0 → y ≠ x1 → y ≠ x2 → False
theorem own_d3 (a b c : Addr) : own_D3 [a, b, c] := by
  intro x0 x1 x2 y h0 h1 h2 h3 n01 n02 n12 m0 m1 m2
  simp only [List.mem_cons, List.not_mem_nil, or_false] at h0 h1 h2 h3
  rcases h0 with rfl | rfl | rfl <;> rcases h1 with rfl | rfl | rfl <;> rcases h2 with rfl | rfl | rfl <;> rcases h3 with rfl | rfl | rfl <;> first | exact absurd rfl n01 | exact absurd rfl n02 | exact absurd rfl n12 | exact absurd rfl m0 | exact absurd rfl m1 | exact absurd rfl m2
theorem own_mem_add {es xs xs' : List Addr} {dl : Addr → Int64} {en : Addr} {d : Int64} (M : own_Mem es dl xs) (hen : en ∈ es) (hd : d ≠ (-9223372036854775808 : Int64)) (q : ∀ x, x ∈ xs' ↔ (x = en ∨ x ∈ xs)) : own_Mem es (own_upd dl en d) xs' := by
  refine ⟨fun x hx => ?_, fun x hx => ?_⟩
  · rcases (q x).mp hx with rfl | u
    · exact hen
    · exact M.1 x u
  · rw [q x]; by_cases u : x = en
    · subst u; simp [own_upd, hd]
    · simp [own_upd, u, M.2 x hx]
theorem own_mem_del {es xs xs' : List Addr} {dl : Addr → Int64} {en : Addr} (M : own_Mem es dl xs) (q : ∀ x, x ∈ xs' ↔ (x ∈ xs ∧ x ≠ en)) : own_Mem es (own_upd dl en (-9223372036854775808 : Int64)) xs' := by
  refine ⟨fun x hx => M.1 x ((q x).mp hx).1, fun x hx => ?_⟩
  rw [q x]; by_cases u : x = en
  · subst u; simp [own_upd]
  · simp [own_upd, u, M.2 x hx]
theorem d6_0 : decode prog_6_method_6_code 0 = .ok (.aload_n 0, 1) := by decide +kernel
theorem d6_1 : decode prog_6_method_6_code 1 = .ok (.getfield 15, 3) := by decide +kernel
theorem d6_4 : decode prog_6_method_6_code 4 = .ok (.aload_n 0, 1) := by decide +kernel
theorem d6_5 : decode prog_6_method_6_code 5 = .ok (.getfield 11, 3) := by decide +kernel
theorem d6_8 : decode prog_6_method_6_code 8 = .ok (.arraylength, 1) := by decide +kernel
theorem d6_9 : decode prog_6_method_6_code 9 = .ok (.if_icmp .ne 23, 3) := by decide +kernel
theorem d6_32 : decode prog_6_method_6_code 32 = .ok (.aload_n 1, 1) := by decide +kernel
theorem d6_33 : decode prog_6_method_6_code 33 = .ok (.lload_n 2, 1) := by decide +kernel
theorem d6_34 : decode prog_6_method_6_code 34 = .ok (.putfield 33, 3) := by decide +kernel
theorem d6_37 : decode prog_6_method_6_code 37 = .ok (.aload_n 0, 1) := by decide +kernel
theorem d6_38 : decode prog_6_method_6_code 38 = .ok (.dup, 1) := by decide +kernel
theorem d6_39 : decode prog_6_method_6_code 39 = .ok (.getfield 15, 3) := by decide +kernel
theorem d6_42 : decode prog_6_method_6_code 42 = .ok (.iconst 1, 1) := by decide +kernel
theorem d6_43 : decode prog_6_method_6_code 43 = .ok (.iadd, 1) := by decide +kernel
theorem d6_44 : decode prog_6_method_6_code 44 = .ok (.putfield 15, 3) := by decide +kernel
theorem d6_47 : decode prog_6_method_6_code 47 = .ok (.aload_n 0, 1) := by decide +kernel
theorem d6_48 : decode prog_6_method_6_code 48 = .ok (.aload_n 1, 1) := by decide +kernel
theorem d6_49 : decode prog_6_method_6_code 49 = .ok (.aload_n 0, 1) := by decide +kernel
theorem d6_50 : decode prog_6_method_6_code 50 = .ok (.getfield 15, 3) := by decide +kernel
theorem d6_53 : decode prog_6_method_6_code 53 = .ok (.iconst 1, 1) := by decide +kernel
theorem d6_54 : decode prog_6_method_6_code 54 = .ok (.isub, 1) := by decide +kernel
theorem d6_55 : decode prog_6_method_6_code 55 = .ok (.invokevirtual 40, 3) := by decide +kernel
theorem d6_58 : decode prog_6_method_6_code 58 = .ok (.return_, 1) := by decide +kernel
def own_add_Q (Z : State) (ix : Addr) (en : Addr) (d : Int64) (t : Addr) (k : ClassId) (es : List Addr) (dl : Addr → Int64) (h0 : Heap) (n0 : Nat) (v : Option Value) (h : Heap) (L : List Loc) : Prop := v = none ∧ Fr n0 L ∧ h0.size ≤ h.size ∧ own_Ix Z h ix t k es (own_upd dl en d)
set_option maxRecDepth 65536 in
set_option maxHeartbeats 40000000 in
theorem own_add (l : Launch) (Z : State) (a0 : Array Value) (hw : ∀ d ∈ tables_1, d.before a0 Z = true) (ws : List Jvm.Cond) (ix : Addr) (en : Addr) (d : Int64) (t : Addr) (k : ClassId) (es : List Addr) (dl : Addr → Int64) (h0 : Heap) (n0 : Nat) (Z0 : n0 ≤ h0.size) (D : own_Ds Z n0 ix t k es) (D3 : own_D3 es) (Ix : own_Ix Z h0 ix t k es dl) (hen : en ∈ es) (hd : d ≠ (-9223372036854775808 : Int64)) (hmin : dl en = (-9223372036854775808 : Int64)) :
    MetFree l (⟨"com/example/ovrdue/ovrdue/keyspace/DeadlineIndex", "add", "(Lcom/example/ovrdue/ovrdue/keyspace/Entry;J)V"⟩ : MethodName) (head1 (Jvm.Cond.code (⟨"com/example/ovrdue/ovrdue/keyspace/DeadlineIndex", "add", "(Lcom/example/ovrdue/ovrdue/keyspace/Entry;J)V"⟩ : MethodName) prog_6_method_6_code 4 none :: ws) ({ frames := 2, cells := 0, slots := 0, locals := 30 } : Room)) (fun aa U0 => aa = #[(.ref ix), (.ref en), (.long d)] ∧ Z.Warmed39 U0.vm ∧ U0.heap = h0) (fun _ _ _ _ _ => True) (fun _ U0 o0 U1 => ∃ v0 L0, o0 = .returned v0 ∧ own_add_Q Z ix en d t k es dl h0 n0 v0 U1.heap L0 ∧ FrameEnd U0 o0 U1 L0 ({ frames := 2, cells := 0, slots := 0, locals := 30 } : Room).cells ({ frames := 2, cells := 0, slots := 0, locals := 30 } : Room).slots) := by
  refine MetFree.of_bodySF (plainFor_of_name own_pn0) hisR ?_
  intro p e s m args below meth c s₁ Bd hml0 hP hK
  obtain ⟨rfl, hZ, hh⟩ := hP
  have hx := Bd.exec
  have hby := Bd.bytes
  have hml : c.maxLocals = 4 := hml0
  have hown : s.vm.findClass "com/example/ovrdue/ovrdue/keyspace/DeadlineIndex" = some m.cls := findClass_of_methodNamed Bd.named
  have hnm := (name_of_methodNamed Bd.named Bd.method).1
  have X0 : Stand p l e ({ frames := 2, cells := 0, slots := 0, locals := 30 } : Room) s m #[(.ref ix), (.ref en), (.long d)] below meth c s₁ [] 0 0 := Stand.of_body Bd
  have e0 : s₁.heap = h0 := by rw [← hh, Bd.state]; rfl
  have N0 := Fr.nil n0
  show own_Go p e below s (own_add_Q Z ix en d t k es dl h0 n0) 0 0 s₁ (entryFrame m #[(.ref ix), (.ref en), (.long d)] 4)
  rw [show entryFrame m #[(.ref ix), (.ref en), (.long d)] 4 = mkF m 0 #[.val (.ref ix), .val (.ref en), .val (.long d), .second] [] from by first | (simp [entryFrame, mkF, argsToLocals, Value.category]; done) | rfl]
  have G0 : h0.size ≤ h0.size := Nat.le_refl _
  obtain ⟨xs, f, pl, n, St, Iv, Mm⟩ := Ix
  rcases Iv with ⟨rfl, rfl⟩ | ⟨x0, rfl, rfl, hf0, hp0⟩ | ⟨x0, x1, rfl, rfl, hf0, hf1, hp0, hp1, n01, l01⟩ | ⟨x0, x1, x2, rfl, rfl, hf0, hf1, hf2, hp0, hp1, hp2, n01, n02, n12, l01, l02⟩
  · have hnx : en ∉ [] := fun u => (Mm.2 en hen).mp u hmin
    refine own_st (T' := s₁) (g' := (mkF m 1 #[.val (.ref ix), .val (.ref en), .val (.long d), .second] [(.ref ix)])) (fun _ k => XS.aloadN X0.here hx rfl (hb hby d6_0) rfl rfl k) ?_
    obtain ⟨T41, X41, e41, st41⟩ := getF X0 hx hZ hown (host := "") (Or.inl (hw _ (List.mem_of_getElem? (i := 43) rfl))) Via.refl e0 St.2.2.1 (g := (mkF m 1 #[.val (.ref ix), .val (.ref en), .val (.long d), .second] [(.ref ix)])) rfl rfl (hb hby d6_1)
    refine own_st (T' := T41) (g' := (mkF m 4 #[.val (.ref ix), .val (.ref en), .val (.long d), .second] [(.int (0 : Int32))])) st41 ?_
    refine own_st (T' := T41) (g' := (mkF m 5 #[.val (.ref ix), .val (.ref en), .val (.long d), .second] [(.ref ix), (.int (0 : Int32))])) (fun _ k => XS.aloadN X41.here hx rfl (hb hby d6_4) rfl rfl k) ?_
    obtain ⟨T42, X42, e42, st42⟩ := getF X41 hx hZ hown (host := "") (Or.inl (hw _ (List.mem_of_getElem? (i := 12) rfl))) Via.refl e41 St.2.1 (g := (mkF m 5 #[.val (.ref ix), .val (.ref en), .val (.long d), .second] [(.ref ix), (.int (0 : Int32))])) rfl rfl (hb hby d6_5)
    refine own_st (T' := T42) (g' := (mkF m 8 #[.val (.ref ix), .val (.ref en), .val (.long d), .second] [(.ref t), (.int (0 : Int32))])) st42 ?_
    refine own_st (T' := T42) (g' := (mkF m 9 #[.val (.ref ix), .val (.ref en), .val (.long d), .second] [(.int (16 : Int32)), (.int (0 : Int32))])) (own_len X42 hx hZ e42 St.2.2.2.1 (z := (16 : Int32)) rfl (g := (mkF m 8 #[.val (.ref ix), .val (.ref en), .val (.long d), .second] [(.ref t), (.int (0 : Int32))])) rfl rfl (hb hby d6_8)) ?_
    refine own_st (T' := T42) (g' := (mkF m 32 #[.val (.ref ix), .val (.ref en), .val (.long d), .second] [])) (fun _ k => XS.icmpYes X42.here hx rfl (pc0 := 9) (pc' := 32) rfl (hb hby d6_9) rfl (Jvm.Free.XT.ii_ne_t (by decide)) (by decide) (by decide) k) ?_
    refine own_st (T' := T42) (g' := (mkF m 33 #[.val (.ref ix), .val (.ref en), .val (.long d), .second] [(.ref en)])) (fun _ k => XS.aloadN X42.here hx rfl (hb hby d6_32) rfl rfl k) ?_
    refine own_st (T' := T42) (g' := (mkF m 34 #[.val (.ref ix), .val (.ref en), .val (.long d), .second] [(.long d), (.ref en)])) (fun _ k => XS.lloadN X42.here hx rfl (hb hby d6_33) rfl k) ?_
    obtain ⟨T43, h43, X43, e43, W43, st43⟩ := putF X42 hx hZ hown (host := "") (Or.inl (hw _ (List.mem_of_getElem? (i := 45) rfl))) Via.refl e42 (St.2.2.2.2 en hen).2.1 (St.2.2.2.2 en hen).1 (Or.inl (hw _ (List.mem_of_getElem? (i := 23) rfl))) (hw _ (List.mem_of_getElem? (i := 15) rfl)) (ty := .long) (by decide) rfl rfl (g := (mkF m 34 #[.val (.ref ix), .val (.ref en), .val (.long d), .second] [(.long d), (.ref en)])) rfl rfl (hb hby d6_34)
    have Z0' := Nat.le_trans Z0 (Keep.of_wr W43).1
    have G0' := Nat.le_trans G0 (Keep.of_wr W43).1
    have N0' := Fr.snoc X43 N0 (D.2.2.2.2.1 en hen).2.2
    have St := St.wDl D hen W43
    refine own_st (T' := T43) (g' := (mkF m 37 #[.val (.ref ix), .val (.ref en), .val (.long d), .second] [])) st43 ?_
    refine own_st (T' := T43) (g' := (mkF m 38 #[.val (.ref ix), .val (.ref en), .val (.long d), .second] [(.ref ix)])) (fun _ k => XS.aloadN X43.here hx rfl (hb hby d6_37) rfl rfl k) ?_
    refine own_st (T' := T43) (g' := (mkF m 39 #[.val (.ref ix), .val (.ref en), .val (.long d), .second] [(.ref ix), (.ref ix)])) (fun _ k => XS.dup X43.here hx rfl (hb hby d6_38) rfl rfl k) ?_
    obtain ⟨T44, X44, e44, st44⟩ := getF X43 hx hZ hown (host := "") (Or.inl (hw _ (List.mem_of_getElem? (i := 43) rfl))) Via.refl e43 St.2.2.1 (g := (mkF m 39 #[.val (.ref ix), .val (.ref en), .val (.long d), .second] [(.ref ix), (.ref ix)])) rfl rfl (hb hby d6_39)
    refine own_st (T' := T44) (g' := (mkF m 42 #[.val (.ref ix), .val (.ref en), .val (.long d), .second] [(.int (0 : Int32)), (.ref ix)])) st44 ?_
    refine own_st (T' := T44) (g' := (mkF m 43 #[.val (.ref ix), .val (.ref en), .val (.long d), .second] [(.int (1 : Int32)), (.int (0 : Int32)), (.ref ix)])) (fun _ k => XS.iconst X44.here hx rfl (hb hby d6_42) k) ?_
    refine own_st (T' := T44) (g' := (mkF m 44 #[.val (.ref ix), .val (.ref en), .val (.long d), .second] [(.int ((0 : Int32) + (1 : Int32))), (.ref ix)])) (fun _ k => XS.iadd X44.here hx rfl (hb hby d6_43) rfl k) ?_
    rw [show ((0 : Int32) + (1 : Int32)) = (1 : Int32) from rfl]
    obtain ⟨T45, h45, X45, e45, W45, st45⟩ := putF X44 hx hZ hown (host := "") (Or.inl (hw _ (List.mem_of_getElem? (i := 43) rfl))) Via.refl e44 St.2.2.1 St.1 (Or.inl (hw _ (List.mem_of_getElem? (i := 44) rfl))) (hw _ (List.mem_of_getElem? (i := 2) rfl)) (ty := .int) (by decide) rfl rfl (g := (mkF m 44 #[.val (.ref ix), .val (.ref en), .val (.long d), .second] [(.int (1 : Int32)), (.ref ix)])) rfl rfl (hb hby d6_44)
    have Z0'' := Nat.le_trans Z0' (Keep.of_wr W45).1
    have G0'' := Nat.le_trans G0' (Keep.of_wr W45).1
    have N0'' := Fr.snoc X45 N0' D.2.1
    have St := St.wSize D W45
    refine own_st (T' := T45) (g' := (mkF m 47 #[.val (.ref ix), .val (.ref en), .val (.long d), .second] [])) st45 ?_
    refine own_st (T' := T45) (g' := (mkF m 48 #[.val (.ref ix), .val (.ref en), .val (.long d), .second] [(.ref ix)])) (fun _ k => XS.aloadN X45.here hx rfl (hb hby d6_47) rfl rfl k) ?_
    refine own_st (T' := T45) (g' := (mkF m 49 #[.val (.ref ix), .val (.ref en), .val (.long d), .second] [(.ref en), (.ref ix)])) (fun _ k => XS.aloadN X45.here hx rfl (hb hby d6_48) rfl rfl k) ?_
    refine own_st (T' := T45) (g' := (mkF m 50 #[.val (.ref ix), .val (.ref en), .val (.long d), .second] [(.ref ix), (.ref en), (.ref ix)])) (fun _ k => XS.aloadN X45.here hx rfl (hb hby d6_49) rfl rfl k) ?_
    obtain ⟨T46, X46, e46, st46⟩ := getF X45 hx hZ hown (host := "") (Or.inl (hw _ (List.mem_of_getElem? (i := 43) rfl))) Via.refl e45 St.2.2.1 (g := (mkF m 50 #[.val (.ref ix), .val (.ref en), .val (.long d), .second] [(.ref ix), (.ref en), (.ref ix)])) rfl rfl (hb hby d6_50)
    refine own_st (T' := T46) (g' := (mkF m 53 #[.val (.ref ix), .val (.ref en), .val (.long d), .second] [(.int (1 : Int32)), (.ref en), (.ref ix)])) st46 ?_
    refine own_st (T' := T46) (g' := (mkF m 54 #[.val (.ref ix), .val (.ref en), .val (.long d), .second] [(.int (1 : Int32)), (.int (1 : Int32)), (.ref en), (.ref ix)])) (fun _ k => XS.iconst X46.here hx rfl (hb hby d6_53) k) ?_
    refine own_st (T' := T46) (g' := (mkF m 55 #[.val (.ref ix), .val (.ref en), .val (.long d), .second] [(.int ((1 : Int32) - (1 : Int32))), (.ref en), (.ref ix)])) (fun _ k => XS.isub X46.here hx rfl (hb hby d6_54) rfl k) ?_
    rw [show ((1 : Int32) - (1 : Int32)) = (0 : Int32) from rfl]
    obtain ⟨cq47, q47, q47'⟩ := St.1.cell
    obtain ⟨_, _, ⟨T47, L47, k47, n47⟩, -, X47, ⟨Lc47, hQ47, l47, y47, z47⟩, st47⟩ := X46.privateBack hx (y := (⟨"com/example/ovrdue/ovrdue/keyspace/DeadlineIndex", "siftUp", "(Lcom/example/ovrdue/ovrdue/keyspace/Entry;I)V"⟩ : MethodName)) hown (mvT hZ (hw _ (List.mem_of_getElem? (i := 46) rfl))) (mvT hZ (hw _ (List.mem_of_getElem? (i := 47) rfl))) (own_selP hZ (hw _ (List.mem_of_getElem? (i := 2) rfl)) (hw _ (List.mem_of_getElem? (i := 48) rfl)) (hw _ (List.mem_of_getElem? (i := 47) rfl)) (by decide)) (Cond.privateMethod_at (mvP hZ (hw _ (List.mem_of_getElem? (i := 48) rfl)) (args := #[]))) (mvT hZ (hw _ (List.mem_of_getElem? (i := 49) rfl))) (by decide) (backOf (W := 0) (own_upA l Z a0 hw [] ix en (0 : Int32) t k es (1 : Int32) f (own_upd dl en d) pl 0 en h45 n0 Z0'' D St hen (by decide) (by decide) (fun u => absurd rfl u)) hZ (hw _ (List.mem_of_getElem? (i := 49) rfl)) (hw _ (List.mem_of_getElem? (i := 3) rfl)) (by decide) (by decide)) (g := (mkF m 55 #[.val (.ref ix), .val (.ref en), .val (.long d), .second] [(.int (0 : Int32)), (.ref en), (.ref ix)])) rfl (by rw [hml]; rfl) (Steps.refl _) (a := ix) (by first | exact q47 | (rw [e46]; exact q47)) q47' (argsL := [(.ref en), (.int (0 : Int32))]) (rest := []) (lenOf own_pd0 rfl) rfl (by show 2 * 0 + _ ≤ _; exact Nat.le_of_eq rfl) (hb hby d6_55) (fun _ _ => ⟨rfl, e46, (by decide : 0 + 0 ≤ _), (by decide : 0 + 0 ≤ _)⟩)
    dsimp only [Pt.U, Pt.locs, Pt.cells, Pt.slots] at X47 l47 y47 z47 st47 hQ47
    subst l47 y47 z47
    obtain ⟨rfl, N47q, K47, St⟩ := hQ47
    have N0''' := Fr.app N0'' N47q
    have Z0''' := Nat.le_trans Z0'' K47
    have G0''' := Nat.le_trans G0'' K47
    refine own_tr (T' := T47) (g' := (mkF m 58 #[.val (.ref ix), .val (.ref en), .val (.long d), .second] [])) st47 ?_
    exact own_ret0 X47 hx Bd.returns Bd.notSynchronized rfl (hb hby d6_58) ⟨rfl, N0''', G0''', [en], _, _, _, St, Or.inr (Or.inl ⟨_, rfl, rfl, by simp, by simp [own_upd]⟩), own_mem_add Mm hen hd (fun x => by simp; try grind)⟩ (by decide) (by decide)
  · have hx0 := Mm.1 x0 (by simp)
    have hnx : en ∉ [x0] := fun u => (Mm.2 en hen).mp u hmin
    simp at hnx
    have ne0 : en ≠ x0 := by exact hnx
    refine own_st (T' := s₁) (g' := (mkF m 1 #[.val (.ref ix), .val (.ref en), .val (.long d), .second] [(.ref ix)])) (fun _ k => XS.aloadN X0.here hx rfl (hb hby d6_0) rfl rfl k) ?_
    obtain ⟨T48, X48, e48, st48⟩ := getF X0 hx hZ hown (host := "") (Or.inl (hw _ (List.mem_of_getElem? (i := 43) rfl))) Via.refl e0 St.2.2.1 (g := (mkF m 1 #[.val (.ref ix), .val (.ref en), .val (.long d), .second] [(.ref ix)])) rfl rfl (hb hby d6_1)
    refine own_st (T' := T48) (g' := (mkF m 4 #[.val (.ref ix), .val (.ref en), .val (.long d), .second] [(.int (1 : Int32))])) st48 ?_
    refine own_st (T' := T48) (g' := (mkF m 5 #[.val (.ref ix), .val (.ref en), .val (.long d), .second] [(.ref ix), (.int (1 : Int32))])) (fun _ k => XS.aloadN X48.here hx rfl (hb hby d6_4) rfl rfl k) ?_
    obtain ⟨T49, X49, e49, st49⟩ := getF X48 hx hZ hown (host := "") (Or.inl (hw _ (List.mem_of_getElem? (i := 12) rfl))) Via.refl e48 St.2.1 (g := (mkF m 5 #[.val (.ref ix), .val (.ref en), .val (.long d), .second] [(.ref ix), (.int (1 : Int32))])) rfl rfl (hb hby d6_5)
    refine own_st (T' := T49) (g' := (mkF m 8 #[.val (.ref ix), .val (.ref en), .val (.long d), .second] [(.ref t), (.int (1 : Int32))])) st49 ?_
    refine own_st (T' := T49) (g' := (mkF m 9 #[.val (.ref ix), .val (.ref en), .val (.long d), .second] [(.int (16 : Int32)), (.int (1 : Int32))])) (own_len X49 hx hZ e49 St.2.2.2.1 (z := (16 : Int32)) rfl (g := (mkF m 8 #[.val (.ref ix), .val (.ref en), .val (.long d), .second] [(.ref t), (.int (1 : Int32))])) rfl rfl (hb hby d6_8)) ?_
    refine own_st (T' := T49) (g' := (mkF m 32 #[.val (.ref ix), .val (.ref en), .val (.long d), .second] [])) (fun _ k => XS.icmpYes X49.here hx rfl (pc0 := 9) (pc' := 32) rfl (hb hby d6_9) rfl (Jvm.Free.XT.ii_ne_t (by decide)) (by decide) (by decide) k) ?_
    refine own_st (T' := T49) (g' := (mkF m 33 #[.val (.ref ix), .val (.ref en), .val (.long d), .second] [(.ref en)])) (fun _ k => XS.aloadN X49.here hx rfl (hb hby d6_32) rfl rfl k) ?_
    refine own_st (T' := T49) (g' := (mkF m 34 #[.val (.ref ix), .val (.ref en), .val (.long d), .second] [(.long d), (.ref en)])) (fun _ k => XS.lloadN X49.here hx rfl (hb hby d6_33) rfl k) ?_
    obtain ⟨T50, h50, X50, e50, W50, st50⟩ := putF X49 hx hZ hown (host := "") (Or.inl (hw _ (List.mem_of_getElem? (i := 45) rfl))) Via.refl e49 (St.2.2.2.2 en hen).2.1 (St.2.2.2.2 en hen).1 (Or.inl (hw _ (List.mem_of_getElem? (i := 23) rfl))) (hw _ (List.mem_of_getElem? (i := 15) rfl)) (ty := .long) (by decide) rfl rfl (g := (mkF m 34 #[.val (.ref ix), .val (.ref en), .val (.long d), .second] [(.long d), (.ref en)])) rfl rfl (hb hby d6_34)
    have Z0' := Nat.le_trans Z0 (Keep.of_wr W50).1
    have G0' := Nat.le_trans G0 (Keep.of_wr W50).1
    have N0' := Fr.snoc X50 N0 (D.2.2.2.2.1 en hen).2.2
    have St := St.wDl D hen W50
    refine own_st (T' := T50) (g' := (mkF m 37 #[.val (.ref ix), .val (.ref en), .val (.long d), .second] [])) st50 ?_
    refine own_st (T' := T50) (g' := (mkF m 38 #[.val (.ref ix), .val (.ref en), .val (.long d), .second] [(.ref ix)])) (fun _ k => XS.aloadN X50.here hx rfl (hb hby d6_37) rfl rfl k) ?_
    refine own_st (T' := T50) (g' := (mkF m 39 #[.val (.ref ix), .val (.ref en), .val (.long d), .second] [(.ref ix), (.ref ix)])) (fun _ k => XS.dup X50.here hx rfl (hb hby d6_38) rfl rfl k) ?_
    obtain ⟨T51, X51, e51, st51⟩ := getF X50 hx hZ hown (host := "") (Or.inl (hw _ (List.mem_of_getElem? (i := 43) rfl))) Via.refl e50 St.2.2.1 (g := (mkF m 39 #[.val (.ref ix), .val (.ref en), .val (.long d), .second] [(.ref ix), (.ref ix)])) rfl rfl (hb hby d6_39)
    refine own_st (T' := T51) (g' := (mkF m 42 #[.val (.ref ix), .val (.ref en), .val (.long d), .second] [(.int (1 : Int32)), (.ref ix)])) st51 ?_
    refine own_st (T' := T51) (g' := (mkF m 43 #[.val (.ref ix), .val (.ref en), .val (.long d), .second] [(.int (1 : Int32)), (.int (1 : Int32)), (.ref ix)])) (fun _ k => XS.iconst X51.here hx rfl (hb hby d6_42) k) ?_
    refine own_st (T' := T51) (g' := (mkF m 44 #[.val (.ref ix), .val (.ref en), .val (.long d), .second] [(.int ((1 : Int32) + (1 : Int32))), (.ref ix)])) (fun _ k => XS.iadd X51.here hx rfl (hb hby d6_43) rfl k) ?_
    rw [show ((1 : Int32) + (1 : Int32)) = (2 : Int32) from rfl]
    obtain ⟨T52, h52, X52, e52, W52, st52⟩ := putF X51 hx hZ hown (host := "") (Or.inl (hw _ (List.mem_of_getElem? (i := 43) rfl))) Via.refl e51 St.2.2.1 St.1 (Or.inl (hw _ (List.mem_of_getElem? (i := 44) rfl))) (hw _ (List.mem_of_getElem? (i := 2) rfl)) (ty := .int) (by decide) rfl rfl (g := (mkF m 44 #[.val (.ref ix), .val (.ref en), .val (.long d), .second] [(.int (2 : Int32)), (.ref ix)])) rfl rfl (hb hby d6_44)
    have Z0'' := Nat.le_trans Z0' (Keep.of_wr W52).1
    have G0'' := Nat.le_trans G0' (Keep.of_wr W52).1
    have N0'' := Fr.snoc X52 N0' D.2.1
    have St := St.wSize D W52
    refine own_st (T' := T52) (g' := (mkF m 47 #[.val (.ref ix), .val (.ref en), .val (.long d), .second] [])) st52 ?_
    refine own_st (T' := T52) (g' := (mkF m 48 #[.val (.ref ix), .val (.ref en), .val (.long d), .second] [(.ref ix)])) (fun _ k => XS.aloadN X52.here hx rfl (hb hby d6_47) rfl rfl k) ?_
    refine own_st (T' := T52) (g' := (mkF m 49 #[.val (.ref ix), .val (.ref en), .val (.long d), .second] [(.ref en), (.ref ix)])) (fun _ k => XS.aloadN X52.here hx rfl (hb hby d6_48) rfl rfl k) ?_
    refine own_st (T' := T52) (g' := (mkF m 50 #[.val (.ref ix), .val (.ref en), .val (.long d), .second] [(.ref ix), (.ref en), (.ref ix)])) (fun _ k => XS.aloadN X52.here hx rfl (hb hby d6_49) rfl rfl k) ?_
    obtain ⟨T53, X53, e53, st53⟩ := getF X52 hx hZ hown (host := "") (Or.inl (hw _ (List.mem_of_getElem? (i := 43) rfl))) Via.refl e52 St.2.2.1 (g := (mkF m 50 #[.val (.ref ix), .val (.ref en), .val (.long d), .second] [(.ref ix), (.ref en), (.ref ix)])) rfl rfl (hb hby d6_50)
    refine own_st (T' := T53) (g' := (mkF m 53 #[.val (.ref ix), .val (.ref en), .val (.long d), .second] [(.int (2 : Int32)), (.ref en), (.ref ix)])) st53 ?_
    refine own_st (T' := T53) (g' := (mkF m 54 #[.val (.ref ix), .val (.ref en), .val (.long d), .second] [(.int (1 : Int32)), (.int (2 : Int32)), (.ref en), (.ref ix)])) (fun _ k => XS.iconst X53.here hx rfl (hb hby d6_53) k) ?_
    refine own_st (T' := T53) (g' := (mkF m 55 #[.val (.ref ix), .val (.ref en), .val (.long d), .second] [(.int ((2 : Int32) - (1 : Int32))), (.ref en), (.ref ix)])) (fun _ k => XS.isub X53.here hx rfl (hb hby d6_54) rfl k) ?_
    rw [show ((2 : Int32) - (1 : Int32)) = (1 : Int32) from rfl]
    by_cases qc : own_upd dl en d en < own_upd dl en d x0
    · obtain ⟨cq54, q54, q54'⟩ := St.1.cell
      obtain ⟨_, _, ⟨T54, L54, k54, n54⟩, -, X54, ⟨Lc54, hQ54, l54, y54, z54⟩, st54⟩ := X53.privateBack hx (y := (⟨"com/example/ovrdue/ovrdue/keyspace/DeadlineIndex", "siftUp", "(Lcom/example/ovrdue/ovrdue/keyspace/Entry;I)V"⟩ : MethodName)) hown (mvT hZ (hw _ (List.mem_of_getElem? (i := 46) rfl))) (mvT hZ (hw _ (List.mem_of_getElem? (i := 47) rfl))) (own_selP hZ (hw _ (List.mem_of_getElem? (i := 2) rfl)) (hw _ (List.mem_of_getElem? (i := 48) rfl)) (hw _ (List.mem_of_getElem? (i := 47) rfl)) (by decide)) (Cond.privateMethod_at (mvP hZ (hw _ (List.mem_of_getElem? (i := 48) rfl)) (args := #[]))) (mvT hZ (hw _ (List.mem_of_getElem? (i := 49) rfl))) (by decide) (backOf (W := 0) (own_upB l Z a0 hw [] ix en (1 : Int32) t k es (2 : Int32) f (own_upd dl en d) pl 1 x0 h52 n0 Z0'' D St hen hx0 (by decide) (by decide) hf0 qc) hZ (hw _ (List.mem_of_getElem? (i := 49) rfl)) (hw _ (List.mem_of_getElem? (i := 3) rfl)) (by decide) (by decide)) (g := (mkF m 55 #[.val (.ref ix), .val (.ref en), .val (.long d), .second] [(.int (1 : Int32)), (.ref en), (.ref ix)])) rfl (by rw [hml]; rfl) (Steps.refl _) (a := ix) (by first | exact q54 | (rw [e53]; exact q54)) q54' (argsL := [(.ref en), (.int (1 : Int32))]) (rest := []) (lenOf own_pd0 rfl) rfl (by show 2 * 0 + _ ≤ _; exact Nat.le_of_eq rfl) (hb hby d6_55) (fun _ _ => ⟨rfl, e53, (by decide : 0 + 0 ≤ _), (by decide : 0 + 0 ≤ _)⟩)
      dsimp only [Pt.U, Pt.locs, Pt.cells, Pt.slots] at X54 l54 y54 z54 st54 hQ54
      subst l54 y54 z54
      obtain ⟨rfl, N54q, K54, St⟩ := hQ54
      have N0''' := Fr.app N0'' N54q
      have Z0''' := Nat.le_trans Z0'' K54
      have G0''' := Nat.le_trans G0'' K54
      refine own_tr (T' := T54) (g' := (mkF m 58 #[.val (.ref ix), .val (.ref en), .val (.long d), .second] [])) st54 ?_
      exact own_ret0 X54 hx Bd.returns Bd.notSynchronized rfl (hb hby d6_58) ⟨rfl, N0''', G0''', [en, x0], _, _, _, St, Or.inr (Or.inr (Or.inl ⟨_, _, rfl, rfl, by simp [hf0], by simp [hf0], by simp [own_upd, hp0, ne0, Ne.symm ne0], by simp [own_upd, hp0, ne0, Ne.symm ne0], by first | assumption | (symm; assumption), by simp [own_upd, ne0, Ne.symm ne0, Int64.le_iff_toInt_le, Int64.lt_iff_toInt_lt] at qc ⊢ <;> omega⟩)), own_mem_add Mm hen hd (fun x => by simp; try grind)⟩ (by decide) (by decide)
    · obtain ⟨cq55, q55, q55'⟩ := St.1.cell
      obtain ⟨_, _, ⟨T55, L55, k55, n55⟩, -, X55, ⟨Lc55, hQ55, l55, y55, z55⟩, st55⟩ := X53.privateBack hx (y := (⟨"com/example/ovrdue/ovrdue/keyspace/DeadlineIndex", "siftUp", "(Lcom/example/ovrdue/ovrdue/keyspace/Entry;I)V"⟩ : MethodName)) hown (mvT hZ (hw _ (List.mem_of_getElem? (i := 46) rfl))) (mvT hZ (hw _ (List.mem_of_getElem? (i := 47) rfl))) (own_selP hZ (hw _ (List.mem_of_getElem? (i := 2) rfl)) (hw _ (List.mem_of_getElem? (i := 48) rfl)) (hw _ (List.mem_of_getElem? (i := 47) rfl)) (by decide)) (Cond.privateMethod_at (mvP hZ (hw _ (List.mem_of_getElem? (i := 48) rfl)) (args := #[]))) (mvT hZ (hw _ (List.mem_of_getElem? (i := 49) rfl))) (by decide) (backOf (W := 0) (own_upA l Z a0 hw [] ix en (1 : Int32) t k es (2 : Int32) f (own_upd dl en d) pl 1 x0 h52 n0 Z0'' D St hen (by decide) (by decide) (fun _ => ⟨hf0, hx0, qc⟩)) hZ (hw _ (List.mem_of_getElem? (i := 49) rfl)) (hw _ (List.mem_of_getElem? (i := 3) rfl)) (by decide) (by decide)) (g := (mkF m 55 #[.val (.ref ix), .val (.ref en), .val (.long d), .second] [(.int (1 : Int32)), (.ref en), (.ref ix)])) rfl (by rw [hml]; rfl) (Steps.refl _) (a := ix) (by first | exact q55 | (rw [e53]; exact q55)) q55' (argsL := [(.ref en), (.int (1 : Int32))]) (rest := []) (lenOf own_pd0 rfl) rfl (by show 2 * 0 + _ ≤ _; exact Nat.le_of_eq rfl) (hb hby d6_55) (fun _ _ => ⟨rfl, e53, (by decide : 0 + 0 ≤ _), (by decide : 0 + 0 ≤ _)⟩)
      dsimp only [Pt.U, Pt.locs, Pt.cells, Pt.slots] at X55 l55 y55 z55 st55 hQ55
      subst l55 y55 z55
      obtain ⟨rfl, N55q, K55, St⟩ := hQ55
      have N0''' := Fr.app N0'' N55q
      have Z0''' := Nat.le_trans Z0'' K55
      have G0''' := Nat.le_trans G0'' K55
      refine own_tr (T' := T55) (g' := (mkF m 58 #[.val (.ref ix), .val (.ref en), .val (.long d), .second] [])) st55 ?_
      exact own_ret0 X55 hx Bd.returns Bd.notSynchronized rfl (hb hby d6_58) ⟨rfl, N0''', G0''', [x0, en], _, _, _, St, Or.inr (Or.inr (Or.inl ⟨_, _, rfl, rfl, by simp [hf0], by simp [hf0], by simp [own_upd, hp0, ne0, Ne.symm ne0], by simp [own_upd, hp0, ne0, Ne.symm ne0], by first | assumption | (symm; assumption), by simp [own_upd, ne0, Ne.symm ne0, Int64.le_iff_toInt_le, Int64.lt_iff_toInt_lt] at qc ⊢ <;> omega⟩)), own_mem_add Mm hen hd (fun x => by simp; try grind)⟩ (by decide) (by decide)
  · have hx0 := Mm.1 x0 (by simp)
    have hx1 := Mm.1 x1 (by simp)
    have hnx : en ∉ [x0, x1] := fun u => (Mm.2 en hen).mp u hmin
    simp at hnx
    have ne0 : en ≠ x0 := by exact hnx.1
    have ne1 : en ≠ x1 := by exact hnx.2
    refine own_st (T' := s₁) (g' := (mkF m 1 #[.val (.ref ix), .val (.ref en), .val (.long d), .second] [(.ref ix)])) (fun _ k => XS.aloadN X0.here hx rfl (hb hby d6_0) rfl rfl k) ?_
    obtain ⟨T56, X56, e56, st56⟩ := getF X0 hx hZ hown (host := "") (Or.inl (hw _ (List.mem_of_getElem? (i := 43) rfl))) Via.refl e0 St.2.2.1 (g := (mkF m 1 #[.val (.ref ix), .val (.ref en), .val (.long d), .second] [(.ref ix)])) rfl rfl (hb hby d6_1)
    refine own_st (T' := T56) (g' := (mkF m 4 #[.val (.ref ix), .val (.ref en), .val (.long d), .second] [(.int (2 : Int32))])) st56 ?_
    refine own_st (T' := T56) (g' := (mkF m 5 #[.val (.ref ix), .val (.ref en), .val (.long d), .second] [(.ref ix), (.int (2 : Int32))])) (fun _ k => XS.aloadN X56.here hx rfl (hb hby d6_4) rfl rfl k) ?_
    obtain ⟨T57, X57, e57, st57⟩ := getF X56 hx hZ hown (host := "") (Or.inl (hw _ (List.mem_of_getElem? (i := 12) rfl))) Via.refl e56 St.2.1 (g := (mkF m 5 #[.val (.ref ix), .val (.ref en), .val (.long d), .second] [(.ref ix), (.int (2 : Int32))])) rfl rfl (hb hby d6_5)
    refine own_st (T' := T57) (g' := (mkF m 8 #[.val (.ref ix), .val (.ref en), .val (.long d), .second] [(.ref t), (.int (2 : Int32))])) st57 ?_
    refine own_st (T' := T57) (g' := (mkF m 9 #[.val (.ref ix), .val (.ref en), .val (.long d), .second] [(.int (16 : Int32)), (.int (2 : Int32))])) (own_len X57 hx hZ e57 St.2.2.2.1 (z := (16 : Int32)) rfl (g := (mkF m 8 #[.val (.ref ix), .val (.ref en), .val (.long d), .second] [(.ref t), (.int (2 : Int32))])) rfl rfl (hb hby d6_8)) ?_
    refine own_st (T' := T57) (g' := (mkF m 32 #[.val (.ref ix), .val (.ref en), .val (.long d), .second] [])) (fun _ k => XS.icmpYes X57.here hx rfl (pc0 := 9) (pc' := 32) rfl (hb hby d6_9) rfl (Jvm.Free.XT.ii_ne_t (by decide)) (by decide) (by decide) k) ?_
    refine own_st (T' := T57) (g' := (mkF m 33 #[.val (.ref ix), .val (.ref en), .val (.long d), .second] [(.ref en)])) (fun _ k => XS.aloadN X57.here hx rfl (hb hby d6_32) rfl rfl k) ?_
    refine own_st (T' := T57) (g' := (mkF m 34 #[.val (.ref ix), .val (.ref en), .val (.long d), .second] [(.long d), (.ref en)])) (fun _ k => XS.lloadN X57.here hx rfl (hb hby d6_33) rfl k) ?_
    obtain ⟨T58, h58, X58, e58, W58, st58⟩ := putF X57 hx hZ hown (host := "") (Or.inl (hw _ (List.mem_of_getElem? (i := 45) rfl))) Via.refl e57 (St.2.2.2.2 en hen).2.1 (St.2.2.2.2 en hen).1 (Or.inl (hw _ (List.mem_of_getElem? (i := 23) rfl))) (hw _ (List.mem_of_getElem? (i := 15) rfl)) (ty := .long) (by decide) rfl rfl (g := (mkF m 34 #[.val (.ref ix), .val (.ref en), .val (.long d), .second] [(.long d), (.ref en)])) rfl rfl (hb hby d6_34)
    have Z0' := Nat.le_trans Z0 (Keep.of_wr W58).1
    have G0' := Nat.le_trans G0 (Keep.of_wr W58).1
    have N0' := Fr.snoc X58 N0 (D.2.2.2.2.1 en hen).2.2
    have St := St.wDl D hen W58
    refine own_st (T' := T58) (g' := (mkF m 37 #[.val (.ref ix), .val (.ref en), .val (.long d), .second] [])) st58 ?_
    refine own_st (T' := T58) (g' := (mkF m 38 #[.val (.ref ix), .val (.ref en), .val (.long d), .second] [(.ref ix)])) (fun _ k => XS.aloadN X58.here hx rfl (hb hby d6_37) rfl rfl k) ?_
    refine own_st (T' := T58) (g' := (mkF m 39 #[.val (.ref ix), .val (.ref en), .val (.long d), .second] [(.ref ix), (.ref ix)])) (fun _ k => XS.dup X58.here hx rfl (hb hby d6_38) rfl rfl k) ?_
    obtain ⟨T59, X59, e59, st59⟩ := getF X58 hx hZ hown (host := "") (Or.inl (hw _ (List.mem_of_getElem? (i := 43) rfl))) Via.refl e58 St.2.2.1 (g := (mkF m 39 #[.val (.ref ix), .val (.ref en), .val (.long d), .second] [(.ref ix), (.ref ix)])) rfl rfl (hb hby d6_39)
    refine own_st (T' := T59) (g' := (mkF m 42 #[.val (.ref ix), .val (.ref en), .val (.long d), .second] [(.int (2 : Int32)), (.ref ix)])) st59 ?_
    refine own_st (T' := T59) (g' := (mkF m 43 #[.val (.ref ix), .val (.ref en), .val (.long d), .second] [(.int (1 : Int32)), (.int (2 : Int32)), (.ref ix)])) (fun _ k => XS.iconst X59.here hx rfl (hb hby d6_42) k) ?_
    refine own_st (T' := T59) (g' := (mkF m 44 #[.val (.ref ix), .val (.ref en), .val (.long d), .second] [(.int ((2 : Int32) + (1 : Int32))), (.ref ix)])) (fun _ k => XS.iadd X59.here hx rfl (hb hby d6_43) rfl k) ?_
    rw [show ((2 : Int32) + (1 : Int32)) = (3 : Int32) from rfl]
    obtain ⟨T60, h60, X60, e60, W60, st60⟩ := putF X59 hx hZ hown (host := "") (Or.inl (hw _ (List.mem_of_getElem? (i := 43) rfl))) Via.refl e59 St.2.2.1 St.1 (Or.inl (hw _ (List.mem_of_getElem? (i := 44) rfl))) (hw _ (List.mem_of_getElem? (i := 2) rfl)) (ty := .int) (by decide) rfl rfl (g := (mkF m 44 #[.val (.ref ix), .val (.ref en), .val (.long d), .second] [(.int (3 : Int32)), (.ref ix)])) rfl rfl (hb hby d6_44)
    have Z0'' := Nat.le_trans Z0' (Keep.of_wr W60).1
    have G0'' := Nat.le_trans G0' (Keep.of_wr W60).1
    have N0'' := Fr.snoc X60 N0' D.2.1
    have St := St.wSize D W60
    refine own_st (T' := T60) (g' := (mkF m 47 #[.val (.ref ix), .val (.ref en), .val (.long d), .second] [])) st60 ?_
    refine own_st (T' := T60) (g' := (mkF m 48 #[.val (.ref ix), .val (.ref en), .val (.long d), .second] [(.ref ix)])) (fun _ k => XS.aloadN X60.here hx rfl (hb hby d6_47) rfl rfl k) ?_
    refine own_st (T' := T60) (g' := (mkF m 49 #[.val (.ref ix), .val (.ref en), .val (.long d), .second] [(.ref en), (.ref ix)])) (fun _ k => XS.aloadN X60.here hx rfl (hb hby d6_48) rfl rfl k) ?_
    refine own_st (T' := T60) (g' := (mkF m 50 #[.val (.ref ix), .val (.ref en), .val (.long d), .second] [(.ref ix), (.ref en), (.ref ix)])) (fun _ k => XS.aloadN X60.here hx rfl (hb hby d6_49) rfl rfl k) ?_
    obtain ⟨T61, X61, e61, st61⟩ := getF X60 hx hZ hown (host := "") (Or.inl (hw _ (List.mem_of_getElem? (i := 43) rfl))) Via.refl e60 St.2.2.1 (g := (mkF m 50 #[.val (.ref ix), .val (.ref en), .val (.long d), .second] [(.ref ix), (.ref en), (.ref ix)])) rfl rfl (hb hby d6_50)
    refine own_st (T' := T61) (g' := (mkF m 53 #[.val (.ref ix), .val (.ref en), .val (.long d), .second] [(.int (3 : Int32)), (.ref en), (.ref ix)])) st61 ?_
    refine own_st (T' := T61) (g' := (mkF m 54 #[.val (.ref ix), .val (.ref en), .val (.long d), .second] [(.int (1 : Int32)), (.int (3 : Int32)), (.ref en), (.ref ix)])) (fun _ k => XS.iconst X61.here hx rfl (hb hby d6_53) k) ?_
    refine own_st (T' := T61) (g' := (mkF m 55 #[.val (.ref ix), .val (.ref en), .val (.long d), .second] [(.int ((3 : Int32) - (1 : Int32))), (.ref en), (.ref ix)])) (fun _ k => XS.isub X61.here hx rfl (hb hby d6_54) rfl k) ?_
    rw [show ((3 : Int32) - (1 : Int32)) = (2 : Int32) from rfl]
    by_cases qc : own_upd dl en d en < own_upd dl en d x0
    · obtain ⟨cq62, q62, q62'⟩ := St.1.cell
      obtain ⟨_, _, ⟨T62, L62, k62, n62⟩, -, X62, ⟨Lc62, hQ62, l62, y62, z62⟩, st62⟩ := X61.privateBack hx (y := (⟨"com/example/ovrdue/ovrdue/keyspace/DeadlineIndex", "siftUp", "(Lcom/example/ovrdue/ovrdue/keyspace/Entry;I)V"⟩ : MethodName)) hown (mvT hZ (hw _ (List.mem_of_getElem? (i := 46) rfl))) (mvT hZ (hw _ (List.mem_of_getElem? (i := 47) rfl))) (own_selP hZ (hw _ (List.mem_of_getElem? (i := 2) rfl)) (hw _ (List.mem_of_getElem? (i := 48) rfl)) (hw _ (List.mem_of_getElem? (i := 47) rfl)) (by decide)) (Cond.privateMethod_at (mvP hZ (hw _ (List.mem_of_getElem? (i := 48) rfl)) (args := #[]))) (mvT hZ (hw _ (List.mem_of_getElem? (i := 49) rfl))) (by decide) (backOf (W := 0) (own_upB l Z a0 hw [] ix en (2 : Int32) t k es (3 : Int32) f (own_upd dl en d) pl 2 x0 h60 n0 Z0'' D St hen hx0 (by decide) (by decide) hf0 qc) hZ (hw _ (List.mem_of_getElem? (i := 49) rfl)) (hw _ (List.mem_of_getElem? (i := 3) rfl)) (by decide) (by decide)) (g := (mkF m 55 #[.val (.ref ix), .val (.ref en), .val (.long d), .second] [(.int (2 : Int32)), (.ref en), (.ref ix)])) rfl (by rw [hml]; rfl) (Steps.refl _) (a := ix) (by first | exact q62 | (rw [e61]; exact q62)) q62' (argsL := [(.ref en), (.int (2 : Int32))]) (rest := []) (lenOf own_pd0 rfl) rfl (by show 2 * 0 + _ ≤ _; exact Nat.le_of_eq rfl) (hb hby d6_55) (fun _ _ => ⟨rfl, e61, (by decide : 0 + 0 ≤ _), (by decide : 0 + 0 ≤ _)⟩)
      dsimp only [Pt.U, Pt.locs, Pt.cells, Pt.slots] at X62 l62 y62 z62 st62 hQ62
      subst l62 y62 z62
      obtain ⟨rfl, N62q, K62, St⟩ := hQ62
      have N0''' := Fr.app N0'' N62q
      have Z0''' := Nat.le_trans Z0'' K62
      have G0''' := Nat.le_trans G0'' K62
      refine own_tr (T' := T62) (g' := (mkF m 58 #[.val (.ref ix), .val (.ref en), .val (.long d), .second] [])) st62 ?_
      exact own_ret0 X62 hx Bd.returns Bd.notSynchronized rfl (hb hby d6_58) ⟨rfl, N0''', G0''', [en, x1, x0], _, _, _, St, Or.inr (Or.inr (Or.inr ⟨_, _, _, rfl, rfl, by simp [hf0, hf1], by simp [hf0, hf1], by simp [hf0, hf1], by simp [own_upd, hp0, hp1, n01, ne0, ne1, Ne.symm n01, Ne.symm ne0, Ne.symm ne1], by simp [own_upd, hp0, hp1, n01, ne0, ne1, Ne.symm n01, Ne.symm ne0, Ne.symm ne1], by simp [own_upd, hp0, hp1, n01, ne0, ne1, Ne.symm n01, Ne.symm ne0, Ne.symm ne1], by first | assumption | (symm; assumption), by first | assumption | (symm; assumption), by first | assumption | (symm; assumption), by simp [own_upd, n01, ne0, ne1, Ne.symm n01, Ne.symm ne0, Ne.symm ne1, Int64.le_iff_toInt_le, Int64.lt_iff_toInt_lt] at l01 qc ⊢ <;> omega, by simp [own_upd, n01, ne0, ne1, Ne.symm n01, Ne.symm ne0, Ne.symm ne1, Int64.le_iff_toInt_le, Int64.lt_iff_toInt_lt] at l01 qc ⊢ <;> omega⟩)), own_mem_add Mm hen hd (fun x => by simp; try grind)⟩ (by decide) (by decide)
    · obtain ⟨cq63, q63, q63'⟩ := St.1.cell
      obtain ⟨_, _, ⟨T63, L63, k63, n63⟩, -, X63, ⟨Lc63, hQ63, l63, y63, z63⟩, st63⟩ := X61.privateBack hx (y := (⟨"com/example/ovrdue/ovrdue/keyspace/DeadlineIndex", "siftUp", "(Lcom/example/ovrdue/ovrdue/keyspace/Entry;I)V"⟩ : MethodName)) hown (mvT hZ (hw _ (List.mem_of_getElem? (i := 46) rfl))) (mvT hZ (hw _ (List.mem_of_getElem? (i := 47) rfl))) (own_selP hZ (hw _ (List.mem_of_getElem? (i := 2) rfl)) (hw _ (List.mem_of_getElem? (i := 48) rfl)) (hw _ (List.mem_of_getElem? (i := 47) rfl)) (by decide)) (Cond.privateMethod_at (mvP hZ (hw _ (List.mem_of_getElem? (i := 48) rfl)) (args := #[]))) (mvT hZ (hw _ (List.mem_of_getElem? (i := 49) rfl))) (by decide) (backOf (W := 0) (own_upA l Z a0 hw [] ix en (2 : Int32) t k es (3 : Int32) f (own_upd dl en d) pl 2 x0 h60 n0 Z0'' D St hen (by decide) (by decide) (fun _ => ⟨hf0, hx0, qc⟩)) hZ (hw _ (List.mem_of_getElem? (i := 49) rfl)) (hw _ (List.mem_of_getElem? (i := 3) rfl)) (by decide) (by decide)) (g := (mkF m 55 #[.val (.ref ix), .val (.ref en), .val (.long d), .second] [(.int (2 : Int32)), (.ref en), (.ref ix)])) rfl (by rw [hml]; rfl) (Steps.refl _) (a := ix) (by first | exact q63 | (rw [e61]; exact q63)) q63' (argsL := [(.ref en), (.int (2 : Int32))]) (rest := []) (lenOf own_pd0 rfl) rfl (by show 2 * 0 + _ ≤ _; exact Nat.le_of_eq rfl) (hb hby d6_55) (fun _ _ => ⟨rfl, e61, (by decide : 0 + 0 ≤ _), (by decide : 0 + 0 ≤ _)⟩)
      dsimp only [Pt.U, Pt.locs, Pt.cells, Pt.slots] at X63 l63 y63 z63 st63 hQ63
      subst l63 y63 z63
      obtain ⟨rfl, N63q, K63, St⟩ := hQ63
      have N0''' := Fr.app N0'' N63q
      have Z0''' := Nat.le_trans Z0'' K63
      have G0''' := Nat.le_trans G0'' K63
      refine own_tr (T' := T63) (g' := (mkF m 58 #[.val (.ref ix), .val (.ref en), .val (.long d), .second] [])) st63 ?_
      exact own_ret0 X63 hx Bd.returns Bd.notSynchronized rfl (hb hby d6_58) ⟨rfl, N0''', G0''', [x0, x1, en], _, _, _, St, Or.inr (Or.inr (Or.inr ⟨_, _, _, rfl, rfl, by simp [hf0, hf1], by simp [hf0, hf1], by simp [hf0, hf1], by simp [own_upd, hp0, hp1, n01, ne0, ne1, Ne.symm n01, Ne.symm ne0, Ne.symm ne1], by simp [own_upd, hp0, hp1, n01, ne0, ne1, Ne.symm n01, Ne.symm ne0, Ne.symm ne1], by simp [own_upd, hp0, hp1, n01, ne0, ne1, Ne.symm n01, Ne.symm ne0, Ne.symm ne1], by first | assumption | (symm; assumption), by first | assumption | (symm; assumption), by first | assumption | (symm; assumption), by simp [own_upd, n01, ne0, ne1, Ne.symm n01, Ne.symm ne0, Ne.symm ne1, Int64.le_iff_toInt_le, Int64.lt_iff_toInt_lt] at l01 qc ⊢ <;> omega, by simp [own_upd, n01, ne0, ne1, Ne.symm n01, Ne.symm ne0, Ne.symm ne1, Int64.le_iff_toInt_le, Int64.lt_iff_toInt_lt] at l01 qc ⊢ <;> omega⟩)), own_mem_add Mm hen hd (fun x => by simp; try grind)⟩ (by decide) (by decide)
  · have hx0 := Mm.1 x0 (by simp)
    have hx1 := Mm.1 x1 (by simp)
    have hx2 := Mm.1 x2 (by simp)
    have hnx : en ∉ [x0, x1, x2] := fun u => (Mm.2 en hen).mp u hmin
    simp at hnx
    exact absurd (D3 x0 x1 x2 en hx0 hx1 hx2 hen n01 n02 n12 (by grind) (by grind) (by grind)) id
theorem own_pd1 : parseMethodDescriptor "()Z" = some ⟨[], some .boolean⟩ := by decide +kernel
theorem d12_0 : decode prog_6_method_7_code 0 = .ok (.aload_n 1, 1) := by decide +kernel
theorem d12_1 : decode prog_6_method_7_code 1 = .ok (.invokevirtual 25, 3) := by decide +kernel
theorem d12_4 : decode prog_6_method_7_code 4 = .ok (.ifCond .ne 4, 3) := by decide +kernel
theorem d12_7 : decode prog_6_method_7_code 7 = .ok (.return_, 1) := by decide +kernel
theorem d12_8 : decode prog_6_method_7_code 8 = .ok (.aload_n 1, 1) := by decide +kernel
theorem d12_9 : decode prog_6_method_7_code 9 = .ok (.getfield 37, 3) := by decide +kernel
theorem d12_12 : decode prog_6_method_7_code 12 = .ok (.istore_n 2, 1) := by decide +kernel
theorem d12_13 : decode prog_6_method_7_code 13 = .ok (.aload_n 1, 1) := by decide +kernel
theorem d12_14 : decode prog_6_method_7_code 14 = .ok (.ldc2_w 19, 3) := by decide +kernel
theorem d12_17 : decode prog_6_method_7_code 17 = .ok (.putfield 33, 3) := by decide +kernel
theorem d12_20 : decode prog_6_method_7_code 20 = .ok (.aload_n 0, 1) := by decide +kernel
theorem d12_21 : decode prog_6_method_7_code 21 = .ok (.dup, 1) := by decide +kernel
theorem d12_22 : decode prog_6_method_7_code 22 = .ok (.getfield 15, 3) := by decide +kernel
theorem d12_25 : decode prog_6_method_7_code 25 = .ok (.iconst 1, 1) := by decide +kernel
theorem d12_26 : decode prog_6_method_7_code 26 = .ok (.isub, 1) := by decide +kernel
theorem d12_27 : decode prog_6_method_7_code 27 = .ok (.putfield 15, 3) := by decide +kernel
theorem d12_30 : decode prog_6_method_7_code 30 = .ok (.aload_n 0, 1) := by decide +kernel
theorem d12_31 : decode prog_6_method_7_code 31 = .ok (.getfield 11, 3) := by decide +kernel
theorem d12_34 : decode prog_6_method_7_code 34 = .ok (.aload_n 0, 1) := by decide +kernel
theorem d12_35 : decode prog_6_method_7_code 35 = .ok (.getfield 15, 3) := by decide +kernel
theorem d12_38 : decode prog_6_method_7_code 38 = .ok (.aaload, 1) := by decide +kernel
theorem d12_39 : decode prog_6_method_7_code 39 = .ok (.astore_n 3, 1) := by decide +kernel
theorem d12_40 : decode prog_6_method_7_code 40 = .ok (.aload_n 0, 1) := by decide +kernel
theorem d12_41 : decode prog_6_method_7_code 41 = .ok (.getfield 11, 3) := by decide +kernel
theorem d12_44 : decode prog_6_method_7_code 44 = .ok (.aload_n 0, 1) := by decide +kernel
theorem d12_45 : decode prog_6_method_7_code 45 = .ok (.getfield 15, 3) := by decide +kernel
theorem d12_48 : decode prog_6_method_7_code 48 = .ok (.aconst_null, 1) := by decide +kernel
theorem d12_49 : decode prog_6_method_7_code 49 = .ok (.aastore, 1) := by decide +kernel
theorem d12_50 : decode prog_6_method_7_code 50 = .ok (.aload_n 3, 1) := by decide +kernel
theorem d12_51 : decode prog_6_method_7_code 51 = .ok (.aload_n 1, 1) := by decide +kernel
theorem d12_52 : decode prog_6_method_7_code 52 = .ok (.if_acmp .eq 23, 3) := by decide +kernel
theorem d12_55 : decode prog_6_method_7_code 55 = .ok (.aload_n 0, 1) := by decide +kernel
theorem d12_56 : decode prog_6_method_7_code 56 = .ok (.aload_n 3, 1) := by decide +kernel
theorem d12_57 : decode prog_6_method_7_code 57 = .ok (.iload_n 2, 1) := by decide +kernel
theorem d12_58 : decode prog_6_method_7_code 58 = .ok (.invokevirtual 44, 3) := by decide +kernel
theorem d12_61 : decode prog_6_method_7_code 61 = .ok (.aload_n 3, 1) := by decide +kernel
theorem d12_62 : decode prog_6_method_7_code 62 = .ok (.getfield 37, 3) := by decide +kernel
theorem d12_65 : decode prog_6_method_7_code 65 = .ok (.iload_n 2, 1) := by decide +kernel
theorem d12_66 : decode prog_6_method_7_code 66 = .ok (.if_icmp .ne 9, 3) := by decide +kernel
theorem d12_69 : decode prog_6_method_7_code 69 = .ok (.aload_n 0, 1) := by decide +kernel
theorem d12_70 : decode prog_6_method_7_code 70 = .ok (.aload_n 3, 1) := by decide +kernel
theorem d12_71 : decode prog_6_method_7_code 71 = .ok (.iload_n 2, 1) := by decide +kernel
theorem d12_72 : decode prog_6_method_7_code 72 = .ok (.invokevirtual 40, 3) := by decide +kernel
theorem d12_75 : decode prog_6_method_7_code 75 = .ok (.return_, 1) := by decide +kernel
def own_rem_Q (Z : State) (ix : Addr) (en : Addr) (t : Addr) (k : ClassId) (es : List Addr) (dl : Addr → Int64) (h0 : Heap) (n0 : Nat) (v : Option Value) (h : Heap) (L : List Loc) : Prop := v = none ∧ Fr n0 L ∧ h0.size ≤ h.size ∧ own_Ix Z h ix t k es (own_upd dl en (-9223372036854775808 : Int64))
set_option maxRecDepth 65536 in
set_option maxHeartbeats 40000000 in
theorem own_rem (l : Launch) (Z : State) (a0 : Array Value) (hw : ∀ d ∈ tables_1, d.before a0 Z = true) (ws : List Jvm.Cond) (ix : Addr) (en : Addr) (t : Addr) (k : ClassId) (es : List Addr) (dl : Addr → Int64) (h0 : Heap) (n0 : Nat) (Z0 : n0 ≤ h0.size) (D : own_Ds Z n0 ix t k es) (D3 : own_D3 es) (Ix : own_Ix Z h0 ix t k es dl) (hen : en ∈ es) :
    MetFree l (⟨"com/example/ovrdue/ovrdue/keyspace/DeadlineIndex", "remove", "(Lcom/example/ovrdue/ovrdue/keyspace/Entry;)V"⟩ : MethodName) (head1 (Jvm.Cond.code (⟨"com/example/ovrdue/ovrdue/keyspace/DeadlineIndex", "remove", "(Lcom/example/ovrdue/ovrdue/keyspace/Entry;)V"⟩ : MethodName) prog_6_method_7_code 4 none :: ws) ({ frames := 2, cells := 0, slots := 0, locals := 30 } : Room)) (fun aa U0 => aa = #[(.ref ix), (.ref en)] ∧ Z.Warmed39 U0.vm ∧ U0.heap = h0) (fun _ _ _ _ _ => True) (fun _ U0 o0 U1 => ∃ v0 L0, o0 = .returned v0 ∧ own_rem_Q Z ix en t k es dl h0 n0 v0 U1.heap L0 ∧ FrameEnd U0 o0 U1 L0 ({ frames := 2, cells := 0, slots := 0, locals := 30 } : Room).cells ({ frames := 2, cells := 0, slots := 0, locals := 30 } : Room).slots) := by
  refine MetFree.of_bodySF (plainFor_of_name own_pn0) hisR ?_
  intro p e s m args below meth c s₁ Bd hml0 hP hK
  obtain ⟨rfl, hZ, hh⟩ := hP
  have hx := Bd.exec
  have hby := Bd.bytes
  have hml : c.maxLocals = 4 := hml0
  have hown : s.vm.findClass "com/example/ovrdue/ovrdue/keyspace/DeadlineIndex" = some m.cls := findClass_of_methodNamed Bd.named
  have hnm := (name_of_methodNamed Bd.named Bd.method).1
  have X0 : Stand p l e ({ frames := 2, cells := 0, slots := 0, locals := 30 } : Room) s m #[(.ref ix), (.ref en)] below meth c s₁ [] 0 0 := Stand.of_body Bd
  have e0 : s₁.heap = h0 := by rw [← hh, Bd.state]; rfl
  have N0 := Fr.nil n0
  show own_Go p e below s (own_rem_Q Z ix en t k es dl h0 n0) 0 0 s₁ (entryFrame m #[(.ref ix), (.ref en)] 4)
  rw [show entryFrame m #[(.ref ix), (.ref en)] 4 = mkF m 0 #[.val (.ref ix), .val (.ref en), .unset, .unset] [] from by first | (simp [entryFrame, mkF, argsToLocals, Value.category]; done) | rfl]
  have G0 : h0.size ≤ h0.size := Nat.le_refl _
  obtain ⟨xs, f, pl, n, St, Iv, Mm⟩ := Ix
  refine own_st (T' := s₁) (g' := (mkF m 1 #[.val (.ref ix), .val (.ref en), .unset, .unset] [(.ref en)])) (fun _ k => XS.aloadN X0.here hx rfl (hb hby d12_0) rfl rfl k) ?_
  obtain ⟨cq64, kq64, q64a, q64b, q64c⟩ := isOf hZ e0 (St.2.2.2.2 en hen).1
  obtain ⟨_, _, ⟨T64, L64, k64, n64⟩, -, X64, ⟨Lc64, hQ64, l64, y64, z64⟩, st64⟩ := X0.virtualBack hx (y := (⟨"com/example/ovrdue/ovrdue/keyspace/Entry", "hasDeadline", "()Z"⟩ : MethodName)) (z := (⟨"com/example/ovrdue/ovrdue/keyspace/Entry", "hasDeadline", "()Z"⟩ : MethodName)) hown (mvT hZ (hw _ (List.mem_of_getElem? (i := 34) rfl))) (mvT hZ (hw _ (List.mem_of_getElem? (i := 35) rfl))) (notFace_of_selects (args := #[]) (mvT hZ (hw _ (List.mem_of_getElem? (i := 37) rfl)))) (mvT hZ (hw _ (List.mem_of_getElem? (i := 37) rfl))) (mvT hZ (hw _ (List.mem_of_getElem? (i := 36) rfl))) (by decide) (backOf (W := 0) (own_has l Z a0 hw [] en (dl en) h0 n0 Z0 (St.2.2.2.2 en hen).2.1) hZ (hw _ (List.mem_of_getElem? (i := 38) rfl)) (hw _ (List.mem_of_getElem? (i := 16) rfl)) (by decide) (by decide)) q64a q64c (g := (mkF m 1 #[.val (.ref ix), .val (.ref en), .unset, .unset] [(.ref en)])) rfl (by rw [hml]; rfl) (Steps.refl _) (argsL := []) (rest := []) (lenOf own_pd1 rfl) rfl (by show 2 * 0 + _ ≤ _; exact Nat.le_of_eq rfl) (hb hby d12_1) (fun _ _ => ⟨rfl, e0, (by decide : 0 + 0 ≤ _), (by decide : 0 + 0 ≤ _)⟩)
  dsimp only [Pt.U, Pt.locs, Pt.cells, Pt.slots] at X64 l64 y64 z64 st64 hQ64
  subst l64 y64 z64
  obtain ⟨rfl, N64q, e64⟩ := hQ64
  have N0' := Fr.app N0 N64q
  refine own_tr (T' := T64) (g' := (mkF m 4 #[.val (.ref ix), .val (.ref en), .unset, .unset] [(.int (if dl en = (-9223372036854775808 : Int64) then (0 : Int32) else 1))])) st64 ?_
  by_cases hmin : dl en = (-9223372036854775808 : Int64)
  · refine own_st (T' := T64) (g' := (mkF m 7 #[.val (.ref ix), .val (.ref en), .unset, .unset] [])) (fun _ k => XS.ifNo X64.here hx rfl (hb hby d12_4) rfl (Jvm.Free.XT.i0_ne_f (by simp [hmin])) k) ?_
    have hdl : own_upd dl en (-9223372036854775808 : Int64) = dl := by funext x; by_cases u : x = en <;> simp [own_upd, u, hmin]
    exact own_ret0 X64 hx Bd.returns Bd.notSynchronized e64 (hb hby d12_7) ⟨rfl, N0', G0, by rw [hdl]; exact ⟨xs, f, pl, n, St, Iv, Mm⟩⟩ (by decide) (by decide)
  · refine own_st (T' := T64) (g' := (mkF m 8 #[.val (.ref ix), .val (.ref en), .unset, .unset] [])) (fun _ k => XS.ifYes X64.here hx rfl (pc0 := 4) (pc' := 8) rfl (hb hby d12_4) rfl (Jvm.Free.XT.i0_ne_t (by simp [hmin])) (by decide) (by decide) k) ?_
    have hin := (Mm.2 en hen).mpr hmin
    rcases Iv with ⟨rfl, rfl⟩ | ⟨x0, rfl, rfl, hf0, hp0⟩ | ⟨x0, x1, rfl, rfl, hf0, hf1, hp0, hp1, n01, l01⟩ | ⟨x0, x1, x2, rfl, rfl, hf0, hf1, hf2, hp0, hp1, hp2, n01, n02, n12, l01, l02⟩
    · simp at hin
    · have hx0 := Mm.1 x0 (by simp)
      simp at hin
      subst hin
      have Fp := (St.2.2.2.2 en hen).2.2
      rw [hp0] at Fp
      refine own_st (T' := T64) (g' := (mkF m 9 #[.val (.ref ix), .val (.ref en), .unset, .unset] [(.ref en)])) (fun _ k => XS.aloadN X64.here hx rfl (hb hby d12_8) rfl rfl k) ?_
      obtain ⟨T65, X65, e65, st65⟩ := getF X64 hx hZ hown (host := "") (Or.inl (hw _ (List.mem_of_getElem? (i := 55) rfl))) Via.refl e64 Fp (g := (mkF m 9 #[.val (.ref ix), .val (.ref en), .unset, .unset] [(.ref en)])) rfl rfl (hb hby d12_9)
      refine own_st (T' := T65) (g' := (mkF m 12 #[.val (.ref ix), .val (.ref en), .unset, .unset] [(.int (0 : Int32))])) st65 ?_
      refine own_st (T' := T65) (g' := (mkF m 13 #[.val (.ref ix), .val (.ref en), .val (.int (0 : Int32)), .unset] [])) (fun _ k => XS.istoreN X65.here hx rfl (hb hby d12_12) rfl (l' := #[.val (.ref ix), .val (.ref en), .val (.int (0 : Int32)), .unset]) rfl k) ?_
      refine own_st (T' := T65) (g' := (mkF m 14 #[.val (.ref ix), .val (.ref en), .val (.int (0 : Int32)), .unset] [(.ref en)])) (fun _ k => XS.aloadN X65.here hx rfl (hb hby d12_13) rfl rfl k) ?_
      refine own_st (T' := T65) (g' := (mkF m 17 #[.val (.ref ix), .val (.ref en), .val (.int (0 : Int32)), .unset] [(.long (-9223372036854775808 : Int64)), (.ref en)])) (X65.ldc2Long hx hown (mvT hZ (hw _ (List.mem_of_getElem? (i := 33) rfl))) (g := (mkF m 14 #[.val (.ref ix), .val (.ref en), .val (.int (0 : Int32)), .unset] [(.ref en)])) rfl (hb hby d12_14)) ?_
      obtain ⟨T66, h66, X66, e66, W66, st66⟩ := putF X65 hx hZ hown (host := "") (Or.inl (hw _ (List.mem_of_getElem? (i := 45) rfl))) Via.refl e65 (St.2.2.2.2 en hen).2.1 (St.2.2.2.2 en hen).1 (Or.inl (hw _ (List.mem_of_getElem? (i := 23) rfl))) (hw _ (List.mem_of_getElem? (i := 15) rfl)) (ty := .long) (by decide) rfl rfl (g := (mkF m 17 #[.val (.ref ix), .val (.ref en), .val (.int (0 : Int32)), .unset] [(.long (-9223372036854775808 : Int64)), (.ref en)])) rfl rfl (hb hby d12_17)
      have Z0' := Nat.le_trans Z0 (Keep.of_wr W66).1
      have G0' := Nat.le_trans G0 (Keep.of_wr W66).1
      have N0'' := Fr.snoc X66 N0' (D.2.2.2.2.1 en hen).2.2
      have St := St.wDl D hen W66
      refine own_st (T' := T66) (g' := (mkF m 20 #[.val (.ref ix), .val (.ref en), .val (.int (0 : Int32)), .unset] [])) st66 ?_
      refine own_st (T' := T66) (g' := (mkF m 21 #[.val (.ref ix), .val (.ref en), .val (.int (0 : Int32)), .unset] [(.ref ix)])) (fun _ k => XS.aloadN X66.here hx rfl (hb hby d12_20) rfl rfl k) ?_
      refine own_st (T' := T66) (g' := (mkF m 22 #[.val (.ref ix), .val (.ref en), .val (.int (0 : Int32)), .unset] [(.ref ix), (.ref ix)])) (fun _ k => XS.dup X66.here hx rfl (hb hby d12_21) rfl rfl k) ?_
      obtain ⟨T67, X67, e67, st67⟩ := getF X66 hx hZ hown (host := "") (Or.inl (hw _ (List.mem_of_getElem? (i := 43) rfl))) Via.refl e66 St.2.2.1 (g := (mkF m 22 #[.val (.ref ix), .val (.ref en), .val (.int (0 : Int32)), .unset] [(.ref ix), (.ref ix)])) rfl rfl (hb hby d12_22)
      refine own_st (T' := T67) (g' := (mkF m 25 #[.val (.ref ix), .val (.ref en), .val (.int (0 : Int32)), .unset] [(.int (1 : Int32)), (.ref ix)])) st67 ?_
      refine own_st (T' := T67) (g' := (mkF m 26 #[.val (.ref ix), .val (.ref en), .val (.int (0 : Int32)), .unset] [(.int (1 : Int32)), (.int (1 : Int32)), (.ref ix)])) (fun _ k => XS.iconst X67.here hx rfl (hb hby d12_25) k) ?_
      refine own_st (T' := T67) (g' := (mkF m 27 #[.val (.ref ix), .val (.ref en), .val (.int (0 : Int32)), .unset] [(.int ((1 : Int32) - (1 : Int32))), (.ref ix)])) (fun _ k => XS.isub X67.here hx rfl (hb hby d12_26) rfl k) ?_
      rw [show ((1 : Int32) - (1 : Int32)) = (0 : Int32) from rfl]
      obtain ⟨T68, h68, X68, e68, W68, st68⟩ := putF X67 hx hZ hown (host := "") (Or.inl (hw _ (List.mem_of_getElem? (i := 43) rfl))) Via.refl e67 St.2.2.1 St.1 (Or.inl (hw _ (List.mem_of_getElem? (i := 44) rfl))) (hw _ (List.mem_of_getElem? (i := 2) rfl)) (ty := .int) (by decide) rfl rfl (g := (mkF m 27 #[.val (.ref ix), .val (.ref en), .val (.int (0 : Int32)), .unset] [(.int (0 : Int32)), (.ref ix)])) rfl rfl (hb hby d12_27)
      have Z0'' := Nat.le_trans Z0' (Keep.of_wr W68).1
      have G0'' := Nat.le_trans G0' (Keep.of_wr W68).1
      have N0''' := Fr.snoc X68 N0'' D.2.1
      have St := St.wSize D W68
      refine own_st (T' := T68) (g' := (mkF m 30 #[.val (.ref ix), .val (.ref en), .val (.int (0 : Int32)), .unset] [])) st68 ?_
      refine own_st (T' := T68) (g' := (mkF m 31 #[.val (.ref ix), .val (.ref en), .val (.int (0 : Int32)), .unset] [(.ref ix)])) (fun _ k => XS.aloadN X68.here hx rfl (hb hby d12_30) rfl rfl k) ?_
      obtain ⟨T69, X69, e69, st69⟩ := getF X68 hx hZ hown (host := "") (Or.inl (hw _ (List.mem_of_getElem? (i := 12) rfl))) Via.refl e68 St.2.1 (g := (mkF m 31 #[.val (.ref ix), .val (.ref en), .val (.int (0 : Int32)), .unset] [(.ref ix)])) rfl rfl (hb hby d12_31)
      refine own_st (T' := T69) (g' := (mkF m 34 #[.val (.ref ix), .val (.ref en), .val (.int (0 : Int32)), .unset] [(.ref t)])) st69 ?_
      refine own_st (T' := T69) (g' := (mkF m 35 #[.val (.ref ix), .val (.ref en), .val (.int (0 : Int32)), .unset] [(.ref ix), (.ref t)])) (fun _ k => XS.aloadN X69.here hx rfl (hb hby d12_34) rfl rfl k) ?_
      obtain ⟨T70, X70, e70, st70⟩ := getF X69 hx hZ hown (host := "") (Or.inl (hw _ (List.mem_of_getElem? (i := 43) rfl))) Via.refl e69 St.2.2.1 (g := (mkF m 35 #[.val (.ref ix), .val (.ref en), .val (.int (0 : Int32)), .unset] [(.ref ix), (.ref t)])) rfl rfl (hb hby d12_35)
      refine own_st (T' := T70) (g' := (mkF m 38 #[.val (.ref ix), .val (.ref en), .val (.int (0 : Int32)), .unset] [(.int (0 : Int32)), (.ref t)])) st70 ?_
      refine own_st (T' := T70) (g' := (mkF m 39 #[.val (.ref ix), .val (.ref en), .val (.int (0 : Int32)), .unset] [(.ref en)])) (own_ldR X70 hx hZ e70 St.2.2.2.1 rfl (i := 0) (by decide) (by decide) (v := (.ref en)) hf0 (g := (mkF m 38 #[.val (.ref ix), .val (.ref en), .val (.int (0 : Int32)), .unset] [(.int (0 : Int32)), (.ref t)])) rfl rfl (hb hby d12_38)) ?_
      refine own_st (T' := T70) (g' := (mkF m 40 #[.val (.ref ix), .val (.ref en), .val (.int (0 : Int32)), .val (.ref en)] [])) (fun _ k => XS.astoreN X70.here hx rfl (hb hby d12_39) rfl rfl (l' := #[.val (.ref ix), .val (.ref en), .val (.int (0 : Int32)), .val (.ref en)]) rfl k) ?_
      refine own_st (T' := T70) (g' := (mkF m 41 #[.val (.ref ix), .val (.ref en), .val (.int (0 : Int32)), .val (.ref en)] [(.ref ix)])) (fun _ k => XS.aloadN X70.here hx rfl (hb hby d12_40) rfl rfl k) ?_
      obtain ⟨T71, X71, e71, st71⟩ := getF X70 hx hZ hown (host := "") (Or.inl (hw _ (List.mem_of_getElem? (i := 12) rfl))) Via.refl e70 St.2.1 (g := (mkF m 41 #[.val (.ref ix), .val (.ref en), .val (.int (0 : Int32)), .val (.ref en)] [(.ref ix)])) rfl rfl (hb hby d12_41)
      refine own_st (T' := T71) (g' := (mkF m 44 #[.val (.ref ix), .val (.ref en), .val (.int (0 : Int32)), .val (.ref en)] [(.ref t)])) st71 ?_
      refine own_st (T' := T71) (g' := (mkF m 45 #[.val (.ref ix), .val (.ref en), .val (.int (0 : Int32)), .val (.ref en)] [(.ref ix), (.ref t)])) (fun _ k => XS.aloadN X71.here hx rfl (hb hby d12_44) rfl rfl k) ?_
      obtain ⟨T72, X72, e72, st72⟩ := getF X71 hx hZ hown (host := "") (Or.inl (hw _ (List.mem_of_getElem? (i := 43) rfl))) Via.refl e71 St.2.2.1 (g := (mkF m 45 #[.val (.ref ix), .val (.ref en), .val (.int (0 : Int32)), .val (.ref en)] [(.ref ix), (.ref t)])) rfl rfl (hb hby d12_45)
      refine own_st (T' := T72) (g' := (mkF m 48 #[.val (.ref ix), .val (.ref en), .val (.int (0 : Int32)), .val (.ref en)] [(.int (0 : Int32)), (.ref t)])) st72 ?_
      refine own_st (T' := T72) (g' := (mkF m 49 #[.val (.ref ix), .val (.ref en), .val (.int (0 : Int32)), .val (.ref en)] [.null, (.int (0 : Int32)), (.ref t)])) (fun _ k => XS.aconstNull X72.here hx rfl (hb hby d12_48) k) ?_
      obtain ⟨T73, h73, X73, e73, W73, V73, st73⟩ := own_stR X72 hx hZ e72 St.2.2.2.1 D.2.2.2.1 (Or.inl rfl) (i := 0) (by decide) (by decide) (g := (mkF m 49 #[.val (.ref ix), .val (.ref en), .val (.int (0 : Int32)), .val (.ref en)] [.null, (.int (0 : Int32)), (.ref t)])) rfl rfl (hb hby d12_49)
      have Z0''' := Nat.le_trans Z0'' (Keep.of_wr W73).1
      have G0''' := Nat.le_trans G0'' (Keep.of_wr W73).1
      have N0'''' := Fr.snoc X73 N0''' D.2.2.1
      have St := St.wArr D W73 (i := 0) (by decide)
      refine own_st (T' := T73) (g' := (mkF m 50 #[.val (.ref ix), .val (.ref en), .val (.int (0 : Int32)), .val (.ref en)] [])) st73 ?_
      refine own_st (T' := T73) (g' := (mkF m 51 #[.val (.ref ix), .val (.ref en), .val (.int (0 : Int32)), .val (.ref en)] [(.ref en)])) (fun _ k => XS.aloadN X73.here hx rfl (hb hby d12_50) rfl rfl k) ?_
      refine own_st (T' := T73) (g' := (mkF m 52 #[.val (.ref ix), .val (.ref en), .val (.int (0 : Int32)), .val (.ref en)] [(.ref en), (.ref en)])) (fun _ k => XS.aloadN X73.here hx rfl (hb hby d12_51) rfl rfl k) ?_
      refine own_st (T' := T73) (g' := (mkF m 75 #[.val (.ref ix), .val (.ref en), .val (.int (0 : Int32)), .val (.ref en)] [])) (fun _ k => Jvm.Free.XT.acmpYes X73.here hx rfl (pc0 := 52) (pc' := 75) rfl (hb hby d12_52) rfl rfl rfl (Jvm.Free.XT.aa_eq_t rfl) (by decide) (by decide) k) ?_
      exact own_ret0 X73 hx Bd.returns Bd.notSynchronized e73 (hb hby d12_75) ⟨rfl, N0'''', G0''', [], _, _, _, St, Or.inl ⟨rfl, rfl⟩, own_mem_del Mm (fun x => by simp; try grind)⟩ (by decide) (by decide)
    · have hx0 := Mm.1 x0 (by simp)
      have hx1 := Mm.1 x1 (by simp)
      simp at hin
      rcases hin with rfl | rfl
      · have Fp := (St.2.2.2.2 en hen).2.2
        rw [hp0] at Fp
        refine own_st (T' := T64) (g' := (mkF m 9 #[.val (.ref ix), .val (.ref en), .unset, .unset] [(.ref en)])) (fun _ k => XS.aloadN X64.here hx rfl (hb hby d12_8) rfl rfl k) ?_
        obtain ⟨T74, X74, e74, st74⟩ := getF X64 hx hZ hown (host := "") (Or.inl (hw _ (List.mem_of_getElem? (i := 55) rfl))) Via.refl e64 Fp (g := (mkF m 9 #[.val (.ref ix), .val (.ref en), .unset, .unset] [(.ref en)])) rfl rfl (hb hby d12_9)
        refine own_st (T' := T74) (g' := (mkF m 12 #[.val (.ref ix), .val (.ref en), .unset, .unset] [(.int (0 : Int32))])) st74 ?_
        refine own_st (T' := T74) (g' := (mkF m 13 #[.val (.ref ix), .val (.ref en), .val (.int (0 : Int32)), .unset] [])) (fun _ k => XS.istoreN X74.here hx rfl (hb hby d12_12) rfl (l' := #[.val (.ref ix), .val (.ref en), .val (.int (0 : Int32)), .unset]) rfl k) ?_
        refine own_st (T' := T74) (g' := (mkF m 14 #[.val (.ref ix), .val (.ref en), .val (.int (0 : Int32)), .unset] [(.ref en)])) (fun _ k => XS.aloadN X74.here hx rfl (hb hby d12_13) rfl rfl k) ?_
        refine own_st (T' := T74) (g' := (mkF m 17 #[.val (.ref ix), .val (.ref en), .val (.int (0 : Int32)), .unset] [(.long (-9223372036854775808 : Int64)), (.ref en)])) (X74.ldc2Long hx hown (mvT hZ (hw _ (List.mem_of_getElem? (i := 33) rfl))) (g := (mkF m 14 #[.val (.ref ix), .val (.ref en), .val (.int (0 : Int32)), .unset] [(.ref en)])) rfl (hb hby d12_14)) ?_
        obtain ⟨T75, h75, X75, e75, W75, st75⟩ := putF X74 hx hZ hown (host := "") (Or.inl (hw _ (List.mem_of_getElem? (i := 45) rfl))) Via.refl e74 (St.2.2.2.2 en hen).2.1 (St.2.2.2.2 en hen).1 (Or.inl (hw _ (List.mem_of_getElem? (i := 23) rfl))) (hw _ (List.mem_of_getElem? (i := 15) rfl)) (ty := .long) (by decide) rfl rfl (g := (mkF m 17 #[.val (.ref ix), .val (.ref en), .val (.int (0 : Int32)), .unset] [(.long (-9223372036854775808 : Int64)), (.ref en)])) rfl rfl (hb hby d12_17)
        have Z0' := Nat.le_trans Z0 (Keep.of_wr W75).1
        have G0' := Nat.le_trans G0 (Keep.of_wr W75).1
        have N0'' := Fr.snoc X75 N0' (D.2.2.2.2.1 en hen).2.2
        have St := St.wDl D hen W75
        refine own_st (T' := T75) (g' := (mkF m 20 #[.val (.ref ix), .val (.ref en), .val (.int (0 : Int32)), .unset] [])) st75 ?_
        refine own_st (T' := T75) (g' := (mkF m 21 #[.val (.ref ix), .val (.ref en), .val (.int (0 : Int32)), .unset] [(.ref ix)])) (fun _ k => XS.aloadN X75.here hx rfl (hb hby d12_20) rfl rfl k) ?_
        refine own_st (T' := T75) (g' := (mkF m 22 #[.val (.ref ix), .val (.ref en), .val (.int (0 : Int32)), .unset] [(.ref ix), (.ref ix)])) (fun _ k => XS.dup X75.here hx rfl (hb hby d12_21) rfl rfl k) ?_
        obtain ⟨T76, X76, e76, st76⟩ := getF X75 hx hZ hown (host := "") (Or.inl (hw _ (List.mem_of_getElem? (i := 43) rfl))) Via.refl e75 St.2.2.1 (g := (mkF m 22 #[.val (.ref ix), .val (.ref en), .val (.int (0 : Int32)), .unset] [(.ref ix), (.ref ix)])) rfl rfl (hb hby d12_22)
        refine own_st (T' := T76) (g' := (mkF m 25 #[.val (.ref ix), .val (.ref en), .val (.int (0 : Int32)), .unset] [(.int (2 : Int32)), (.ref ix)])) st76 ?_
        refine own_st (T' := T76) (g' := (mkF m 26 #[.val (.ref ix), .val (.ref en), .val (.int (0 : Int32)), .unset] [(.int (1 : Int32)), (.int (2 : Int32)), (.ref ix)])) (fun _ k => XS.iconst X76.here hx rfl (hb hby d12_25) k) ?_
        refine own_st (T' := T76) (g' := (mkF m 27 #[.val (.ref ix), .val (.ref en), .val (.int (0 : Int32)), .unset] [(.int ((2 : Int32) - (1 : Int32))), (.ref ix)])) (fun _ k => XS.isub X76.here hx rfl (hb hby d12_26) rfl k) ?_
        rw [show ((2 : Int32) - (1 : Int32)) = (1 : Int32) from rfl]
        obtain ⟨T77, h77, X77, e77, W77, st77⟩ := putF X76 hx hZ hown (host := "") (Or.inl (hw _ (List.mem_of_getElem? (i := 43) rfl))) Via.refl e76 St.2.2.1 St.1 (Or.inl (hw _ (List.mem_of_getElem? (i := 44) rfl))) (hw _ (List.mem_of_getElem? (i := 2) rfl)) (ty := .int) (by decide) rfl rfl (g := (mkF m 27 #[.val (.ref ix), .val (.ref en), .val (.int (0 : Int32)), .unset] [(.int (1 : Int32)), (.ref ix)])) rfl rfl (hb hby d12_27)
        have Z0'' := Nat.le_trans Z0' (Keep.of_wr W77).1
        have G0'' := Nat.le_trans G0' (Keep.of_wr W77).1
        have N0''' := Fr.snoc X77 N0'' D.2.1
        have St := St.wSize D W77
        refine own_st (T' := T77) (g' := (mkF m 30 #[.val (.ref ix), .val (.ref en), .val (.int (0 : Int32)), .unset] [])) st77 ?_
        refine own_st (T' := T77) (g' := (mkF m 31 #[.val (.ref ix), .val (.ref en), .val (.int (0 : Int32)), .unset] [(.ref ix)])) (fun _ k => XS.aloadN X77.here hx rfl (hb hby d12_30) rfl rfl k) ?_
        obtain ⟨T78, X78, e78, st78⟩ := getF X77 hx hZ hown (host := "") (Or.inl (hw _ (List.mem_of_getElem? (i := 12) rfl))) Via.refl e77 St.2.1 (g := (mkF m 31 #[.val (.ref ix), .val (.ref en), .val (.int (0 : Int32)), .unset] [(.ref ix)])) rfl rfl (hb hby d12_31)
        refine own_st (T' := T78) (g' := (mkF m 34 #[.val (.ref ix), .val (.ref en), .val (.int (0 : Int32)), .unset] [(.ref t)])) st78 ?_
        refine own_st (T' := T78) (g' := (mkF m 35 #[.val (.ref ix), .val (.ref en), .val (.int (0 : Int32)), .unset] [(.ref ix), (.ref t)])) (fun _ k => XS.aloadN X78.here hx rfl (hb hby d12_34) rfl rfl k) ?_
        obtain ⟨T79, X79, e79, st79⟩ := getF X78 hx hZ hown (host := "") (Or.inl (hw _ (List.mem_of_getElem? (i := 43) rfl))) Via.refl e78 St.2.2.1 (g := (mkF m 35 #[.val (.ref ix), .val (.ref en), .val (.int (0 : Int32)), .unset] [(.ref ix), (.ref t)])) rfl rfl (hb hby d12_35)
        refine own_st (T' := T79) (g' := (mkF m 38 #[.val (.ref ix), .val (.ref en), .val (.int (0 : Int32)), .unset] [(.int (1 : Int32)), (.ref t)])) st79 ?_
        refine own_st (T' := T79) (g' := (mkF m 39 #[.val (.ref ix), .val (.ref en), .val (.int (0 : Int32)), .unset] [(.ref x1)])) (own_ldR X79 hx hZ e79 St.2.2.2.1 rfl (i := 1) (by decide) (by decide) (v := (.ref x1)) hf1 (g := (mkF m 38 #[.val (.ref ix), .val (.ref en), .val (.int (0 : Int32)), .unset] [(.int (1 : Int32)), (.ref t)])) rfl rfl (hb hby d12_38)) ?_
        refine own_st (T' := T79) (g' := (mkF m 40 #[.val (.ref ix), .val (.ref en), .val (.int (0 : Int32)), .val (.ref x1)] [])) (fun _ k => XS.astoreN X79.here hx rfl (hb hby d12_39) rfl rfl (l' := #[.val (.ref ix), .val (.ref en), .val (.int (0 : Int32)), .val (.ref x1)]) rfl k) ?_
        refine own_st (T' := T79) (g' := (mkF m 41 #[.val (.ref ix), .val (.ref en), .val (.int (0 : Int32)), .val (.ref x1)] [(.ref ix)])) (fun _ k => XS.aloadN X79.here hx rfl (hb hby d12_40) rfl rfl k) ?_
        obtain ⟨T80, X80, e80, st80⟩ := getF X79 hx hZ hown (host := "") (Or.inl (hw _ (List.mem_of_getElem? (i := 12) rfl))) Via.refl e79 St.2.1 (g := (mkF m 41 #[.val (.ref ix), .val (.ref en), .val (.int (0 : Int32)), .val (.ref x1)] [(.ref ix)])) rfl rfl (hb hby d12_41)
        refine own_st (T' := T80) (g' := (mkF m 44 #[.val (.ref ix), .val (.ref en), .val (.int (0 : Int32)), .val (.ref x1)] [(.ref t)])) st80 ?_
        refine own_st (T' := T80) (g' := (mkF m 45 #[.val (.ref ix), .val (.ref en), .val (.int (0 : Int32)), .val (.ref x1)] [(.ref ix), (.ref t)])) (fun _ k => XS.aloadN X80.here hx rfl (hb hby d12_44) rfl rfl k) ?_
        obtain ⟨T81, X81, e81, st81⟩ := getF X80 hx hZ hown (host := "") (Or.inl (hw _ (List.mem_of_getElem? (i := 43) rfl))) Via.refl e80 St.2.2.1 (g := (mkF m 45 #[.val (.ref ix), .val (.ref en), .val (.int (0 : Int32)), .val (.ref x1)] [(.ref ix), (.ref t)])) rfl rfl (hb hby d12_45)
        refine own_st (T' := T81) (g' := (mkF m 48 #[.val (.ref ix), .val (.ref en), .val (.int (0 : Int32)), .val (.ref x1)] [(.int (1 : Int32)), (.ref t)])) st81 ?_
        refine own_st (T' := T81) (g' := (mkF m 49 #[.val (.ref ix), .val (.ref en), .val (.int (0 : Int32)), .val (.ref x1)] [.null, (.int (1 : Int32)), (.ref t)])) (fun _ k => XS.aconstNull X81.here hx rfl (hb hby d12_48) k) ?_
        obtain ⟨T82, h82, X82, e82, W82, V82, st82⟩ := own_stR X81 hx hZ e81 St.2.2.2.1 D.2.2.2.1 (Or.inl rfl) (i := 1) (by decide) (by decide) (g := (mkF m 49 #[.val (.ref ix), .val (.ref en), .val (.int (0 : Int32)), .val (.ref x1)] [.null, (.int (1 : Int32)), (.ref t)])) rfl rfl (hb hby d12_49)
        have Z0''' := Nat.le_trans Z0'' (Keep.of_wr W82).1
        have G0''' := Nat.le_trans G0'' (Keep.of_wr W82).1
        have N0'''' := Fr.snoc X82 N0''' D.2.2.1
        have St := St.wArr D W82 (i := 1) (by decide)
        refine own_st (T' := T82) (g' := (mkF m 50 #[.val (.ref ix), .val (.ref en), .val (.int (0 : Int32)), .val (.ref x1)] [])) st82 ?_
        refine own_st (T' := T82) (g' := (mkF m 51 #[.val (.ref ix), .val (.ref en), .val (.int (0 : Int32)), .val (.ref x1)] [(.ref x1)])) (fun _ k => XS.aloadN X82.here hx rfl (hb hby d12_50) rfl rfl k) ?_
        refine own_st (T' := T82) (g' := (mkF m 52 #[.val (.ref ix), .val (.ref en), .val (.int (0 : Int32)), .val (.ref x1)] [(.ref en), (.ref x1)])) (fun _ k => XS.aloadN X82.here hx rfl (hb hby d12_51) rfl rfl k) ?_
        refine own_st (T' := T82) (g' := (mkF m 55 #[.val (.ref ix), .val (.ref en), .val (.int (0 : Int32)), .val (.ref x1)] [])) (fun _ k => Jvm.Free.XT.acmpNo X82.here hx rfl (hb hby d12_52) rfl rfl rfl (Jvm.Free.XT.aa_eq_f (by simp [Ne.symm n01])) k) ?_
        refine own_st (T' := T82) (g' := (mkF m 56 #[.val (.ref ix), .val (.ref en), .val (.int (0 : Int32)), .val (.ref x1)] [(.ref ix)])) (fun _ k => XS.aloadN X82.here hx rfl (hb hby d12_55) rfl rfl k) ?_
        refine own_st (T' := T82) (g' := (mkF m 57 #[.val (.ref ix), .val (.ref en), .val (.int (0 : Int32)), .val (.ref x1)] [(.ref x1), (.ref ix)])) (fun _ k => XS.aloadN X82.here hx rfl (hb hby d12_56) rfl rfl k) ?_
        refine own_st (T' := T82) (g' := (mkF m 58 #[.val (.ref ix), .val (.ref en), .val (.int (0 : Int32)), .val (.ref x1)] [(.int (0 : Int32)), (.ref x1), (.ref ix)])) (fun _ k => XS.iloadN X82.here hx rfl (hb hby d12_57) rfl k) ?_
        obtain ⟨cq83, q83, q83'⟩ := St.1.cell
        obtain ⟨_, _, ⟨T83, L83, k83, n83⟩, -, X83, ⟨Lc83, hQ83, l83, y83, z83⟩, st83⟩ := X82.privateBack hx (y := (⟨"com/example/ovrdue/ovrdue/keyspace/DeadlineIndex", "siftDown", "(Lcom/example/ovrdue/ovrdue/keyspace/Entry;I)V"⟩ : MethodName)) hown (mvT hZ (hw _ (List.mem_of_getElem? (i := 57) rfl))) (mvT hZ (hw _ (List.mem_of_getElem? (i := 58) rfl))) (own_selP hZ (hw _ (List.mem_of_getElem? (i := 2) rfl)) (hw _ (List.mem_of_getElem? (i := 59) rfl)) (hw _ (List.mem_of_getElem? (i := 58) rfl)) (by decide)) (Cond.privateMethod_at (mvP hZ (hw _ (List.mem_of_getElem? (i := 59) rfl)) (args := #[]))) (mvT hZ (hw _ (List.mem_of_getElem? (i := 60) rfl))) (by decide) (backOf (W := 0) (own_dnA l Z a0 hw [] ix x1 (0 : Int32) t k es (1 : Int32) (fun q => if q = 1 then .null else f q) (own_upd dl en (-9223372036854775808 : Int64)) pl 0 h82 n0 Z0''' D St hx1 (by decide) (by decide) (by decide)) hZ (hw _ (List.mem_of_getElem? (i := 60) rfl)) (hw _ (List.mem_of_getElem? (i := 3) rfl)) (by decide) (by decide)) (g := (mkF m 58 #[.val (.ref ix), .val (.ref en), .val (.int (0 : Int32)), .val (.ref x1)] [(.int (0 : Int32)), (.ref x1), (.ref ix)])) rfl (by rw [hml]; rfl) (Steps.refl _) (a := ix) (by first | exact q83 | (rw [e82]; exact q83)) q83' (argsL := [(.ref x1), (.int (0 : Int32))]) (rest := []) (lenOf own_pd0 rfl) rfl (by show 2 * 0 + _ ≤ _; exact Nat.le_of_eq rfl) (hb hby d12_58) (fun _ _ => ⟨rfl, e82, (by decide : (0 + 0) + 0 ≤ _), (by decide : (0 + 0) + 0 ≤ _)⟩)
        dsimp only [Pt.U, Pt.locs, Pt.cells, Pt.slots] at X83 l83 y83 z83 st83 hQ83
        subst l83 y83 z83
        obtain ⟨rfl, N83q, K83, St⟩ := hQ83
        have N0''''' := Fr.app N0'''' N83q
        have Z0'''' := Nat.le_trans Z0''' K83
        have G0'''' := Nat.le_trans G0''' K83
        refine own_tr (T' := T83) (g' := (mkF m 61 #[.val (.ref ix), .val (.ref en), .val (.int (0 : Int32)), .val (.ref x1)] [])) st83 ?_
        refine own_st (T' := T83) (g' := (mkF m 62 #[.val (.ref ix), .val (.ref en), .val (.int (0 : Int32)), .val (.ref x1)] [(.ref x1)])) (fun _ k => XS.aloadN X83.here hx rfl (hb hby d12_61) rfl rfl k) ?_
        have Fq := (St.2.2.2.2 x1 hx1).2.2
        rw [show (own_upd pl x1 (0 : Int32)) x1 = (0 : Int32) from by simp [own_upd]] at Fq
        obtain ⟨T84, X84, e84, st84⟩ := getF X83 hx hZ hown (host := "") (Or.inl (hw _ (List.mem_of_getElem? (i := 55) rfl))) Via.refl rfl Fq (g := (mkF m 62 #[.val (.ref ix), .val (.ref en), .val (.int (0 : Int32)), .val (.ref x1)] [(.ref x1)])) rfl rfl (hb hby d12_62)
        refine own_st (T' := T84) (g' := (mkF m 65 #[.val (.ref ix), .val (.ref en), .val (.int (0 : Int32)), .val (.ref x1)] [(.int (0 : Int32))])) st84 ?_
        refine own_st (T' := T84) (g' := (mkF m 66 #[.val (.ref ix), .val (.ref en), .val (.int (0 : Int32)), .val (.ref x1)] [(.int (0 : Int32)), (.int (0 : Int32))])) (fun _ k => XS.iloadN X84.here hx rfl (hb hby d12_65) rfl k) ?_
        refine own_st (T' := T84) (g' := (mkF m 69 #[.val (.ref ix), .val (.ref en), .val (.int (0 : Int32)), .val (.ref x1)] [])) (fun _ k => XS.icmpNo X84.here hx rfl (hb hby d12_66) rfl (Jvm.Free.XT.ii_ne_f rfl) k) ?_
        refine own_st (T' := T84) (g' := (mkF m 70 #[.val (.ref ix), .val (.ref en), .val (.int (0 : Int32)), .val (.ref x1)] [(.ref ix)])) (fun _ k => XS.aloadN X84.here hx rfl (hb hby d12_69) rfl rfl k) ?_
        refine own_st (T' := T84) (g' := (mkF m 71 #[.val (.ref ix), .val (.ref en), .val (.int (0 : Int32)), .val (.ref x1)] [(.ref x1), (.ref ix)])) (fun _ k => XS.aloadN X84.here hx rfl (hb hby d12_70) rfl rfl k) ?_
        refine own_st (T' := T84) (g' := (mkF m 72 #[.val (.ref ix), .val (.ref en), .val (.int (0 : Int32)), .val (.ref x1)] [(.int (0 : Int32)), (.ref x1), (.ref ix)])) (fun _ k => XS.iloadN X84.here hx rfl (hb hby d12_71) rfl k) ?_
        obtain ⟨cq85, q85, q85'⟩ := St.1.cell
        obtain ⟨_, _, ⟨T85, L85, k85, n85⟩, -, X85, ⟨Lc85, hQ85, l85, y85, z85⟩, st85⟩ := X84.privateBack hx (y := (⟨"com/example/ovrdue/ovrdue/keyspace/DeadlineIndex", "siftUp", "(Lcom/example/ovrdue/ovrdue/keyspace/Entry;I)V"⟩ : MethodName)) hown (mvT hZ (hw _ (List.mem_of_getElem? (i := 46) rfl))) (mvT hZ (hw _ (List.mem_of_getElem? (i := 47) rfl))) (own_selP hZ (hw _ (List.mem_of_getElem? (i := 2) rfl)) (hw _ (List.mem_of_getElem? (i := 48) rfl)) (hw _ (List.mem_of_getElem? (i := 47) rfl)) (by decide)) (Cond.privateMethod_at (mvP hZ (hw _ (List.mem_of_getElem? (i := 48) rfl)) (args := #[]))) (mvT hZ (hw _ (List.mem_of_getElem? (i := 49) rfl))) (by decide) (backOf (W := 0) (own_upA l Z a0 hw [] ix x1 (0 : Int32) t k es (1 : Int32) (fun q => if q = 0 then (.ref x1) else (fun q => if q = 1 then .null else f q) q) (own_upd dl en (-9223372036854775808 : Int64)) (own_upd pl x1 (0 : Int32)) 0 en T83.heap n0 Z0'''' D St hx1 (by decide) (by decide) (fun u => absurd rfl u)) hZ (hw _ (List.mem_of_getElem? (i := 49) rfl)) (hw _ (List.mem_of_getElem? (i := 3) rfl)) (by decide) (by decide)) (g := (mkF m 72 #[.val (.ref ix), .val (.ref en), .val (.int (0 : Int32)), .val (.ref x1)] [(.int (0 : Int32)), (.ref x1), (.ref ix)])) rfl (by rw [hml]; rfl) (Steps.refl _) (a := ix) (by first | exact q85 | (rw [e84]; exact q85)) q85' (argsL := [(.ref x1), (.int (0 : Int32))]) (rest := []) (lenOf own_pd0 rfl) rfl (by show 2 * 0 + _ ≤ _; exact Nat.le_of_eq rfl) (hb hby d12_72) (fun _ _ => ⟨rfl, e84, (by decide : ((0 + 0) + 0) + 0 ≤ _), (by decide : ((0 + 0) + 0) + 0 ≤ _)⟩)
        dsimp only [Pt.U, Pt.locs, Pt.cells, Pt.slots] at X85 l85 y85 z85 st85 hQ85
        subst l85 y85 z85
        obtain ⟨rfl, N85q, K85, St⟩ := hQ85
        have N0'''''' := Fr.app N0''''' N85q
        have Z0''''' := Nat.le_trans Z0'''' K85
        have G0''''' := Nat.le_trans G0'''' K85
        refine own_tr (T' := T85) (g' := (mkF m 75 #[.val (.ref ix), .val (.ref en), .val (.int (0 : Int32)), .val (.ref x1)] [])) st85 ?_
        exact own_ret0 X85 hx Bd.returns Bd.notSynchronized rfl (hb hby d12_75) ⟨rfl, N0'''''', G0''''', [x1], _, _, _, St, Or.inr (Or.inl ⟨_, rfl, rfl, by simp [hf0, hf1], by simp [own_upd, hp0, hp1, n01, Ne.symm n01]⟩), own_mem_del Mm (fun x => by simp; try grind)⟩ (by decide) (by decide)
      · have Fp := (St.2.2.2.2 en hen).2.2
        rw [hp1] at Fp
        refine own_st (T' := T64) (g' := (mkF m 9 #[.val (.ref ix), .val (.ref en), .unset, .unset] [(.ref en)])) (fun _ k => XS.aloadN X64.here hx rfl (hb hby d12_8) rfl rfl k) ?_
        obtain ⟨T86, X86, e86, st86⟩ := getF X64 hx hZ hown (host := "") (Or.inl (hw _ (List.mem_of_getElem? (i := 55) rfl))) Via.refl e64 Fp (g := (mkF m 9 #[.val (.ref ix), .val (.ref en), .unset, .unset] [(.ref en)])) rfl rfl (hb hby d12_9)
        refine own_st (T' := T86) (g' := (mkF m 12 #[.val (.ref ix), .val (.ref en), .unset, .unset] [(.int (1 : Int32))])) st86 ?_
        refine own_st (T' := T86) (g' := (mkF m 13 #[.val (.ref ix), .val (.ref en), .val (.int (1 : Int32)), .unset] [])) (fun _ k => XS.istoreN X86.here hx rfl (hb hby d12_12) rfl (l' := #[.val (.ref ix), .val (.ref en), .val (.int (1 : Int32)), .unset]) rfl k) ?_
        refine own_st (T' := T86) (g' := (mkF m 14 #[.val (.ref ix), .val (.ref en), .val (.int (1 : Int32)), .unset] [(.ref en)])) (fun _ k => XS.aloadN X86.here hx rfl (hb hby d12_13) rfl rfl k) ?_
        refine own_st (T' := T86) (g' := (mkF m 17 #[.val (.ref ix), .val (.ref en), .val (.int (1 : Int32)), .unset] [(.long (-9223372036854775808 : Int64)), (.ref en)])) (X86.ldc2Long hx hown (mvT hZ (hw _ (List.mem_of_getElem? (i := 33) rfl))) (g := (mkF m 14 #[.val (.ref ix), .val (.ref en), .val (.int (1 : Int32)), .unset] [(.ref en)])) rfl (hb hby d12_14)) ?_
        obtain ⟨T87, h87, X87, e87, W87, st87⟩ := putF X86 hx hZ hown (host := "") (Or.inl (hw _ (List.mem_of_getElem? (i := 45) rfl))) Via.refl e86 (St.2.2.2.2 en hen).2.1 (St.2.2.2.2 en hen).1 (Or.inl (hw _ (List.mem_of_getElem? (i := 23) rfl))) (hw _ (List.mem_of_getElem? (i := 15) rfl)) (ty := .long) (by decide) rfl rfl (g := (mkF m 17 #[.val (.ref ix), .val (.ref en), .val (.int (1 : Int32)), .unset] [(.long (-9223372036854775808 : Int64)), (.ref en)])) rfl rfl (hb hby d12_17)
        have Z0' := Nat.le_trans Z0 (Keep.of_wr W87).1
        have G0' := Nat.le_trans G0 (Keep.of_wr W87).1
        have N0'' := Fr.snoc X87 N0' (D.2.2.2.2.1 en hen).2.2
        have St := St.wDl D hen W87
        refine own_st (T' := T87) (g' := (mkF m 20 #[.val (.ref ix), .val (.ref en), .val (.int (1 : Int32)), .unset] [])) st87 ?_
        refine own_st (T' := T87) (g' := (mkF m 21 #[.val (.ref ix), .val (.ref en), .val (.int (1 : Int32)), .unset] [(.ref ix)])) (fun _ k => XS.aloadN X87.here hx rfl (hb hby d12_20) rfl rfl k) ?_
        refine own_st (T' := T87) (g' := (mkF m 22 #[.val (.ref ix), .val (.ref en), .val (.int (1 : Int32)), .unset] [(.ref ix), (.ref ix)])) (fun _ k => XS.dup X87.here hx rfl (hb hby d12_21) rfl rfl k) ?_
        obtain ⟨T88, X88, e88, st88⟩ := getF X87 hx hZ hown (host := "") (Or.inl (hw _ (List.mem_of_getElem? (i := 43) rfl))) Via.refl e87 St.2.2.1 (g := (mkF m 22 #[.val (.ref ix), .val (.ref en), .val (.int (1 : Int32)), .unset] [(.ref ix), (.ref ix)])) rfl rfl (hb hby d12_22)
        refine own_st (T' := T88) (g' := (mkF m 25 #[.val (.ref ix), .val (.ref en), .val (.int (1 : Int32)), .unset] [(.int (2 : Int32)), (.ref ix)])) st88 ?_
        refine own_st (T' := T88) (g' := (mkF m 26 #[.val (.ref ix), .val (.ref en), .val (.int (1 : Int32)), .unset] [(.int (1 : Int32)), (.int (2 : Int32)), (.ref ix)])) (fun _ k => XS.iconst X88.here hx rfl (hb hby d12_25) k) ?_
        refine own_st (T' := T88) (g' := (mkF m 27 #[.val (.ref ix), .val (.ref en), .val (.int (1 : Int32)), .unset] [(.int ((2 : Int32) - (1 : Int32))), (.ref ix)])) (fun _ k => XS.isub X88.here hx rfl (hb hby d12_26) rfl k) ?_
        rw [show ((2 : Int32) - (1 : Int32)) = (1 : Int32) from rfl]
        obtain ⟨T89, h89, X89, e89, W89, st89⟩ := putF X88 hx hZ hown (host := "") (Or.inl (hw _ (List.mem_of_getElem? (i := 43) rfl))) Via.refl e88 St.2.2.1 St.1 (Or.inl (hw _ (List.mem_of_getElem? (i := 44) rfl))) (hw _ (List.mem_of_getElem? (i := 2) rfl)) (ty := .int) (by decide) rfl rfl (g := (mkF m 27 #[.val (.ref ix), .val (.ref en), .val (.int (1 : Int32)), .unset] [(.int (1 : Int32)), (.ref ix)])) rfl rfl (hb hby d12_27)
        have Z0'' := Nat.le_trans Z0' (Keep.of_wr W89).1
        have G0'' := Nat.le_trans G0' (Keep.of_wr W89).1
        have N0''' := Fr.snoc X89 N0'' D.2.1
        have St := St.wSize D W89
        refine own_st (T' := T89) (g' := (mkF m 30 #[.val (.ref ix), .val (.ref en), .val (.int (1 : Int32)), .unset] [])) st89 ?_
        refine own_st (T' := T89) (g' := (mkF m 31 #[.val (.ref ix), .val (.ref en), .val (.int (1 : Int32)), .unset] [(.ref ix)])) (fun _ k => XS.aloadN X89.here hx rfl (hb hby d12_30) rfl rfl k) ?_
        obtain ⟨T90, X90, e90, st90⟩ := getF X89 hx hZ hown (host := "") (Or.inl (hw _ (List.mem_of_getElem? (i := 12) rfl))) Via.refl e89 St.2.1 (g := (mkF m 31 #[.val (.ref ix), .val (.ref en), .val (.int (1 : Int32)), .unset] [(.ref ix)])) rfl rfl (hb hby d12_31)
        refine own_st (T' := T90) (g' := (mkF m 34 #[.val (.ref ix), .val (.ref en), .val (.int (1 : Int32)), .unset] [(.ref t)])) st90 ?_
        refine own_st (T' := T90) (g' := (mkF m 35 #[.val (.ref ix), .val (.ref en), .val (.int (1 : Int32)), .unset] [(.ref ix), (.ref t)])) (fun _ k => XS.aloadN X90.here hx rfl (hb hby d12_34) rfl rfl k) ?_
        obtain ⟨T91, X91, e91, st91⟩ := getF X90 hx hZ hown (host := "") (Or.inl (hw _ (List.mem_of_getElem? (i := 43) rfl))) Via.refl e90 St.2.2.1 (g := (mkF m 35 #[.val (.ref ix), .val (.ref en), .val (.int (1 : Int32)), .unset] [(.ref ix), (.ref t)])) rfl rfl (hb hby d12_35)
        refine own_st (T' := T91) (g' := (mkF m 38 #[.val (.ref ix), .val (.ref en), .val (.int (1 : Int32)), .unset] [(.int (1 : Int32)), (.ref t)])) st91 ?_
        refine own_st (T' := T91) (g' := (mkF m 39 #[.val (.ref ix), .val (.ref en), .val (.int (1 : Int32)), .unset] [(.ref en)])) (own_ldR X91 hx hZ e91 St.2.2.2.1 rfl (i := 1) (by decide) (by decide) (v := (.ref en)) hf1 (g := (mkF m 38 #[.val (.ref ix), .val (.ref en), .val (.int (1 : Int32)), .unset] [(.int (1 : Int32)), (.ref t)])) rfl rfl (hb hby d12_38)) ?_
        refine own_st (T' := T91) (g' := (mkF m 40 #[.val (.ref ix), .val (.ref en), .val (.int (1 : Int32)), .val (.ref en)] [])) (fun _ k => XS.astoreN X91.here hx rfl (hb hby d12_39) rfl rfl (l' := #[.val (.ref ix), .val (.ref en), .val (.int (1 : Int32)), .val (.ref en)]) rfl k) ?_
        refine own_st (T' := T91) (g' := (mkF m 41 #[.val (.ref ix), .val (.ref en), .val (.int (1 : Int32)), .val (.ref en)] [(.ref ix)])) (fun _ k => XS.aloadN X91.here hx rfl (hb hby d12_40) rfl rfl k) ?_
        obtain ⟨T92, X92, e92, st92⟩ := getF X91 hx hZ hown (host := "") (Or.inl (hw _ (List.mem_of_getElem? (i := 12) rfl))) Via.refl e91 St.2.1 (g := (mkF m 41 #[.val (.ref ix), .val (.ref en), .val (.int (1 : Int32)), .val (.ref en)] [(.ref ix)])) rfl rfl (hb hby d12_41)
        refine own_st (T' := T92) (g' := (mkF m 44 #[.val (.ref ix), .val (.ref en), .val (.int (1 : Int32)), .val (.ref en)] [(.ref t)])) st92 ?_
        refine own_st (T' := T92) (g' := (mkF m 45 #[.val (.ref ix), .val (.ref en), .val (.int (1 : Int32)), .val (.ref en)] [(.ref ix), (.ref t)])) (fun _ k => XS.aloadN X92.here hx rfl (hb hby d12_44) rfl rfl k) ?_
        obtain ⟨T93, X93, e93, st93⟩ := getF X92 hx hZ hown (host := "") (Or.inl (hw _ (List.mem_of_getElem? (i := 43) rfl))) Via.refl e92 St.2.2.1 (g := (mkF m 45 #[.val (.ref ix), .val (.ref en), .val (.int (1 : Int32)), .val (.ref en)] [(.ref ix), (.ref t)])) rfl rfl (hb hby d12_45)
        refine own_st (T' := T93) (g' := (mkF m 48 #[.val (.ref ix), .val (.ref en), .val (.int (1 : Int32)), .val (.ref en)] [(.int (1 : Int32)), (.ref t)])) st93 ?_
        refine own_st (T' := T93) (g' := (mkF m 49 #[.val (.ref ix), .val (.ref en), .val (.int (1 : Int32)), .val (.ref en)] [.null, (.int (1 : Int32)), (.ref t)])) (fun _ k => XS.aconstNull X93.here hx rfl (hb hby d12_48) k) ?_
        obtain ⟨T94, h94, X94, e94, W94, V94, st94⟩ := own_stR X93 hx hZ e93 St.2.2.2.1 D.2.2.2.1 (Or.inl rfl) (i := 1) (by decide) (by decide) (g := (mkF m 49 #[.val (.ref ix), .val (.ref en), .val (.int (1 : Int32)), .val (.ref en)] [.null, (.int (1 : Int32)), (.ref t)])) rfl rfl (hb hby d12_49)
        have Z0''' := Nat.le_trans Z0'' (Keep.of_wr W94).1
        have G0''' := Nat.le_trans G0'' (Keep.of_wr W94).1
        have N0'''' := Fr.snoc X94 N0''' D.2.2.1
        have St := St.wArr D W94 (i := 1) (by decide)
        refine own_st (T' := T94) (g' := (mkF m 50 #[.val (.ref ix), .val (.ref en), .val (.int (1 : Int32)), .val (.ref en)] [])) st94 ?_
        refine own_st (T' := T94) (g' := (mkF m 51 #[.val (.ref ix), .val (.ref en), .val (.int (1 : Int32)), .val (.ref en)] [(.ref en)])) (fun _ k => XS.aloadN X94.here hx rfl (hb hby d12_50) rfl rfl k) ?_
        refine own_st (T' := T94) (g' := (mkF m 52 #[.val (.ref ix), .val (.ref en), .val (.int (1 : Int32)), .val (.ref en)] [(.ref en), (.ref en)])) (fun _ k => XS.aloadN X94.here hx rfl (hb hby d12_51) rfl rfl k) ?_
        refine own_st (T' := T94) (g' := (mkF m 75 #[.val (.ref ix), .val (.ref en), .val (.int (1 : Int32)), .val (.ref en)] [])) (fun _ k => Jvm.Free.XT.acmpYes X94.here hx rfl (pc0 := 52) (pc' := 75) rfl (hb hby d12_52) rfl rfl rfl (Jvm.Free.XT.aa_eq_t rfl) (by decide) (by decide) k) ?_
        exact own_ret0 X94 hx Bd.returns Bd.notSynchronized e94 (hb hby d12_75) ⟨rfl, N0'''', G0''', [x0], _, _, _, St, Or.inr (Or.inl ⟨_, rfl, rfl, by simp [hf0, hf1], by simp [own_upd, hp0, hp1, n01, Ne.symm n01]⟩), own_mem_del Mm (fun x => by simp; try grind)⟩ (by decide) (by decide)
    · have hx0 := Mm.1 x0 (by simp)
      have hx1 := Mm.1 x1 (by simp)
      have hx2 := Mm.1 x2 (by simp)
      simp at hin
      rcases hin with rfl | rfl | rfl
      · have Fp := (St.2.2.2.2 en hen).2.2
        rw [hp0] at Fp
        refine own_st (T' := T64) (g' := (mkF m 9 #[.val (.ref ix), .val (.ref en), .unset, .unset] [(.ref en)])) (fun _ k => XS.aloadN X64.here hx rfl (hb hby d12_8) rfl rfl k) ?_
        obtain ⟨T95, X95, e95, st95⟩ := getF X64 hx hZ hown (host := "") (Or.inl (hw _ (List.mem_of_getElem? (i := 55) rfl))) Via.refl e64 Fp (g := (mkF m 9 #[.val (.ref ix), .val (.ref en), .unset, .unset] [(.ref en)])) rfl rfl (hb hby d12_9)
        refine own_st (T' := T95) (g' := (mkF m 12 #[.val (.ref ix), .val (.ref en), .unset, .unset] [(.int (0 : Int32))])) st95 ?_
        refine own_st (T' := T95) (g' := (mkF m 13 #[.val (.ref ix), .val (.ref en), .val (.int (0 : Int32)), .unset] [])) (fun _ k => XS.istoreN X95.here hx rfl (hb hby d12_12) rfl (l' := #[.val (.ref ix), .val (.ref en), .val (.int (0 : Int32)), .unset]) rfl k) ?_
        refine own_st (T' := T95) (g' := (mkF m 14 #[.val (.ref ix), .val (.ref en), .val (.int (0 : Int32)), .unset] [(.ref en)])) (fun _ k => XS.aloadN X95.here hx rfl (hb hby d12_13) rfl rfl k) ?_
        refine own_st (T' := T95) (g' := (mkF m 17 #[.val (.ref ix), .val (.ref en), .val (.int (0 : Int32)), .unset] [(.long (-9223372036854775808 : Int64)), (.ref en)])) (X95.ldc2Long hx hown (mvT hZ (hw _ (List.mem_of_getElem? (i := 33) rfl))) (g := (mkF m 14 #[.val (.ref ix), .val (.ref en), .val (.int (0 : Int32)), .unset] [(.ref en)])) rfl (hb hby d12_14)) ?_
        obtain ⟨T96, h96, X96, e96, W96, st96⟩ := putF X95 hx hZ hown (host := "") (Or.inl (hw _ (List.mem_of_getElem? (i := 45) rfl))) Via.refl e95 (St.2.2.2.2 en hen).2.1 (St.2.2.2.2 en hen).1 (Or.inl (hw _ (List.mem_of_getElem? (i := 23) rfl))) (hw _ (List.mem_of_getElem? (i := 15) rfl)) (ty := .long) (by decide) rfl rfl (g := (mkF m 17 #[.val (.ref ix), .val (.ref en), .val (.int (0 : Int32)), .unset] [(.long (-9223372036854775808 : Int64)), (.ref en)])) rfl rfl (hb hby d12_17)
        have Z0' := Nat.le_trans Z0 (Keep.of_wr W96).1
        have G0' := Nat.le_trans G0 (Keep.of_wr W96).1
        have N0'' := Fr.snoc X96 N0' (D.2.2.2.2.1 en hen).2.2
        have St := St.wDl D hen W96
        refine own_st (T' := T96) (g' := (mkF m 20 #[.val (.ref ix), .val (.ref en), .val (.int (0 : Int32)), .unset] [])) st96 ?_
        refine own_st (T' := T96) (g' := (mkF m 21 #[.val (.ref ix), .val (.ref en), .val (.int (0 : Int32)), .unset] [(.ref ix)])) (fun _ k => XS.aloadN X96.here hx rfl (hb hby d12_20) rfl rfl k) ?_
        refine own_st (T' := T96) (g' := (mkF m 22 #[.val (.ref ix), .val (.ref en), .val (.int (0 : Int32)), .unset] [(.ref ix), (.ref ix)])) (fun _ k => XS.dup X96.here hx rfl (hb hby d12_21) rfl rfl k) ?_
        obtain ⟨T97, X97, e97, st97⟩ := getF X96 hx hZ hown (host := "") (Or.inl (hw _ (List.mem_of_getElem? (i := 43) rfl))) Via.refl e96 St.2.2.1 (g := (mkF m 22 #[.val (.ref ix), .val (.ref en), .val (.int (0 : Int32)), .unset] [(.ref ix), (.ref ix)])) rfl rfl (hb hby d12_22)
        refine own_st (T' := T97) (g' := (mkF m 25 #[.val (.ref ix), .val (.ref en), .val (.int (0 : Int32)), .unset] [(.int (3 : Int32)), (.ref ix)])) st97 ?_
        refine own_st (T' := T97) (g' := (mkF m 26 #[.val (.ref ix), .val (.ref en), .val (.int (0 : Int32)), .unset] [(.int (1 : Int32)), (.int (3 : Int32)), (.ref ix)])) (fun _ k => XS.iconst X97.here hx rfl (hb hby d12_25) k) ?_
        refine own_st (T' := T97) (g' := (mkF m 27 #[.val (.ref ix), .val (.ref en), .val (.int (0 : Int32)), .unset] [(.int ((3 : Int32) - (1 : Int32))), (.ref ix)])) (fun _ k => XS.isub X97.here hx rfl (hb hby d12_26) rfl k) ?_
        rw [show ((3 : Int32) - (1 : Int32)) = (2 : Int32) from rfl]
        obtain ⟨T98, h98, X98, e98, W98, st98⟩ := putF X97 hx hZ hown (host := "") (Or.inl (hw _ (List.mem_of_getElem? (i := 43) rfl))) Via.refl e97 St.2.2.1 St.1 (Or.inl (hw _ (List.mem_of_getElem? (i := 44) rfl))) (hw _ (List.mem_of_getElem? (i := 2) rfl)) (ty := .int) (by decide) rfl rfl (g := (mkF m 27 #[.val (.ref ix), .val (.ref en), .val (.int (0 : Int32)), .unset] [(.int (2 : Int32)), (.ref ix)])) rfl rfl (hb hby d12_27)
        have Z0'' := Nat.le_trans Z0' (Keep.of_wr W98).1
        have G0'' := Nat.le_trans G0' (Keep.of_wr W98).1
        have N0''' := Fr.snoc X98 N0'' D.2.1
        have St := St.wSize D W98
        refine own_st (T' := T98) (g' := (mkF m 30 #[.val (.ref ix), .val (.ref en), .val (.int (0 : Int32)), .unset] [])) st98 ?_
        refine own_st (T' := T98) (g' := (mkF m 31 #[.val (.ref ix), .val (.ref en), .val (.int (0 : Int32)), .unset] [(.ref ix)])) (fun _ k => XS.aloadN X98.here hx rfl (hb hby d12_30) rfl rfl k) ?_
        obtain ⟨T99, X99, e99, st99⟩ := getF X98 hx hZ hown (host := "") (Or.inl (hw _ (List.mem_of_getElem? (i := 12) rfl))) Via.refl e98 St.2.1 (g := (mkF m 31 #[.val (.ref ix), .val (.ref en), .val (.int (0 : Int32)), .unset] [(.ref ix)])) rfl rfl (hb hby d12_31)
        refine own_st (T' := T99) (g' := (mkF m 34 #[.val (.ref ix), .val (.ref en), .val (.int (0 : Int32)), .unset] [(.ref t)])) st99 ?_
        refine own_st (T' := T99) (g' := (mkF m 35 #[.val (.ref ix), .val (.ref en), .val (.int (0 : Int32)), .unset] [(.ref ix), (.ref t)])) (fun _ k => XS.aloadN X99.here hx rfl (hb hby d12_34) rfl rfl k) ?_
        obtain ⟨T100, X100, e100, st100⟩ := getF X99 hx hZ hown (host := "") (Or.inl (hw _ (List.mem_of_getElem? (i := 43) rfl))) Via.refl e99 St.2.2.1 (g := (mkF m 35 #[.val (.ref ix), .val (.ref en), .val (.int (0 : Int32)), .unset] [(.ref ix), (.ref t)])) rfl rfl (hb hby d12_35)
        refine own_st (T' := T100) (g' := (mkF m 38 #[.val (.ref ix), .val (.ref en), .val (.int (0 : Int32)), .unset] [(.int (2 : Int32)), (.ref t)])) st100 ?_
        refine own_st (T' := T100) (g' := (mkF m 39 #[.val (.ref ix), .val (.ref en), .val (.int (0 : Int32)), .unset] [(.ref x2)])) (own_ldR X100 hx hZ e100 St.2.2.2.1 rfl (i := 2) (by decide) (by decide) (v := (.ref x2)) hf2 (g := (mkF m 38 #[.val (.ref ix), .val (.ref en), .val (.int (0 : Int32)), .unset] [(.int (2 : Int32)), (.ref t)])) rfl rfl (hb hby d12_38)) ?_
        refine own_st (T' := T100) (g' := (mkF m 40 #[.val (.ref ix), .val (.ref en), .val (.int (0 : Int32)), .val (.ref x2)] [])) (fun _ k => XS.astoreN X100.here hx rfl (hb hby d12_39) rfl rfl (l' := #[.val (.ref ix), .val (.ref en), .val (.int (0 : Int32)), .val (.ref x2)]) rfl k) ?_
        refine own_st (T' := T100) (g' := (mkF m 41 #[.val (.ref ix), .val (.ref en), .val (.int (0 : Int32)), .val (.ref x2)] [(.ref ix)])) (fun _ k => XS.aloadN X100.here hx rfl (hb hby d12_40) rfl rfl k) ?_
        obtain ⟨T101, X101, e101, st101⟩ := getF X100 hx hZ hown (host := "") (Or.inl (hw _ (List.mem_of_getElem? (i := 12) rfl))) Via.refl e100 St.2.1 (g := (mkF m 41 #[.val (.ref ix), .val (.ref en), .val (.int (0 : Int32)), .val (.ref x2)] [(.ref ix)])) rfl rfl (hb hby d12_41)
        refine own_st (T' := T101) (g' := (mkF m 44 #[.val (.ref ix), .val (.ref en), .val (.int (0 : Int32)), .val (.ref x2)] [(.ref t)])) st101 ?_
        refine own_st (T' := T101) (g' := (mkF m 45 #[.val (.ref ix), .val (.ref en), .val (.int (0 : Int32)), .val (.ref x2)] [(.ref ix), (.ref t)])) (fun _ k => XS.aloadN X101.here hx rfl (hb hby d12_44) rfl rfl k) ?_
        obtain ⟨T102, X102, e102, st102⟩ := getF X101 hx hZ hown (host := "") (Or.inl (hw _ (List.mem_of_getElem? (i := 43) rfl))) Via.refl e101 St.2.2.1 (g := (mkF m 45 #[.val (.ref ix), .val (.ref en), .val (.int (0 : Int32)), .val (.ref x2)] [(.ref ix), (.ref t)])) rfl rfl (hb hby d12_45)
        refine own_st (T' := T102) (g' := (mkF m 48 #[.val (.ref ix), .val (.ref en), .val (.int (0 : Int32)), .val (.ref x2)] [(.int (2 : Int32)), (.ref t)])) st102 ?_
        refine own_st (T' := T102) (g' := (mkF m 49 #[.val (.ref ix), .val (.ref en), .val (.int (0 : Int32)), .val (.ref x2)] [.null, (.int (2 : Int32)), (.ref t)])) (fun _ k => XS.aconstNull X102.here hx rfl (hb hby d12_48) k) ?_
        obtain ⟨T103, h103, X103, e103, W103, V103, st103⟩ := own_stR X102 hx hZ e102 St.2.2.2.1 D.2.2.2.1 (Or.inl rfl) (i := 2) (by decide) (by decide) (g := (mkF m 49 #[.val (.ref ix), .val (.ref en), .val (.int (0 : Int32)), .val (.ref x2)] [.null, (.int (2 : Int32)), (.ref t)])) rfl rfl (hb hby d12_49)
        have Z0''' := Nat.le_trans Z0'' (Keep.of_wr W103).1
        have G0''' := Nat.le_trans G0'' (Keep.of_wr W103).1
        have N0'''' := Fr.snoc X103 N0''' D.2.2.1
        have St := St.wArr D W103 (i := 2) (by decide)
        refine own_st (T' := T103) (g' := (mkF m 50 #[.val (.ref ix), .val (.ref en), .val (.int (0 : Int32)), .val (.ref x2)] [])) st103 ?_
        refine own_st (T' := T103) (g' := (mkF m 51 #[.val (.ref ix), .val (.ref en), .val (.int (0 : Int32)), .val (.ref x2)] [(.ref x2)])) (fun _ k => XS.aloadN X103.here hx rfl (hb hby d12_50) rfl rfl k) ?_
        refine own_st (T' := T103) (g' := (mkF m 52 #[.val (.ref ix), .val (.ref en), .val (.int (0 : Int32)), .val (.ref x2)] [(.ref en), (.ref x2)])) (fun _ k => XS.aloadN X103.here hx rfl (hb hby d12_51) rfl rfl k) ?_
        refine own_st (T' := T103) (g' := (mkF m 55 #[.val (.ref ix), .val (.ref en), .val (.int (0 : Int32)), .val (.ref x2)] [])) (fun _ k => Jvm.Free.XT.acmpNo X103.here hx rfl (hb hby d12_52) rfl rfl rfl (Jvm.Free.XT.aa_eq_f (by simp [Ne.symm n02])) k) ?_
        refine own_st (T' := T103) (g' := (mkF m 56 #[.val (.ref ix), .val (.ref en), .val (.int (0 : Int32)), .val (.ref x2)] [(.ref ix)])) (fun _ k => XS.aloadN X103.here hx rfl (hb hby d12_55) rfl rfl k) ?_
        refine own_st (T' := T103) (g' := (mkF m 57 #[.val (.ref ix), .val (.ref en), .val (.int (0 : Int32)), .val (.ref x2)] [(.ref x2), (.ref ix)])) (fun _ k => XS.aloadN X103.here hx rfl (hb hby d12_56) rfl rfl k) ?_
        refine own_st (T' := T103) (g' := (mkF m 58 #[.val (.ref ix), .val (.ref en), .val (.int (0 : Int32)), .val (.ref x2)] [(.int (0 : Int32)), (.ref x2), (.ref ix)])) (fun _ k => XS.iloadN X103.here hx rfl (hb hby d12_57) rfl k) ?_
        by_cases qc : own_upd dl en (-9223372036854775808 : Int64) x1 < own_upd dl en (-9223372036854775808 : Int64) x2
        · obtain ⟨cq104, q104, q104'⟩ := St.1.cell
          obtain ⟨_, _, ⟨T104, L104, k104, n104⟩, -, X104, ⟨Lc104, hQ104, l104, y104, z104⟩, st104⟩ := X103.privateBack hx (y := (⟨"com/example/ovrdue/ovrdue/keyspace/DeadlineIndex", "siftDown", "(Lcom/example/ovrdue/ovrdue/keyspace/Entry;I)V"⟩ : MethodName)) hown (mvT hZ (hw _ (List.mem_of_getElem? (i := 57) rfl))) (mvT hZ (hw _ (List.mem_of_getElem? (i := 58) rfl))) (own_selP hZ (hw _ (List.mem_of_getElem? (i := 2) rfl)) (hw _ (List.mem_of_getElem? (i := 59) rfl)) (hw _ (List.mem_of_getElem? (i := 58) rfl)) (by decide)) (Cond.privateMethod_at (mvP hZ (hw _ (List.mem_of_getElem? (i := 59) rfl)) (args := #[]))) (mvT hZ (hw _ (List.mem_of_getElem? (i := 60) rfl))) (by decide) (backOf (W := 0) (own_dnM l Z a0 hw [] ix x2 t k es (2 : Int32) (fun q => if q = 2 then .null else f q) (own_upd dl en (-9223372036854775808 : Int64)) pl (1 : Int32) 1 x1 h103 n0 Z0''' D St hx2 hx1 (Or.inl rfl) (by decide) (Or.inl rfl) (Or.inl rfl) (by simp [hf1]) (Or.inl ⟨rfl, rfl, rfl⟩) qc) hZ (hw _ (List.mem_of_getElem? (i := 60) rfl)) (hw _ (List.mem_of_getElem? (i := 3) rfl)) (by decide) (by decide)) (g := (mkF m 58 #[.val (.ref ix), .val (.ref en), .val (.int (0 : Int32)), .val (.ref x2)] [(.int (0 : Int32)), (.ref x2), (.ref ix)])) rfl (by rw [hml]; rfl) (Steps.refl _) (a := ix) (by first | exact q104 | (rw [e103]; exact q104)) q104' (argsL := [(.ref x2), (.int (0 : Int32))]) (rest := []) (lenOf own_pd0 rfl) rfl (by show 2 * 0 + _ ≤ _; exact Nat.le_of_eq rfl) (hb hby d12_58) (fun _ _ => ⟨rfl, e103, (by decide : (0 + 0) + 0 ≤ _), (by decide : (0 + 0) + 0 ≤ _)⟩)
          dsimp only [Pt.U, Pt.locs, Pt.cells, Pt.slots] at X104 l104 y104 z104 st104 hQ104
          subst l104 y104 z104
          obtain ⟨rfl, N104q, K104, St⟩ := hQ104
          have N0''''' := Fr.app N0'''' N104q
          have Z0'''' := Nat.le_trans Z0''' K104
          have G0'''' := Nat.le_trans G0''' K104
          refine own_tr (T' := T104) (g' := (mkF m 61 #[.val (.ref ix), .val (.ref en), .val (.int (0 : Int32)), .val (.ref x2)] [])) st104 ?_
          refine own_st (T' := T104) (g' := (mkF m 62 #[.val (.ref ix), .val (.ref en), .val (.int (0 : Int32)), .val (.ref x2)] [(.ref x2)])) (fun _ k => XS.aloadN X104.here hx rfl (hb hby d12_61) rfl rfl k) ?_
          have Fq := (St.2.2.2.2 x2 hx2).2.2
          rw [show (own_upd (own_upd pl x1 (0 : Int32)) x2 (1 : Int32)) x2 = (1 : Int32) from by simp [own_upd]] at Fq
          obtain ⟨T105, X105, e105, st105⟩ := getF X104 hx hZ hown (host := "") (Or.inl (hw _ (List.mem_of_getElem? (i := 55) rfl))) Via.refl rfl Fq (g := (mkF m 62 #[.val (.ref ix), .val (.ref en), .val (.int (0 : Int32)), .val (.ref x2)] [(.ref x2)])) rfl rfl (hb hby d12_62)
          refine own_st (T' := T105) (g' := (mkF m 65 #[.val (.ref ix), .val (.ref en), .val (.int (0 : Int32)), .val (.ref x2)] [(.int (1 : Int32))])) st105 ?_
          refine own_st (T' := T105) (g' := (mkF m 66 #[.val (.ref ix), .val (.ref en), .val (.int (0 : Int32)), .val (.ref x2)] [(.int (0 : Int32)), (.int (1 : Int32))])) (fun _ k => XS.iloadN X105.here hx rfl (hb hby d12_65) rfl k) ?_
          refine own_st (T' := T105) (g' := (mkF m 75 #[.val (.ref ix), .val (.ref en), .val (.int (0 : Int32)), .val (.ref x2)] [])) (fun _ k => XS.icmpYes X105.here hx rfl (pc0 := 66) (pc' := 75) rfl (hb hby d12_66) rfl (Jvm.Free.XT.ii_ne_t (by decide)) (by decide) (by decide) k) ?_
          exact own_ret0 X105 hx Bd.returns Bd.notSynchronized e105 (hb hby d12_75) ⟨rfl, N0''''', G0'''', [x1, x2], _, _, _, St, Or.inr (Or.inr (Or.inl ⟨_, _, rfl, rfl, by simp [hf0, hf1, hf2], by simp [hf0, hf1, hf2], by simp [own_upd, hp0, hp1, hp2, n01, n02, n12, Ne.symm n01, Ne.symm n02, Ne.symm n12], by simp [own_upd, hp0, hp1, hp2, n01, n02, n12, Ne.symm n01, Ne.symm n02, Ne.symm n12], by first | assumption | (symm; assumption), by simp [own_upd, n01, n02, n12, Ne.symm n01, Ne.symm n02, Ne.symm n12, Int64.le_iff_toInt_le, Int64.lt_iff_toInt_lt] at l01 l02 qc ⊢ <;> omega⟩)), own_mem_del Mm (fun x => by simp; try grind)⟩ (by decide) (by decide)
        · obtain ⟨cq106, q106, q106'⟩ := St.1.cell
          obtain ⟨_, _, ⟨T106, L106, k106, n106⟩, -, X106, ⟨Lc106, hQ106, l106, y106, z106⟩, st106⟩ := X103.privateBack hx (y := (⟨"com/example/ovrdue/ovrdue/keyspace/DeadlineIndex", "siftDown", "(Lcom/example/ovrdue/ovrdue/keyspace/Entry;I)V"⟩ : MethodName)) hown (mvT hZ (hw _ (List.mem_of_getElem? (i := 57) rfl))) (mvT hZ (hw _ (List.mem_of_getElem? (i := 58) rfl))) (own_selP hZ (hw _ (List.mem_of_getElem? (i := 2) rfl)) (hw _ (List.mem_of_getElem? (i := 59) rfl)) (hw _ (List.mem_of_getElem? (i := 58) rfl)) (by decide)) (Cond.privateMethod_at (mvP hZ (hw _ (List.mem_of_getElem? (i := 59) rfl)) (args := #[]))) (mvT hZ (hw _ (List.mem_of_getElem? (i := 60) rfl))) (by decide) (backOf (W := 0) (own_dnS l Z a0 hw [] ix x2 t k es (2 : Int32) (fun q => if q = 2 then .null else f q) (own_upd dl en (-9223372036854775808 : Int64)) pl (1 : Int32) 1 x1 h103 n0 Z0''' D St hx2 hx1 (Or.inl rfl) (by decide) (Or.inl rfl) (Or.inl rfl) (by simp [hf1]) (Or.inl ⟨rfl, rfl, rfl⟩) qc) hZ (hw _ (List.mem_of_getElem? (i := 60) rfl)) (hw _ (List.mem_of_getElem? (i := 3) rfl)) (by decide) (by decide)) (g := (mkF m 58 #[.val (.ref ix), .val (.ref en), .val (.int (0 : Int32)), .val (.ref x2)] [(.int (0 : Int32)), (.ref x2), (.ref ix)])) rfl (by rw [hml]; rfl) (Steps.refl _) (a := ix) (by first | exact q106 | (rw [e103]; exact q106)) q106' (argsL := [(.ref x2), (.int (0 : Int32))]) (rest := []) (lenOf own_pd0 rfl) rfl (by show 2 * 0 + _ ≤ _; exact Nat.le_of_eq rfl) (hb hby d12_58) (fun _ _ => ⟨rfl, e103, (by decide : (0 + 0) + 0 ≤ _), (by decide : (0 + 0) + 0 ≤ _)⟩)
          dsimp only [Pt.U, Pt.locs, Pt.cells, Pt.slots] at X106 l106 y106 z106 st106 hQ106
          subst l106 y106 z106
          obtain ⟨rfl, N106q, K106, St⟩ := hQ106
          have N0''''' := Fr.app N0'''' N106q
          have Z0'''' := Nat.le_trans Z0''' K106
          have G0'''' := Nat.le_trans G0''' K106
          refine own_tr (T' := T106) (g' := (mkF m 61 #[.val (.ref ix), .val (.ref en), .val (.int (0 : Int32)), .val (.ref x2)] [])) st106 ?_
          refine own_st (T' := T106) (g' := (mkF m 62 #[.val (.ref ix), .val (.ref en), .val (.int (0 : Int32)), .val (.ref x2)] [(.ref x2)])) (fun _ k => XS.aloadN X106.here hx rfl (hb hby d12_61) rfl rfl k) ?_
          have Fq := (St.2.2.2.2 x2 hx2).2.2
          rw [show (own_upd pl x2 (0 : Int32)) x2 = (0 : Int32) from by simp [own_upd]] at Fq
          obtain ⟨T107, X107, e107, st107⟩ := getF X106 hx hZ hown (host := "") (Or.inl (hw _ (List.mem_of_getElem? (i := 55) rfl))) Via.refl rfl Fq (g := (mkF m 62 #[.val (.ref ix), .val (.ref en), .val (.int (0 : Int32)), .val (.ref x2)] [(.ref x2)])) rfl rfl (hb hby d12_62)
          refine own_st (T' := T107) (g' := (mkF m 65 #[.val (.ref ix), .val (.ref en), .val (.int (0 : Int32)), .val (.ref x2)] [(.int (0 : Int32))])) st107 ?_
          refine own_st (T' := T107) (g' := (mkF m 66 #[.val (.ref ix), .val (.ref en), .val (.int (0 : Int32)), .val (.ref x2)] [(.int (0 : Int32)), (.int (0 : Int32))])) (fun _ k => XS.iloadN X107.here hx rfl (hb hby d12_65) rfl k) ?_
          refine own_st (T' := T107) (g' := (mkF m 69 #[.val (.ref ix), .val (.ref en), .val (.int (0 : Int32)), .val (.ref x2)] [])) (fun _ k => XS.icmpNo X107.here hx rfl (hb hby d12_66) rfl (Jvm.Free.XT.ii_ne_f rfl) k) ?_
          refine own_st (T' := T107) (g' := (mkF m 70 #[.val (.ref ix), .val (.ref en), .val (.int (0 : Int32)), .val (.ref x2)] [(.ref ix)])) (fun _ k => XS.aloadN X107.here hx rfl (hb hby d12_69) rfl rfl k) ?_
          refine own_st (T' := T107) (g' := (mkF m 71 #[.val (.ref ix), .val (.ref en), .val (.int (0 : Int32)), .val (.ref x2)] [(.ref x2), (.ref ix)])) (fun _ k => XS.aloadN X107.here hx rfl (hb hby d12_70) rfl rfl k) ?_
          refine own_st (T' := T107) (g' := (mkF m 72 #[.val (.ref ix), .val (.ref en), .val (.int (0 : Int32)), .val (.ref x2)] [(.int (0 : Int32)), (.ref x2), (.ref ix)])) (fun _ k => XS.iloadN X107.here hx rfl (hb hby d12_71) rfl k) ?_
          obtain ⟨cq108, q108, q108'⟩ := St.1.cell
          obtain ⟨_, _, ⟨T108, L108, k108, n108⟩, -, X108, ⟨Lc108, hQ108, l108, y108, z108⟩, st108⟩ := X107.privateBack hx (y := (⟨"com/example/ovrdue/ovrdue/keyspace/DeadlineIndex", "siftUp", "(Lcom/example/ovrdue/ovrdue/keyspace/Entry;I)V"⟩ : MethodName)) hown (mvT hZ (hw _ (List.mem_of_getElem? (i := 46) rfl))) (mvT hZ (hw _ (List.mem_of_getElem? (i := 47) rfl))) (own_selP hZ (hw _ (List.mem_of_getElem? (i := 2) rfl)) (hw _ (List.mem_of_getElem? (i := 48) rfl)) (hw _ (List.mem_of_getElem? (i := 47) rfl)) (by decide)) (Cond.privateMethod_at (mvP hZ (hw _ (List.mem_of_getElem? (i := 48) rfl)) (args := #[]))) (mvT hZ (hw _ (List.mem_of_getElem? (i := 49) rfl))) (by decide) (backOf (W := 0) (own_upA l Z a0 hw [] ix x2 (0 : Int32) t k es (2 : Int32) (fun q => if q = 0 then (.ref x2) else (fun q => if q = 2 then .null else f q) q) (own_upd dl en (-9223372036854775808 : Int64)) (own_upd pl x2 (0 : Int32)) 0 en T106.heap n0 Z0'''' D St hx2 (by decide) (by decide) (fun u => absurd rfl u)) hZ (hw _ (List.mem_of_getElem? (i := 49) rfl)) (hw _ (List.mem_of_getElem? (i := 3) rfl)) (by decide) (by decide)) (g := (mkF m 72 #[.val (.ref ix), .val (.ref en), .val (.int (0 : Int32)), .val (.ref x2)] [(.int (0 : Int32)), (.ref x2), (.ref ix)])) rfl (by rw [hml]; rfl) (Steps.refl _) (a := ix) (by first | exact q108 | (rw [e107]; exact q108)) q108' (argsL := [(.ref x2), (.int (0 : Int32))]) (rest := []) (lenOf own_pd0 rfl) rfl (by show 2 * 0 + _ ≤ _; exact Nat.le_of_eq rfl) (hb hby d12_72) (fun _ _ => ⟨rfl, e107, (by decide : ((0 + 0) + 0) + 0 ≤ _), (by decide : ((0 + 0) + 0) + 0 ≤ _)⟩)
          dsimp only [Pt.U, Pt.locs, Pt.cells, Pt.slots] at X108 l108 y108 z108 st108 hQ108
          subst l108 y108 z108
          obtain ⟨rfl, N108q, K108, St⟩ := hQ108
          have N0'''''' := Fr.app N0''''' N108q
          have Z0''''' := Nat.le_trans Z0'''' K108
          have G0''''' := Nat.le_trans G0'''' K108
          refine own_tr (T' := T108) (g' := (mkF m 75 #[.val (.ref ix), .val (.ref en), .val (.int (0 : Int32)), .val (.ref x2)] [])) st108 ?_
          exact own_ret0 X108 hx Bd.returns Bd.notSynchronized rfl (hb hby d12_75) ⟨rfl, N0'''''', G0''''', [x2, x1], _, _, _, St, Or.inr (Or.inr (Or.inl ⟨_, _, rfl, rfl, by simp [hf0, hf1, hf2], by simp [hf0, hf1, hf2], by simp [own_upd, hp0, hp1, hp2, n01, n02, n12, Ne.symm n01, Ne.symm n02, Ne.symm n12], by simp [own_upd, hp0, hp1, hp2, n01, n02, n12, Ne.symm n01, Ne.symm n02, Ne.symm n12], by first | assumption | (symm; assumption), by simp [own_upd, n01, n02, n12, Ne.symm n01, Ne.symm n02, Ne.symm n12, Int64.le_iff_toInt_le, Int64.lt_iff_toInt_lt] at l01 l02 qc ⊢ <;> omega⟩)), own_mem_del Mm (fun x => by simp; try grind)⟩ (by decide) (by decide)
      · have Fp := (St.2.2.2.2 en hen).2.2
        rw [hp1] at Fp
        refine own_st (T' := T64) (g' := (mkF m 9 #[.val (.ref ix), .val (.ref en), .unset, .unset] [(.ref en)])) (fun _ k => XS.aloadN X64.here hx rfl (hb hby d12_8) rfl rfl k) ?_
        obtain ⟨T109, X109, e109, st109⟩ := getF X64 hx hZ hown (host := "") (Or.inl (hw _ (List.mem_of_getElem? (i := 55) rfl))) Via.refl e64 Fp (g := (mkF m 9 #[.val (.ref ix), .val (.ref en), .unset, .unset] [(.ref en)])) rfl rfl (hb hby d12_9)
        refine own_st (T' := T109) (g' := (mkF m 12 #[.val (.ref ix), .val (.ref en), .unset, .unset] [(.int (1 : Int32))])) st109 ?_
        refine own_st (T' := T109) (g' := (mkF m 13 #[.val (.ref ix), .val (.ref en), .val (.int (1 : Int32)), .unset] [])) (fun _ k => XS.istoreN X109.here hx rfl (hb hby d12_12) rfl (l' := #[.val (.ref ix), .val (.ref en), .val (.int (1 : Int32)), .unset]) rfl k) ?_
        refine own_st (T' := T109) (g' := (mkF m 14 #[.val (.ref ix), .val (.ref en), .val (.int (1 : Int32)), .unset] [(.ref en)])) (fun _ k => XS.aloadN X109.here hx rfl (hb hby d12_13) rfl rfl k) ?_
        refine own_st (T' := T109) (g' := (mkF m 17 #[.val (.ref ix), .val (.ref en), .val (.int (1 : Int32)), .unset] [(.long (-9223372036854775808 : Int64)), (.ref en)])) (X109.ldc2Long hx hown (mvT hZ (hw _ (List.mem_of_getElem? (i := 33) rfl))) (g := (mkF m 14 #[.val (.ref ix), .val (.ref en), .val (.int (1 : Int32)), .unset] [(.ref en)])) rfl (hb hby d12_14)) ?_
        obtain ⟨T110, h110, X110, e110, W110, st110⟩ := putF X109 hx hZ hown (host := "") (Or.inl (hw _ (List.mem_of_getElem? (i := 45) rfl))) Via.refl e109 (St.2.2.2.2 en hen).2.1 (St.2.2.2.2 en hen).1 (Or.inl (hw _ (List.mem_of_getElem? (i := 23) rfl))) (hw _ (List.mem_of_getElem? (i := 15) rfl)) (ty := .long) (by decide) rfl rfl (g := (mkF m 17 #[.val (.ref ix), .val (.ref en), .val (.int (1 : Int32)), .unset] [(.long (-9223372036854775808 : Int64)), (.ref en)])) rfl rfl (hb hby d12_17)
        have Z0' := Nat.le_trans Z0 (Keep.of_wr W110).1
        have G0' := Nat.le_trans G0 (Keep.of_wr W110).1
        have N0'' := Fr.snoc X110 N0' (D.2.2.2.2.1 en hen).2.2
        have St := St.wDl D hen W110
        refine own_st (T' := T110) (g' := (mkF m 20 #[.val (.ref ix), .val (.ref en), .val (.int (1 : Int32)), .unset] [])) st110 ?_
        refine own_st (T' := T110) (g' := (mkF m 21 #[.val (.ref ix), .val (.ref en), .val (.int (1 : Int32)), .unset] [(.ref ix)])) (fun _ k => XS.aloadN X110.here hx rfl (hb hby d12_20) rfl rfl k) ?_
        refine own_st (T' := T110) (g' := (mkF m 22 #[.val (.ref ix), .val (.ref en), .val (.int (1 : Int32)), .unset] [(.ref ix), (.ref ix)])) (fun _ k => XS.dup X110.here hx rfl (hb hby d12_21) rfl rfl k) ?_
        obtain ⟨T111, X111, e111, st111⟩ := getF X110 hx hZ hown (host := "") (Or.inl (hw _ (List.mem_of_getElem? (i := 43) rfl))) Via.refl e110 St.2.2.1 (g := (mkF m 22 #[.val (.ref ix), .val (.ref en), .val (.int (1 : Int32)), .unset] [(.ref ix), (.ref ix)])) rfl rfl (hb hby d12_22)
        refine own_st (T' := T111) (g' := (mkF m 25 #[.val (.ref ix), .val (.ref en), .val (.int (1 : Int32)), .unset] [(.int (3 : Int32)), (.ref ix)])) st111 ?_
        refine own_st (T' := T111) (g' := (mkF m 26 #[.val (.ref ix), .val (.ref en), .val (.int (1 : Int32)), .unset] [(.int (1 : Int32)), (.int (3 : Int32)), (.ref ix)])) (fun _ k => XS.iconst X111.here hx rfl (hb hby d12_25) k) ?_
        refine own_st (T' := T111) (g' := (mkF m 27 #[.val (.ref ix), .val (.ref en), .val (.int (1 : Int32)), .unset] [(.int ((3 : Int32) - (1 : Int32))), (.ref ix)])) (fun _ k => XS.isub X111.here hx rfl (hb hby d12_26) rfl k) ?_
        rw [show ((3 : Int32) - (1 : Int32)) = (2 : Int32) from rfl]
        obtain ⟨T112, h112, X112, e112, W112, st112⟩ := putF X111 hx hZ hown (host := "") (Or.inl (hw _ (List.mem_of_getElem? (i := 43) rfl))) Via.refl e111 St.2.2.1 St.1 (Or.inl (hw _ (List.mem_of_getElem? (i := 44) rfl))) (hw _ (List.mem_of_getElem? (i := 2) rfl)) (ty := .int) (by decide) rfl rfl (g := (mkF m 27 #[.val (.ref ix), .val (.ref en), .val (.int (1 : Int32)), .unset] [(.int (2 : Int32)), (.ref ix)])) rfl rfl (hb hby d12_27)
        have Z0'' := Nat.le_trans Z0' (Keep.of_wr W112).1
        have G0'' := Nat.le_trans G0' (Keep.of_wr W112).1
        have N0''' := Fr.snoc X112 N0'' D.2.1
        have St := St.wSize D W112
        refine own_st (T' := T112) (g' := (mkF m 30 #[.val (.ref ix), .val (.ref en), .val (.int (1 : Int32)), .unset] [])) st112 ?_
        refine own_st (T' := T112) (g' := (mkF m 31 #[.val (.ref ix), .val (.ref en), .val (.int (1 : Int32)), .unset] [(.ref ix)])) (fun _ k => XS.aloadN X112.here hx rfl (hb hby d12_30) rfl rfl k) ?_
        obtain ⟨T113, X113, e113, st113⟩ := getF X112 hx hZ hown (host := "") (Or.inl (hw _ (List.mem_of_getElem? (i := 12) rfl))) Via.refl e112 St.2.1 (g := (mkF m 31 #[.val (.ref ix), .val (.ref en), .val (.int (1 : Int32)), .unset] [(.ref ix)])) rfl rfl (hb hby d12_31)
        refine own_st (T' := T113) (g' := (mkF m 34 #[.val (.ref ix), .val (.ref en), .val (.int (1 : Int32)), .unset] [(.ref t)])) st113 ?_
        refine own_st (T' := T113) (g' := (mkF m 35 #[.val (.ref ix), .val (.ref en), .val (.int (1 : Int32)), .unset] [(.ref ix), (.ref t)])) (fun _ k => XS.aloadN X113.here hx rfl (hb hby d12_34) rfl rfl k) ?_
        obtain ⟨T114, X114, e114, st114⟩ := getF X113 hx hZ hown (host := "") (Or.inl (hw _ (List.mem_of_getElem? (i := 43) rfl))) Via.refl e113 St.2.2.1 (g := (mkF m 35 #[.val (.ref ix), .val (.ref en), .val (.int (1 : Int32)), .unset] [(.ref ix), (.ref t)])) rfl rfl (hb hby d12_35)
        refine own_st (T' := T114) (g' := (mkF m 38 #[.val (.ref ix), .val (.ref en), .val (.int (1 : Int32)), .unset] [(.int (2 : Int32)), (.ref t)])) st114 ?_
        refine own_st (T' := T114) (g' := (mkF m 39 #[.val (.ref ix), .val (.ref en), .val (.int (1 : Int32)), .unset] [(.ref x2)])) (own_ldR X114 hx hZ e114 St.2.2.2.1 rfl (i := 2) (by decide) (by decide) (v := (.ref x2)) hf2 (g := (mkF m 38 #[.val (.ref ix), .val (.ref en), .val (.int (1 : Int32)), .unset] [(.int (2 : Int32)), (.ref t)])) rfl rfl (hb hby d12_38)) ?_
        refine own_st (T' := T114) (g' := (mkF m 40 #[.val (.ref ix), .val (.ref en), .val (.int (1 : Int32)), .val (.ref x2)] [])) (fun _ k => XS.astoreN X114.here hx rfl (hb hby d12_39) rfl rfl (l' := #[.val (.ref ix), .val (.ref en), .val (.int (1 : Int32)), .val (.ref x2)]) rfl k) ?_
        refine own_st (T' := T114) (g' := (mkF m 41 #[.val (.ref ix), .val (.ref en), .val (.int (1 : Int32)), .val (.ref x2)] [(.ref ix)])) (fun _ k => XS.aloadN X114.here hx rfl (hb hby d12_40) rfl rfl k) ?_
        obtain ⟨T115, X115, e115, st115⟩ := getF X114 hx hZ hown (host := "") (Or.inl (hw _ (List.mem_of_getElem? (i := 12) rfl))) Via.refl e114 St.2.1 (g := (mkF m 41 #[.val (.ref ix), .val (.ref en), .val (.int (1 : Int32)), .val (.ref x2)] [(.ref ix)])) rfl rfl (hb hby d12_41)
        refine own_st (T' := T115) (g' := (mkF m 44 #[.val (.ref ix), .val (.ref en), .val (.int (1 : Int32)), .val (.ref x2)] [(.ref t)])) st115 ?_
        refine own_st (T' := T115) (g' := (mkF m 45 #[.val (.ref ix), .val (.ref en), .val (.int (1 : Int32)), .val (.ref x2)] [(.ref ix), (.ref t)])) (fun _ k => XS.aloadN X115.here hx rfl (hb hby d12_44) rfl rfl k) ?_
        obtain ⟨T116, X116, e116, st116⟩ := getF X115 hx hZ hown (host := "") (Or.inl (hw _ (List.mem_of_getElem? (i := 43) rfl))) Via.refl e115 St.2.2.1 (g := (mkF m 45 #[.val (.ref ix), .val (.ref en), .val (.int (1 : Int32)), .val (.ref x2)] [(.ref ix), (.ref t)])) rfl rfl (hb hby d12_45)
        refine own_st (T' := T116) (g' := (mkF m 48 #[.val (.ref ix), .val (.ref en), .val (.int (1 : Int32)), .val (.ref x2)] [(.int (2 : Int32)), (.ref t)])) st116 ?_
        refine own_st (T' := T116) (g' := (mkF m 49 #[.val (.ref ix), .val (.ref en), .val (.int (1 : Int32)), .val (.ref x2)] [.null, (.int (2 : Int32)), (.ref t)])) (fun _ k => XS.aconstNull X116.here hx rfl (hb hby d12_48) k) ?_
        obtain ⟨T117, h117, X117, e117, W117, V117, st117⟩ := own_stR X116 hx hZ e116 St.2.2.2.1 D.2.2.2.1 (Or.inl rfl) (i := 2) (by decide) (by decide) (g := (mkF m 49 #[.val (.ref ix), .val (.ref en), .val (.int (1 : Int32)), .val (.ref x2)] [.null, (.int (2 : Int32)), (.ref t)])) rfl rfl (hb hby d12_49)
        have Z0''' := Nat.le_trans Z0'' (Keep.of_wr W117).1
        have G0''' := Nat.le_trans G0'' (Keep.of_wr W117).1
        have N0'''' := Fr.snoc X117 N0''' D.2.2.1
        have St := St.wArr D W117 (i := 2) (by decide)
        refine own_st (T' := T117) (g' := (mkF m 50 #[.val (.ref ix), .val (.ref en), .val (.int (1 : Int32)), .val (.ref x2)] [])) st117 ?_
        refine own_st (T' := T117) (g' := (mkF m 51 #[.val (.ref ix), .val (.ref en), .val (.int (1 : Int32)), .val (.ref x2)] [(.ref x2)])) (fun _ k => XS.aloadN X117.here hx rfl (hb hby d12_50) rfl rfl k) ?_
        refine own_st (T' := T117) (g' := (mkF m 52 #[.val (.ref ix), .val (.ref en), .val (.int (1 : Int32)), .val (.ref x2)] [(.ref en), (.ref x2)])) (fun _ k => XS.aloadN X117.here hx rfl (hb hby d12_51) rfl rfl k) ?_
        refine own_st (T' := T117) (g' := (mkF m 55 #[.val (.ref ix), .val (.ref en), .val (.int (1 : Int32)), .val (.ref x2)] [])) (fun _ k => Jvm.Free.XT.acmpNo X117.here hx rfl (hb hby d12_52) rfl rfl rfl (Jvm.Free.XT.aa_eq_f (by simp [Ne.symm n12])) k) ?_
        refine own_st (T' := T117) (g' := (mkF m 56 #[.val (.ref ix), .val (.ref en), .val (.int (1 : Int32)), .val (.ref x2)] [(.ref ix)])) (fun _ k => XS.aloadN X117.here hx rfl (hb hby d12_55) rfl rfl k) ?_
        refine own_st (T' := T117) (g' := (mkF m 57 #[.val (.ref ix), .val (.ref en), .val (.int (1 : Int32)), .val (.ref x2)] [(.ref x2), (.ref ix)])) (fun _ k => XS.aloadN X117.here hx rfl (hb hby d12_56) rfl rfl k) ?_
        refine own_st (T' := T117) (g' := (mkF m 58 #[.val (.ref ix), .val (.ref en), .val (.int (1 : Int32)), .val (.ref x2)] [(.int (1 : Int32)), (.ref x2), (.ref ix)])) (fun _ k => XS.iloadN X117.here hx rfl (hb hby d12_57) rfl k) ?_
        obtain ⟨cq118, q118, q118'⟩ := St.1.cell
        obtain ⟨_, _, ⟨T118, L118, k118, n118⟩, -, X118, ⟨Lc118, hQ118, l118, y118, z118⟩, st118⟩ := X117.privateBack hx (y := (⟨"com/example/ovrdue/ovrdue/keyspace/DeadlineIndex", "siftDown", "(Lcom/example/ovrdue/ovrdue/keyspace/Entry;I)V"⟩ : MethodName)) hown (mvT hZ (hw _ (List.mem_of_getElem? (i := 57) rfl))) (mvT hZ (hw _ (List.mem_of_getElem? (i := 58) rfl))) (own_selP hZ (hw _ (List.mem_of_getElem? (i := 2) rfl)) (hw _ (List.mem_of_getElem? (i := 59) rfl)) (hw _ (List.mem_of_getElem? (i := 58) rfl)) (by decide)) (Cond.privateMethod_at (mvP hZ (hw _ (List.mem_of_getElem? (i := 59) rfl)) (args := #[]))) (mvT hZ (hw _ (List.mem_of_getElem? (i := 60) rfl))) (by decide) (backOf (W := 0) (own_dnA l Z a0 hw [] ix x2 (1 : Int32) t k es (2 : Int32) (fun q => if q = 2 then .null else f q) (own_upd dl en (-9223372036854775808 : Int64)) pl 1 h117 n0 Z0''' D St hx2 (by decide) (by decide) (by decide)) hZ (hw _ (List.mem_of_getElem? (i := 60) rfl)) (hw _ (List.mem_of_getElem? (i := 3) rfl)) (by decide) (by decide)) (g := (mkF m 58 #[.val (.ref ix), .val (.ref en), .val (.int (1 : Int32)), .val (.ref x2)] [(.int (1 : Int32)), (.ref x2), (.ref ix)])) rfl (by rw [hml]; rfl) (Steps.refl _) (a := ix) (by first | exact q118 | (rw [e117]; exact q118)) q118' (argsL := [(.ref x2), (.int (1 : Int32))]) (rest := []) (lenOf own_pd0 rfl) rfl (by show 2 * 0 + _ ≤ _; exact Nat.le_of_eq rfl) (hb hby d12_58) (fun _ _ => ⟨rfl, e117, (by decide : (0 + 0) + 0 ≤ _), (by decide : (0 + 0) + 0 ≤ _)⟩)
        dsimp only [Pt.U, Pt.locs, Pt.cells, Pt.slots] at X118 l118 y118 z118 st118 hQ118
        subst l118 y118 z118
        obtain ⟨rfl, N118q, K118, St⟩ := hQ118
        have N0''''' := Fr.app N0'''' N118q
        have Z0'''' := Nat.le_trans Z0''' K118
        have G0'''' := Nat.le_trans G0''' K118
        refine own_tr (T' := T118) (g' := (mkF m 61 #[.val (.ref ix), .val (.ref en), .val (.int (1 : Int32)), .val (.ref x2)] [])) st118 ?_
        refine own_st (T' := T118) (g' := (mkF m 62 #[.val (.ref ix), .val (.ref en), .val (.int (1 : Int32)), .val (.ref x2)] [(.ref x2)])) (fun _ k => XS.aloadN X118.here hx rfl (hb hby d12_61) rfl rfl k) ?_
        have Fq := (St.2.2.2.2 x2 hx2).2.2
        rw [show (own_upd pl x2 (1 : Int32)) x2 = (1 : Int32) from by simp [own_upd]] at Fq
        obtain ⟨T119, X119, e119, st119⟩ := getF X118 hx hZ hown (host := "") (Or.inl (hw _ (List.mem_of_getElem? (i := 55) rfl))) Via.refl rfl Fq (g := (mkF m 62 #[.val (.ref ix), .val (.ref en), .val (.int (1 : Int32)), .val (.ref x2)] [(.ref x2)])) rfl rfl (hb hby d12_62)
        refine own_st (T' := T119) (g' := (mkF m 65 #[.val (.ref ix), .val (.ref en), .val (.int (1 : Int32)), .val (.ref x2)] [(.int (1 : Int32))])) st119 ?_
        refine own_st (T' := T119) (g' := (mkF m 66 #[.val (.ref ix), .val (.ref en), .val (.int (1 : Int32)), .val (.ref x2)] [(.int (1 : Int32)), (.int (1 : Int32))])) (fun _ k => XS.iloadN X119.here hx rfl (hb hby d12_65) rfl k) ?_
        refine own_st (T' := T119) (g' := (mkF m 69 #[.val (.ref ix), .val (.ref en), .val (.int (1 : Int32)), .val (.ref x2)] [])) (fun _ k => XS.icmpNo X119.here hx rfl (hb hby d12_66) rfl (Jvm.Free.XT.ii_ne_f rfl) k) ?_
        refine own_st (T' := T119) (g' := (mkF m 70 #[.val (.ref ix), .val (.ref en), .val (.int (1 : Int32)), .val (.ref x2)] [(.ref ix)])) (fun _ k => XS.aloadN X119.here hx rfl (hb hby d12_69) rfl rfl k) ?_
        refine own_st (T' := T119) (g' := (mkF m 71 #[.val (.ref ix), .val (.ref en), .val (.int (1 : Int32)), .val (.ref x2)] [(.ref x2), (.ref ix)])) (fun _ k => XS.aloadN X119.here hx rfl (hb hby d12_70) rfl rfl k) ?_
        refine own_st (T' := T119) (g' := (mkF m 72 #[.val (.ref ix), .val (.ref en), .val (.int (1 : Int32)), .val (.ref x2)] [(.int (1 : Int32)), (.ref x2), (.ref ix)])) (fun _ k => XS.iloadN X119.here hx rfl (hb hby d12_71) rfl k) ?_
        obtain ⟨cq120, q120, q120'⟩ := St.1.cell
        obtain ⟨_, _, ⟨T120, L120, k120, n120⟩, -, X120, ⟨Lc120, hQ120, l120, y120, z120⟩, st120⟩ := X119.privateBack hx (y := (⟨"com/example/ovrdue/ovrdue/keyspace/DeadlineIndex", "siftUp", "(Lcom/example/ovrdue/ovrdue/keyspace/Entry;I)V"⟩ : MethodName)) hown (mvT hZ (hw _ (List.mem_of_getElem? (i := 46) rfl))) (mvT hZ (hw _ (List.mem_of_getElem? (i := 47) rfl))) (own_selP hZ (hw _ (List.mem_of_getElem? (i := 2) rfl)) (hw _ (List.mem_of_getElem? (i := 48) rfl)) (hw _ (List.mem_of_getElem? (i := 47) rfl)) (by decide)) (Cond.privateMethod_at (mvP hZ (hw _ (List.mem_of_getElem? (i := 48) rfl)) (args := #[]))) (mvT hZ (hw _ (List.mem_of_getElem? (i := 49) rfl))) (by decide) (backOf (W := 0) (own_upA l Z a0 hw [] ix x2 (1 : Int32) t k es (2 : Int32) (fun q => if q = 1 then (.ref x2) else (fun q => if q = 2 then .null else f q) q) (own_upd dl en (-9223372036854775808 : Int64)) (own_upd pl x2 (1 : Int32)) 1 x0 T118.heap n0 Z0'''' D St hx2 (by decide) (by decide) (fun _ => ⟨by simp [hf0], hx0, by simp [own_upd, n01, n12, Ne.symm n12, Int64.le_iff_toInt_le, Int64.lt_iff_toInt_lt] at l02 ⊢ <;> omega⟩)) hZ (hw _ (List.mem_of_getElem? (i := 49) rfl)) (hw _ (List.mem_of_getElem? (i := 3) rfl)) (by decide) (by decide)) (g := (mkF m 72 #[.val (.ref ix), .val (.ref en), .val (.int (1 : Int32)), .val (.ref x2)] [(.int (1 : Int32)), (.ref x2), (.ref ix)])) rfl (by rw [hml]; rfl) (Steps.refl _) (a := ix) (by first | exact q120 | (rw [e119]; exact q120)) q120' (argsL := [(.ref x2), (.int (1 : Int32))]) (rest := []) (lenOf own_pd0 rfl) rfl (by show 2 * 0 + _ ≤ _; exact Nat.le_of_eq rfl) (hb hby d12_72) (fun _ _ => ⟨rfl, e119, (by decide : ((0 + 0) + 0) + 0 ≤ _), (by decide : ((0 + 0) + 0) + 0 ≤ _)⟩)
        dsimp only [Pt.U, Pt.locs, Pt.cells, Pt.slots] at X120 l120 y120 z120 st120 hQ120
        subst l120 y120 z120
        obtain ⟨rfl, N120q, K120, St⟩ := hQ120
        have N0'''''' := Fr.app N0''''' N120q
        have Z0''''' := Nat.le_trans Z0'''' K120
        have G0''''' := Nat.le_trans G0'''' K120
        refine own_tr (T' := T120) (g' := (mkF m 75 #[.val (.ref ix), .val (.ref en), .val (.int (1 : Int32)), .val (.ref x2)] [])) st120 ?_
        exact own_ret0 X120 hx Bd.returns Bd.notSynchronized rfl (hb hby d12_75) ⟨rfl, N0'''''', G0''''', [x0, x2], _, _, _, St, Or.inr (Or.inr (Or.inl ⟨_, _, rfl, rfl, by simp [hf0, hf1, hf2], by simp [hf0, hf1, hf2], by simp [own_upd, hp0, hp1, hp2, n01, n02, n12, Ne.symm n01, Ne.symm n02, Ne.symm n12], by simp [own_upd, hp0, hp1, hp2, n01, n02, n12, Ne.symm n01, Ne.symm n02, Ne.symm n12], by first | assumption | (symm; assumption), by simp [own_upd, n01, n02, n12, Ne.symm n01, Ne.symm n02, Ne.symm n12, Int64.le_iff_toInt_le, Int64.lt_iff_toInt_lt] at l01 l02 ⊢ <;> omega⟩)), own_mem_del Mm (fun x => by simp; try grind)⟩ (by decide) (by decide)
      · have Fp := (St.2.2.2.2 en hen).2.2
        rw [hp2] at Fp
        refine own_st (T' := T64) (g' := (mkF m 9 #[.val (.ref ix), .val (.ref en), .unset, .unset] [(.ref en)])) (fun _ k => XS.aloadN X64.here hx rfl (hb hby d12_8) rfl rfl k) ?_
        obtain ⟨T121, X121, e121, st121⟩ := getF X64 hx hZ hown (host := "") (Or.inl (hw _ (List.mem_of_getElem? (i := 55) rfl))) Via.refl e64 Fp (g := (mkF m 9 #[.val (.ref ix), .val (.ref en), .unset, .unset] [(.ref en)])) rfl rfl (hb hby d12_9)
        refine own_st (T' := T121) (g' := (mkF m 12 #[.val (.ref ix), .val (.ref en), .unset, .unset] [(.int (2 : Int32))])) st121 ?_
        refine own_st (T' := T121) (g' := (mkF m 13 #[.val (.ref ix), .val (.ref en), .val (.int (2 : Int32)), .unset] [])) (fun _ k => XS.istoreN X121.here hx rfl (hb hby d12_12) rfl (l' := #[.val (.ref ix), .val (.ref en), .val (.int (2 : Int32)), .unset]) rfl k) ?_
        refine own_st (T' := T121) (g' := (mkF m 14 #[.val (.ref ix), .val (.ref en), .val (.int (2 : Int32)), .unset] [(.ref en)])) (fun _ k => XS.aloadN X121.here hx rfl (hb hby d12_13) rfl rfl k) ?_
        refine own_st (T' := T121) (g' := (mkF m 17 #[.val (.ref ix), .val (.ref en), .val (.int (2 : Int32)), .unset] [(.long (-9223372036854775808 : Int64)), (.ref en)])) (X121.ldc2Long hx hown (mvT hZ (hw _ (List.mem_of_getElem? (i := 33) rfl))) (g := (mkF m 14 #[.val (.ref ix), .val (.ref en), .val (.int (2 : Int32)), .unset] [(.ref en)])) rfl (hb hby d12_14)) ?_
        obtain ⟨T122, h122, X122, e122, W122, st122⟩ := putF X121 hx hZ hown (host := "") (Or.inl (hw _ (List.mem_of_getElem? (i := 45) rfl))) Via.refl e121 (St.2.2.2.2 en hen).2.1 (St.2.2.2.2 en hen).1 (Or.inl (hw _ (List.mem_of_getElem? (i := 23) rfl))) (hw _ (List.mem_of_getElem? (i := 15) rfl)) (ty := .long) (by decide) rfl rfl (g := (mkF m 17 #[.val (.ref ix), .val (.ref en), .val (.int (2 : Int32)), .unset] [(.long (-9223372036854775808 : Int64)), (.ref en)])) rfl rfl (hb hby d12_17)
        have Z0' := Nat.le_trans Z0 (Keep.of_wr W122).1
        have G0' := Nat.le_trans G0 (Keep.of_wr W122).1
        have N0'' := Fr.snoc X122 N0' (D.2.2.2.2.1 en hen).2.2
        have St := St.wDl D hen W122
        refine own_st (T' := T122) (g' := (mkF m 20 #[.val (.ref ix), .val (.ref en), .val (.int (2 : Int32)), .unset] [])) st122 ?_
        refine own_st (T' := T122) (g' := (mkF m 21 #[.val (.ref ix), .val (.ref en), .val (.int (2 : Int32)), .unset] [(.ref ix)])) (fun _ k => XS.aloadN X122.here hx rfl (hb hby d12_20) rfl rfl k) ?_
        refine own_st (T' := T122) (g' := (mkF m 22 #[.val (.ref ix), .val (.ref en), .val (.int (2 : Int32)), .unset] [(.ref ix), (.ref ix)])) (fun _ k => XS.dup X122.here hx rfl (hb hby d12_21) rfl rfl k) ?_
        obtain ⟨T123, X123, e123, st123⟩ := getF X122 hx hZ hown (host := "") (Or.inl (hw _ (List.mem_of_getElem? (i := 43) rfl))) Via.refl e122 St.2.2.1 (g := (mkF m 22 #[.val (.ref ix), .val (.ref en), .val (.int (2 : Int32)), .unset] [(.ref ix), (.ref ix)])) rfl rfl (hb hby d12_22)
        refine own_st (T' := T123) (g' := (mkF m 25 #[.val (.ref ix), .val (.ref en), .val (.int (2 : Int32)), .unset] [(.int (3 : Int32)), (.ref ix)])) st123 ?_
        refine own_st (T' := T123) (g' := (mkF m 26 #[.val (.ref ix), .val (.ref en), .val (.int (2 : Int32)), .unset] [(.int (1 : Int32)), (.int (3 : Int32)), (.ref ix)])) (fun _ k => XS.iconst X123.here hx rfl (hb hby d12_25) k) ?_
        refine own_st (T' := T123) (g' := (mkF m 27 #[.val (.ref ix), .val (.ref en), .val (.int (2 : Int32)), .unset] [(.int ((3 : Int32) - (1 : Int32))), (.ref ix)])) (fun _ k => XS.isub X123.here hx rfl (hb hby d12_26) rfl k) ?_
        rw [show ((3 : Int32) - (1 : Int32)) = (2 : Int32) from rfl]
        obtain ⟨T124, h124, X124, e124, W124, st124⟩ := putF X123 hx hZ hown (host := "") (Or.inl (hw _ (List.mem_of_getElem? (i := 43) rfl))) Via.refl e123 St.2.2.1 St.1 (Or.inl (hw _ (List.mem_of_getElem? (i := 44) rfl))) (hw _ (List.mem_of_getElem? (i := 2) rfl)) (ty := .int) (by decide) rfl rfl (g := (mkF m 27 #[.val (.ref ix), .val (.ref en), .val (.int (2 : Int32)), .unset] [(.int (2 : Int32)), (.ref ix)])) rfl rfl (hb hby d12_27)
        have Z0'' := Nat.le_trans Z0' (Keep.of_wr W124).1
        have G0'' := Nat.le_trans G0' (Keep.of_wr W124).1
        have N0''' := Fr.snoc X124 N0'' D.2.1
        have St := St.wSize D W124
        refine own_st (T' := T124) (g' := (mkF m 30 #[.val (.ref ix), .val (.ref en), .val (.int (2 : Int32)), .unset] [])) st124 ?_
        refine own_st (T' := T124) (g' := (mkF m 31 #[.val (.ref ix), .val (.ref en), .val (.int (2 : Int32)), .unset] [(.ref ix)])) (fun _ k => XS.aloadN X124.here hx rfl (hb hby d12_30) rfl rfl k) ?_
        obtain ⟨T125, X125, e125, st125⟩ := getF X124 hx hZ hown (host := "") (Or.inl (hw _ (List.mem_of_getElem? (i := 12) rfl))) Via.refl e124 St.2.1 (g := (mkF m 31 #[.val (.ref ix), .val (.ref en), .val (.int (2 : Int32)), .unset] [(.ref ix)])) rfl rfl (hb hby d12_31)
        refine own_st (T' := T125) (g' := (mkF m 34 #[.val (.ref ix), .val (.ref en), .val (.int (2 : Int32)), .unset] [(.ref t)])) st125 ?_
        refine own_st (T' := T125) (g' := (mkF m 35 #[.val (.ref ix), .val (.ref en), .val (.int (2 : Int32)), .unset] [(.ref ix), (.ref t)])) (fun _ k => XS.aloadN X125.here hx rfl (hb hby d12_34) rfl rfl k) ?_
        obtain ⟨T126, X126, e126, st126⟩ := getF X125 hx hZ hown (host := "") (Or.inl (hw _ (List.mem_of_getElem? (i := 43) rfl))) Via.refl e125 St.2.2.1 (g := (mkF m 35 #[.val (.ref ix), .val (.ref en), .val (.int (2 : Int32)), .unset] [(.ref ix), (.ref t)])) rfl rfl (hb hby d12_35)
        refine own_st (T' := T126) (g' := (mkF m 38 #[.val (.ref ix), .val (.ref en), .val (.int (2 : Int32)), .unset] [(.int (2 : Int32)), (.ref t)])) st126 ?_
        refine own_st (T' := T126) (g' := (mkF m 39 #[.val (.ref ix), .val (.ref en), .val (.int (2 : Int32)), .unset] [(.ref en)])) (own_ldR X126 hx hZ e126 St.2.2.2.1 rfl (i := 2) (by decide) (by decide) (v := (.ref en)) hf2 (g := (mkF m 38 #[.val (.ref ix), .val (.ref en), .val (.int (2 : Int32)), .unset] [(.int (2 : Int32)), (.ref t)])) rfl rfl (hb hby d12_38)) ?_
        refine own_st (T' := T126) (g' := (mkF m 40 #[.val (.ref ix), .val (.ref en), .val (.int (2 : Int32)), .val (.ref en)] [])) (fun _ k => XS.astoreN X126.here hx rfl (hb hby d12_39) rfl rfl (l' := #[.val (.ref ix), .val (.ref en), .val (.int (2 : Int32)), .val (.ref en)]) rfl k) ?_
        refine own_st (T' := T126) (g' := (mkF m 41 #[.val (.ref ix), .val (.ref en), .val (.int (2 : Int32)), .val (.ref en)] [(.ref ix)])) (fun _ k => XS.aloadN X126.here hx rfl (hb hby d12_40) rfl rfl k) ?_
        obtain ⟨T127, X127, e127, st127⟩ := getF X126 hx hZ hown (host := "") (Or.inl (hw _ (List.mem_of_getElem? (i := 12) rfl))) Via.refl e126 St.2.1 (g := (mkF m 41 #[.val (.ref ix), .val (.ref en), .val (.int (2 : Int32)), .val (.ref en)] [(.ref ix)])) rfl rfl (hb hby d12_41)
        refine own_st (T' := T127) (g' := (mkF m 44 #[.val (.ref ix), .val (.ref en), .val (.int (2 : Int32)), .val (.ref en)] [(.ref t)])) st127 ?_
        refine own_st (T' := T127) (g' := (mkF m 45 #[.val (.ref ix), .val (.ref en), .val (.int (2 : Int32)), .val (.ref en)] [(.ref ix), (.ref t)])) (fun _ k => XS.aloadN X127.here hx rfl (hb hby d12_44) rfl rfl k) ?_
        obtain ⟨T128, X128, e128, st128⟩ := getF X127 hx hZ hown (host := "") (Or.inl (hw _ (List.mem_of_getElem? (i := 43) rfl))) Via.refl e127 St.2.2.1 (g := (mkF m 45 #[.val (.ref ix), .val (.ref en), .val (.int (2 : Int32)), .val (.ref en)] [(.ref ix), (.ref t)])) rfl rfl (hb hby d12_45)
        refine own_st (T' := T128) (g' := (mkF m 48 #[.val (.ref ix), .val (.ref en), .val (.int (2 : Int32)), .val (.ref en)] [(.int (2 : Int32)), (.ref t)])) st128 ?_
        refine own_st (T' := T128) (g' := (mkF m 49 #[.val (.ref ix), .val (.ref en), .val (.int (2 : Int32)), .val (.ref en)] [.null, (.int (2 : Int32)), (.ref t)])) (fun _ k => XS.aconstNull X128.here hx rfl (hb hby d12_48) k) ?_
        obtain ⟨T129, h129, X129, e129, W129, V129, st129⟩ := own_stR X128 hx hZ e128 St.2.2.2.1 D.2.2.2.1 (Or.inl rfl) (i := 2) (by decide) (by decide) (g := (mkF m 49 #[.val (.ref ix), .val (.ref en), .val (.int (2 : Int32)), .val (.ref en)] [.null, (.int (2 : Int32)), (.ref t)])) rfl rfl (hb hby d12_49)
        have Z0''' := Nat.le_trans Z0'' (Keep.of_wr W129).1
        have G0''' := Nat.le_trans G0'' (Keep.of_wr W129).1
        have N0'''' := Fr.snoc X129 N0''' D.2.2.1
        have St := St.wArr D W129 (i := 2) (by decide)
        refine own_st (T' := T129) (g' := (mkF m 50 #[.val (.ref ix), .val (.ref en), .val (.int (2 : Int32)), .val (.ref en)] [])) st129 ?_
        refine own_st (T' := T129) (g' := (mkF m 51 #[.val (.ref ix), .val (.ref en), .val (.int (2 : Int32)), .val (.ref en)] [(.ref en)])) (fun _ k => XS.aloadN X129.here hx rfl (hb hby d12_50) rfl rfl k) ?_
        refine own_st (T' := T129) (g' := (mkF m 52 #[.val (.ref ix), .val (.ref en), .val (.int (2 : Int32)), .val (.ref en)] [(.ref en), (.ref en)])) (fun _ k => XS.aloadN X129.here hx rfl (hb hby d12_51) rfl rfl k) ?_
        refine own_st (T' := T129) (g' := (mkF m 75 #[.val (.ref ix), .val (.ref en), .val (.int (2 : Int32)), .val (.ref en)] [])) (fun _ k => Jvm.Free.XT.acmpYes X129.here hx rfl (pc0 := 52) (pc' := 75) rfl (hb hby d12_52) rfl rfl rfl (Jvm.Free.XT.aa_eq_t rfl) (by decide) (by decide) k) ?_
        exact own_ret0 X129 hx Bd.returns Bd.notSynchronized e129 (hb hby d12_75) ⟨rfl, N0'''', G0''', [x0, x1], _, _, _, St, Or.inr (Or.inr (Or.inl ⟨_, _, rfl, rfl, by simp [hf0, hf1, hf2], by simp [hf0, hf1, hf2], by simp [own_upd, hp0, hp1, hp2, n01, n02, n12, Ne.symm n01, Ne.symm n02, Ne.symm n12], by simp [own_upd, hp0, hp1, hp2, n01, n02, n12, Ne.symm n01, Ne.symm n02, Ne.symm n12], by first | assumption | (symm; assumption), by simp [own_upd, n01, n02, n12, Ne.symm n01, Ne.symm n02, Ne.symm n12, Int64.le_iff_toInt_le, Int64.lt_iff_toInt_lt] at l01 l02 ⊢ <;> omega⟩)), own_mem_del Mm (fun x => by simp; try grind)⟩ (by decide) (by decide)
theorem own_pd2 : parseMethodDescriptor "(Lcom/example/ovrdue/ovrdue/keyspace/Entry;)V" = some ⟨[(.object "com/example/ovrdue/ovrdue/keyspace/Entry")], none⟩ := by decide +kernel
theorem own_pd3 : parseMethodDescriptor "(Lcom/example/ovrdue/ovrdue/keyspace/Entry;J)V" = some ⟨[(.object "com/example/ovrdue/ovrdue/keyspace/Entry"), .long], none⟩ := by decide +kernel
theorem d4_0 : decode prog_6_method_4_code 0 = .ok (.lload_n 2, 1) := by decide +kernel
theorem d4_1 : decode prog_6_method_4_code 1 = .ok (.ldc2_w 19, 3) := by decide +kernel
theorem d4_4 : decode prog_6_method_4_code 4 = .ok (.lcmp, 1) := by decide +kernel
theorem d4_5 : decode prog_6_method_4_code 5 = .ok (.ifCond .ne 11, 3) := by decide +kernel
theorem d4_8 : decode prog_6_method_4_code 8 = .ok (.aload_n 0, 1) := by decide +kernel
theorem d4_9 : decode prog_6_method_4_code 9 = .ok (.aload_n 1, 1) := by decide +kernel
theorem d4_10 : decode prog_6_method_4_code 10 = .ok (.invokevirtual 21, 3) := by decide +kernel
theorem d4_13 : decode prog_6_method_4_code 13 = .ok (.goto 58, 3) := by decide +kernel
theorem d4_16 : decode prog_6_method_4_code 16 = .ok (.aload_n 1, 1) := by decide +kernel
theorem d4_17 : decode prog_6_method_4_code 17 = .ok (.invokevirtual 25, 3) := by decide +kernel
theorem d4_20 : decode prog_6_method_4_code 20 = .ok (.ifCond .ne 12, 3) := by decide +kernel
theorem d4_23 : decode prog_6_method_4_code 23 = .ok (.aload_n 0, 1) := by decide +kernel
theorem d4_24 : decode prog_6_method_4_code 24 = .ok (.aload_n 1, 1) := by decide +kernel
theorem d4_25 : decode prog_6_method_4_code 25 = .ok (.lload_n 2, 1) := by decide +kernel
theorem d4_26 : decode prog_6_method_4_code 26 = .ok (.invokevirtual 29, 3) := by decide +kernel
theorem d4_29 : decode prog_6_method_4_code 29 = .ok (.goto 42, 3) := by decide +kernel
theorem d4_32 : decode prog_6_method_4_code 32 = .ok (.aload_n 1, 1) := by decide +kernel
theorem d4_33 : decode prog_6_method_4_code 33 = .ok (.getfield 33, 3) := by decide +kernel
theorem d4_36 : decode prog_6_method_4_code 36 = .ok (.lstore 4, 2) := by decide +kernel
theorem d4_38 : decode prog_6_method_4_code 38 = .ok (.aload_n 1, 1) := by decide +kernel
theorem d4_39 : decode prog_6_method_4_code 39 = .ok (.lload_n 2, 1) := by decide +kernel
theorem d4_40 : decode prog_6_method_4_code 40 = .ok (.putfield 33, 3) := by decide +kernel
theorem d4_43 : decode prog_6_method_4_code 43 = .ok (.lload_n 2, 1) := by decide +kernel
theorem d4_44 : decode prog_6_method_4_code 44 = .ok (.lload 4, 2) := by decide +kernel
theorem d4_46 : decode prog_6_method_4_code 46 = .ok (.lcmp, 1) := by decide +kernel
theorem d4_47 : decode prog_6_method_4_code 47 = .ok (.ifCond .ge 15, 3) := by decide +kernel
theorem d4_50 : decode prog_6_method_4_code 50 = .ok (.aload_n 0, 1) := by decide +kernel
theorem d4_51 : decode prog_6_method_4_code 51 = .ok (.aload_n 1, 1) := by decide +kernel
theorem d4_52 : decode prog_6_method_4_code 52 = .ok (.aload_n 1, 1) := by decide +kernel
theorem d4_53 : decode prog_6_method_4_code 53 = .ok (.getfield 37, 3) := by decide +kernel
theorem d4_56 : decode prog_6_method_4_code 56 = .ok (.invokevirtual 40, 3) := by decide +kernel
theorem d4_59 : decode prog_6_method_4_code 59 = .ok (.goto 12, 3) := by decide +kernel
theorem d4_62 : decode prog_6_method_4_code 62 = .ok (.aload_n 0, 1) := by decide +kernel
theorem d4_63 : decode prog_6_method_4_code 63 = .ok (.aload_n 1, 1) := by decide +kernel
theorem d4_64 : decode prog_6_method_4_code 64 = .ok (.aload_n 1, 1) := by decide +kernel
theorem d4_65 : decode prog_6_method_4_code 65 = .ok (.getfield 37, 3) := by decide +kernel
theorem d4_68 : decode prog_6_method_4_code 68 = .ok (.invokevirtual 44, 3) := by decide +kernel
theorem d4_71 : decode prog_6_method_4_code 71 = .ok (.return_, 1) := by decide +kernel
def own_set_Q (Z : State) (ix : Addr) (en : Addr) (d : Int64) (t : Addr) (k : ClassId) (es : List Addr) (dl : Addr → Int64) (h0 : Heap) (n0 : Nat) (v : Option Value) (h : Heap) (L : List Loc) : Prop := v = none ∧ Fr n0 L ∧ h0.size ≤ h.size ∧ own_Ix Z h ix t k es (own_upd dl en d)
set_option maxRecDepth 65536 in
set_option maxHeartbeats 40000000 in
theorem own_set (l : Launch) (Z : State) (a0 : Array Value) (hw : ∀ d ∈ tables_1, d.before a0 Z = true) (ws : List Jvm.Cond) (ix : Addr) (en : Addr) (d : Int64) (t : Addr) (k : ClassId) (es : List Addr) (dl : Addr → Int64) (h0 : Heap) (n0 : Nat) (Z0 : n0 ≤ h0.size) (D : own_Ds Z n0 ix t k es) (D3 : own_D3 es) (Ix : own_Ix Z h0 ix t k es dl) (hen : en ∈ es) :
    MetFree l (⟨"com/example/ovrdue/ovrdue/keyspace/DeadlineIndex", "set", "(Lcom/example/ovrdue/ovrdue/keyspace/Entry;J)V"⟩ : MethodName) (head1 (Jvm.Cond.code (⟨"com/example/ovrdue/ovrdue/keyspace/DeadlineIndex", "set", "(Lcom/example/ovrdue/ovrdue/keyspace/Entry;J)V"⟩ : MethodName) prog_6_method_4_code 6 none :: ws) ({ frames := 3, cells := 0, slots := 0, locals := 45 } : Room)) (fun aa U0 => aa = #[(.ref ix), (.ref en), (.long d)] ∧ Z.Warmed39 U0.vm ∧ U0.heap = h0) (fun _ _ _ _ _ => True) (fun _ U0 o0 U1 => ∃ v0 L0, o0 = .returned v0 ∧ own_set_Q Z ix en d t k es dl h0 n0 v0 U1.heap L0 ∧ FrameEnd U0 o0 U1 L0 ({ frames := 3, cells := 0, slots := 0, locals := 45 } : Room).cells ({ frames := 3, cells := 0, slots := 0, locals := 45 } : Room).slots) := by
  refine MetFree.of_bodySF (plainFor_of_name own_pn0) hisR ?_
  intro p e s m args below meth c s₁ Bd hml0 hP hK
  obtain ⟨rfl, hZ, hh⟩ := hP
  have hx := Bd.exec
  have hby := Bd.bytes
  have hml : c.maxLocals = 6 := hml0
  have hown : s.vm.findClass "com/example/ovrdue/ovrdue/keyspace/DeadlineIndex" = some m.cls := findClass_of_methodNamed Bd.named
  have hnm := (name_of_methodNamed Bd.named Bd.method).1
  have X0 : Stand p l e ({ frames := 3, cells := 0, slots := 0, locals := 45 } : Room) s m #[(.ref ix), (.ref en), (.long d)] below meth c s₁ [] 0 0 := Stand.of_body Bd
  have e0 : s₁.heap = h0 := by rw [← hh, Bd.state]; rfl
  have N0 := Fr.nil n0
  show own_Go p e below s (own_set_Q Z ix en d t k es dl h0 n0) 0 0 s₁ (entryFrame m #[(.ref ix), (.ref en), (.long d)] 6)
  rw [show entryFrame m #[(.ref ix), (.ref en), (.long d)] 6 = mkF m 0 #[.val (.ref ix), .val (.ref en), .val (.long d), .second, .unset, .unset] [] from by first | (simp [entryFrame, mkF, argsToLocals, Value.category]; done) | rfl]
  have G0 : h0.size ≤ h0.size := Nat.le_refl _
  refine own_st (T' := s₁) (g' := (mkF m 1 #[.val (.ref ix), .val (.ref en), .val (.long d), .second, .unset, .unset] [(.long d)])) (fun _ k => XS.lloadN X0.here hx rfl (hb hby d4_0) rfl k) ?_
  refine own_st (T' := s₁) (g' := (mkF m 4 #[.val (.ref ix), .val (.ref en), .val (.long d), .second, .unset, .unset] [(.long (-9223372036854775808 : Int64)), (.long d)])) (X0.ldc2Long hx hown (mvT hZ (hw _ (List.mem_of_getElem? (i := 33) rfl))) (g := (mkF m 1 #[.val (.ref ix), .val (.ref en), .val (.long d), .second, .unset, .unset] [(.long d)])) rfl (hb hby d4_1)) ?_
  refine own_st (T' := s₁) (g' := (mkF m 5 #[.val (.ref ix), .val (.ref en), .val (.long d), .second, .unset, .unset] [(.int (lcmpW d (-9223372036854775808 : Int64)))])) (fun _ k => XS.lcmp X0.here hx rfl (hb hby d4_4) rfl k) ?_
  by_cases q0 : d = (-9223372036854775808 : Int64)
  · refine own_st (T' := s₁) (g' := (mkF m 8 #[.val (.ref ix), .val (.ref en), .val (.long d), .second, .unset, .unset] [])) (fun _ k => XS.ifNo X0.here hx rfl (hb hby d4_5) rfl (Jvm.Free.XT.i0_ne_f ((lw_eq d (-9223372036854775808 : Int64)).mpr q0)) k) ?_
    refine own_st (T' := s₁) (g' := (mkF m 9 #[.val (.ref ix), .val (.ref en), .val (.long d), .second, .unset, .unset] [(.ref ix)])) (fun _ k => XS.aloadN X0.here hx rfl (hb hby d4_8) rfl rfl k) ?_
    refine own_st (T' := s₁) (g' := (mkF m 10 #[.val (.ref ix), .val (.ref en), .val (.long d), .second, .unset, .unset] [(.ref en), (.ref ix)])) (fun _ k => XS.aloadN X0.here hx rfl (hb hby d4_9) rfl rfl k) ?_
    obtain ⟨cq130, q130, q130'⟩ := (Ix.choose_spec.choose_spec.choose_spec.choose_spec).1.1.cell
    obtain ⟨_, _, ⟨T130, L130, k130, n130⟩, -, X130, ⟨Lc130, hQ130, l130, y130, z130⟩, st130⟩ := X0.privateBack hx (y := (⟨"com/example/ovrdue/ovrdue/keyspace/DeadlineIndex", "remove", "(Lcom/example/ovrdue/ovrdue/keyspace/Entry;)V"⟩ : MethodName)) hown (mvT hZ (hw _ (List.mem_of_getElem? (i := 71) rfl))) (mvT hZ (hw _ (List.mem_of_getElem? (i := 72) rfl))) (own_selP hZ (hw _ (List.mem_of_getElem? (i := 2) rfl)) (hw _ (List.mem_of_getElem? (i := 73) rfl)) (hw _ (List.mem_of_getElem? (i := 72) rfl)) (by decide)) (Cond.privateMethod_at (mvP hZ (hw _ (List.mem_of_getElem? (i := 73) rfl)) (args := #[]))) (mvT hZ (hw _ (List.mem_of_getElem? (i := 74) rfl))) (by decide) (backOf (W := 0) (own_rem l Z a0 hw [] ix en t k es dl h0 n0 Z0 D D3 Ix hen) hZ (hw _ (List.mem_of_getElem? (i := 74) rfl)) (hw _ (List.mem_of_getElem? (i := 3) rfl)) (by decide) (by decide)) (g := (mkF m 10 #[.val (.ref ix), .val (.ref en), .val (.long d), .second, .unset, .unset] [(.ref en), (.ref ix)])) rfl (by rw [hml]; rfl) (Steps.refl _) (a := ix) (by first | exact q130 | (rw [e0]; exact q130)) q130' (argsL := [(.ref en)]) (rest := []) (lenOf own_pd2 rfl) rfl (by show 2 * 0 + _ ≤ _; exact Nat.le_of_eq rfl) (hb hby d4_10) (fun _ _ => ⟨rfl, e0, (by decide : 0 + 0 ≤ _), (by decide : 0 + 0 ≤ _)⟩)
    dsimp only [Pt.U, Pt.locs, Pt.cells, Pt.slots] at X130 l130 y130 z130 st130 hQ130
    subst l130 y130 z130
    obtain ⟨rfl, N130q, K130, Ix⟩ := hQ130
    have N0' := Fr.app N0 N130q
    have Z0' := Nat.le_trans Z0 K130
    have G0' := Nat.le_trans G0 K130
    refine own_tr (T' := T130) (g' := (mkF m 13 #[.val (.ref ix), .val (.ref en), .val (.long d), .second, .unset, .unset] [])) st130 ?_
    refine own_st (T' := T130) (g' := (mkF m 71 #[.val (.ref ix), .val (.ref en), .val (.long d), .second, .unset, .unset] [])) (fun _ k => XS.goto X130.here hx rfl (pc0 := 13) (pc' := 71) rfl (hb hby d4_13) (by decide) (by decide) k) ?_
    exact own_ret0 X130 hx Bd.returns Bd.notSynchronized rfl (hb hby d4_71) ⟨rfl, N0', G0', by rw [q0]; exact Ix⟩ (by decide) (by decide)
  · refine own_st (T' := s₁) (g' := (mkF m 16 #[.val (.ref ix), .val (.ref en), .val (.long d), .second, .unset, .unset] [])) (fun _ k => XS.ifYes X0.here hx rfl (pc0 := 5) (pc' := 16) rfl (hb hby d4_5) rfl (Jvm.Free.XT.i0_ne_t (mt (lw_eq d (-9223372036854775808 : Int64)).mp q0)) (by decide) (by decide) k) ?_
    obtain ⟨xs, f, pl, n, St, Iv, Mm⟩ := Ix
    refine own_st (T' := s₁) (g' := (mkF m 17 #[.val (.ref ix), .val (.ref en), .val (.long d), .second, .unset, .unset] [(.ref en)])) (fun _ k => XS.aloadN X0.here hx rfl (hb hby d4_16) rfl rfl k) ?_
    obtain ⟨cq131, kq131, q131a, q131b, q131c⟩ := isOf hZ e0 (St.2.2.2.2 en hen).1
    obtain ⟨_, _, ⟨T131, L131, k131, n131⟩, -, X131, ⟨Lc131, hQ131, l131, y131, z131⟩, st131⟩ := X0.virtualBack hx (y := (⟨"com/example/ovrdue/ovrdue/keyspace/Entry", "hasDeadline", "()Z"⟩ : MethodName)) (z := (⟨"com/example/ovrdue/ovrdue/keyspace/Entry", "hasDeadline", "()Z"⟩ : MethodName)) hown (mvT hZ (hw _ (List.mem_of_getElem? (i := 34) rfl))) (mvT hZ (hw _ (List.mem_of_getElem? (i := 35) rfl))) (notFace_of_selects (args := #[]) (mvT hZ (hw _ (List.mem_of_getElem? (i := 37) rfl)))) (mvT hZ (hw _ (List.mem_of_getElem? (i := 37) rfl))) (mvT hZ (hw _ (List.mem_of_getElem? (i := 36) rfl))) (by decide) (backOf (W := 0) (own_has l Z a0 hw [] en (dl en) h0 n0 Z0 (St.2.2.2.2 en hen).2.1) hZ (hw _ (List.mem_of_getElem? (i := 38) rfl)) (hw _ (List.mem_of_getElem? (i := 16) rfl)) (by decide) (by decide)) q131a q131c (g := (mkF m 17 #[.val (.ref ix), .val (.ref en), .val (.long d), .second, .unset, .unset] [(.ref en)])) rfl (by rw [hml]; rfl) (Steps.refl _) (argsL := []) (rest := []) (lenOf own_pd1 rfl) rfl (by show 2 * 0 + _ ≤ _; exact Nat.le_of_eq rfl) (hb hby d4_17) (fun _ _ => ⟨rfl, e0, (by decide : 0 + 0 ≤ _), (by decide : 0 + 0 ≤ _)⟩)
    dsimp only [Pt.U, Pt.locs, Pt.cells, Pt.slots] at X131 l131 y131 z131 st131 hQ131
    subst l131 y131 z131
    obtain ⟨rfl, N131q, e131⟩ := hQ131
    have N0' := Fr.app N0 N131q
    refine own_tr (T' := T131) (g' := (mkF m 20 #[.val (.ref ix), .val (.ref en), .val (.long d), .second, .unset, .unset] [(.int (if dl en = (-9223372036854775808 : Int64) then (0 : Int32) else 1))])) st131 ?_
    by_cases hmin : dl en = (-9223372036854775808 : Int64)
    · refine own_st (T' := T131) (g' := (mkF m 23 #[.val (.ref ix), .val (.ref en), .val (.long d), .second, .unset, .unset] [])) (fun _ k => XS.ifNo X131.here hx rfl (hb hby d4_20) rfl (Jvm.Free.XT.i0_ne_f (by simp [hmin])) k) ?_
      refine own_st (T' := T131) (g' := (mkF m 24 #[.val (.ref ix), .val (.ref en), .val (.long d), .second, .unset, .unset] [(.ref ix)])) (fun _ k => XS.aloadN X131.here hx rfl (hb hby d4_23) rfl rfl k) ?_
      refine own_st (T' := T131) (g' := (mkF m 25 #[.val (.ref ix), .val (.ref en), .val (.long d), .second, .unset, .unset] [(.ref en), (.ref ix)])) (fun _ k => XS.aloadN X131.here hx rfl (hb hby d4_24) rfl rfl k) ?_
      refine own_st (T' := T131) (g' := (mkF m 26 #[.val (.ref ix), .val (.ref en), .val (.long d), .second, .unset, .unset] [(.long d), (.ref en), (.ref ix)])) (fun _ k => XS.lloadN X131.here hx rfl (hb hby d4_25) rfl k) ?_
      obtain ⟨cq132, q132, q132'⟩ := St.1.cell
      obtain ⟨_, _, ⟨T132, L132, k132, n132⟩, -, X132, ⟨Lc132, hQ132, l132, y132, z132⟩, st132⟩ := X131.privateBack hx (y := (⟨"com/example/ovrdue/ovrdue/keyspace/DeadlineIndex", "add", "(Lcom/example/ovrdue/ovrdue/keyspace/Entry;J)V"⟩ : MethodName)) hown (mvT hZ (hw _ (List.mem_of_getElem? (i := 39) rfl))) (mvT hZ (hw _ (List.mem_of_getElem? (i := 40) rfl))) (own_selP hZ (hw _ (List.mem_of_getElem? (i := 2) rfl)) (hw _ (List.mem_of_getElem? (i := 41) rfl)) (hw _ (List.mem_of_getElem? (i := 40) rfl)) (by decide)) (Cond.privateMethod_at (mvP hZ (hw _ (List.mem_of_getElem? (i := 41) rfl)) (args := #[]))) (mvT hZ (hw _ (List.mem_of_getElem? (i := 42) rfl))) (by decide) (backOf (W := 0) (own_add l Z a0 hw [] ix en d t k es dl h0 n0 Z0 D D3 ⟨xs, f, pl, n, St, Iv, Mm⟩ hen q0 hmin) hZ (hw _ (List.mem_of_getElem? (i := 42) rfl)) (hw _ (List.mem_of_getElem? (i := 3) rfl)) (by decide) (by decide)) (g := (mkF m 26 #[.val (.ref ix), .val (.ref en), .val (.long d), .second, .unset, .unset] [(.long d), (.ref en), (.ref ix)])) rfl (by rw [hml]; rfl) (Steps.refl _) (a := ix) (by first | exact q132 | (rw [e131]; exact q132)) q132' (argsL := [(.ref en), (.long d)]) (rest := []) (lenOf own_pd3 rfl) rfl (by show 2 * 0 + _ ≤ _; exact Nat.le_of_eq rfl) (hb hby d4_26) (fun _ _ => ⟨rfl, e131, (by decide : (0 + 0) + 0 ≤ _), (by decide : (0 + 0) + 0 ≤ _)⟩)
      dsimp only [Pt.U, Pt.locs, Pt.cells, Pt.slots] at X132 l132 y132 z132 st132 hQ132
      subst l132 y132 z132
      obtain ⟨rfl, N132q, K132, Ix⟩ := hQ132
      have N0'' := Fr.app N0' N132q
      have Z0' := Nat.le_trans Z0 K132
      have G0' := Nat.le_trans G0 K132
      refine own_tr (T' := T132) (g' := (mkF m 29 #[.val (.ref ix), .val (.ref en), .val (.long d), .second, .unset, .unset] [])) st132 ?_
      refine own_st (T' := T132) (g' := (mkF m 71 #[.val (.ref ix), .val (.ref en), .val (.long d), .second, .unset, .unset] [])) (fun _ k => XS.goto X132.here hx rfl (pc0 := 29) (pc' := 71) rfl (hb hby d4_29) (by decide) (by decide) k) ?_
      exact own_ret0 X132 hx Bd.returns Bd.notSynchronized rfl (hb hby d4_71) ⟨rfl, N0'', G0', Ix⟩ (by decide) (by decide)
    · refine own_st (T' := T131) (g' := (mkF m 32 #[.val (.ref ix), .val (.ref en), .val (.long d), .second, .unset, .unset] [])) (fun _ k => XS.ifYes X131.here hx rfl (pc0 := 20) (pc' := 32) rfl (hb hby d4_20) rfl (Jvm.Free.XT.i0_ne_t (by simp [hmin])) (by decide) (by decide) k) ?_
      refine own_st (T' := T131) (g' := (mkF m 33 #[.val (.ref ix), .val (.ref en), .val (.long d), .second, .unset, .unset] [(.ref en)])) (fun _ k => XS.aloadN X131.here hx rfl (hb hby d4_32) rfl rfl k) ?_
      obtain ⟨T133, X133, e133, st133⟩ := getF X131 hx hZ hown (host := "") (Or.inl (hw _ (List.mem_of_getElem? (i := 45) rfl))) Via.refl e131 (St.2.2.2.2 en hen).2.1 (g := (mkF m 33 #[.val (.ref ix), .val (.ref en), .val (.long d), .second, .unset, .unset] [(.ref en)])) rfl rfl (hb hby d4_33)
      refine own_st (T' := T133) (g' := (mkF m 36 #[.val (.ref ix), .val (.ref en), .val (.long d), .second, .unset, .unset] [(.long (dl en))])) st133 ?_
      refine own_st (T' := T133) (g' := (mkF m 38 #[.val (.ref ix), .val (.ref en), .val (.long d), .second, .val (.long (dl en)), .second] [])) (fun _ k => XS.lstore X133.here hx rfl (hb hby d4_36) rfl (l' := #[.val (.ref ix), .val (.ref en), .val (.long d), .second, .val (.long (dl en)), .second]) rfl k) ?_
      refine own_st (T' := T133) (g' := (mkF m 39 #[.val (.ref ix), .val (.ref en), .val (.long d), .second, .val (.long (dl en)), .second] [(.ref en)])) (fun _ k => XS.aloadN X133.here hx rfl (hb hby d4_38) rfl rfl k) ?_
      refine own_st (T' := T133) (g' := (mkF m 40 #[.val (.ref ix), .val (.ref en), .val (.long d), .second, .val (.long (dl en)), .second] [(.long d), (.ref en)])) (fun _ k => XS.lloadN X133.here hx rfl (hb hby d4_39) rfl k) ?_
      obtain ⟨T134, h134, X134, e134, W134, st134⟩ := putF X133 hx hZ hown (host := "") (Or.inl (hw _ (List.mem_of_getElem? (i := 45) rfl))) Via.refl e133 (St.2.2.2.2 en hen).2.1 (St.2.2.2.2 en hen).1 (Or.inl (hw _ (List.mem_of_getElem? (i := 23) rfl))) (hw _ (List.mem_of_getElem? (i := 15) rfl)) (ty := .long) (by decide) rfl rfl (g := (mkF m 40 #[.val (.ref ix), .val (.ref en), .val (.long d), .second, .val (.long (dl en)), .second] [(.long d), (.ref en)])) rfl rfl (hb hby d4_40)
      have Z0' := Nat.le_trans Z0 (Keep.of_wr W134).1
      have G0' := Nat.le_trans G0 (Keep.of_wr W134).1
      have N0'' := Fr.snoc X134 N0' (D.2.2.2.2.1 en hen).2.2
      have St := St.wDl D hen W134
      refine own_st (T' := T134) (g' := (mkF m 43 #[.val (.ref ix), .val (.ref en), .val (.long d), .second, .val (.long (dl en)), .second] [])) st134 ?_
      refine own_st (T' := T134) (g' := (mkF m 44 #[.val (.ref ix), .val (.ref en), .val (.long d), .second, .val (.long (dl en)), .second] [(.long d)])) (fun _ k => XS.lloadN X134.here hx rfl (hb hby d4_43) rfl k) ?_
      refine own_st (T' := T134) (g' := (mkF m 46 #[.val (.ref ix), .val (.ref en), .val (.long d), .second, .val (.long (dl en)), .second] [(.long (dl en)), (.long d)])) (fun _ k => XS.lload X134.here hx rfl (hb hby d4_44) rfl k) ?_
      refine own_st (T' := T134) (g' := (mkF m 47 #[.val (.ref ix), .val (.ref en), .val (.long d), .second, .val (.long (dl en)), .second] [(.int (lcmpW d (dl en)))])) (fun _ k => XS.lcmp X134.here hx rfl (hb hby d4_46) rfl k) ?_
      have hin := (Mm.2 en hen).mpr hmin
      rcases Iv with ⟨rfl, rfl⟩ | ⟨x0, rfl, rfl, hf0, hp0⟩ | ⟨x0, x1, rfl, rfl, hf0, hf1, hp0, hp1, n01, l01⟩ | ⟨x0, x1, x2, rfl, rfl, hf0, hf1, hf2, hp0, hp1, hp2, n01, n02, n12, l01, l02⟩
      · simp at hin
      · have hx0 := Mm.1 x0 (by simp)
        simp at hin
        subst hin
        have Fp := (St.2.2.2.2 en hen).2.2
        rw [hp0] at Fp
        by_cases qb : d < (dl en)
        · refine own_st (T' := T134) (g' := (mkF m 50 #[.val (.ref ix), .val (.ref en), .val (.long d), .second, .val (.long (dl en)), .second] [])) (fun _ k => XS.ifNo X134.here hx rfl (hb hby d4_47) rfl (Jvm.Free.XT.i0_ge_f ((lw_lt d (dl en)).mpr qb)) k) ?_
          refine own_st (T' := T134) (g' := (mkF m 51 #[.val (.ref ix), .val (.ref en), .val (.long d), .second, .val (.long (dl en)), .second] [(.ref ix)])) (fun _ k => XS.aloadN X134.here hx rfl (hb hby d4_50) rfl rfl k) ?_
          refine own_st (T' := T134) (g' := (mkF m 52 #[.val (.ref ix), .val (.ref en), .val (.long d), .second, .val (.long (dl en)), .second] [(.ref en), (.ref ix)])) (fun _ k => XS.aloadN X134.here hx rfl (hb hby d4_51) rfl rfl k) ?_
          refine own_st (T' := T134) (g' := (mkF m 53 #[.val (.ref ix), .val (.ref en), .val (.long d), .second, .val (.long (dl en)), .second] [(.ref en), (.ref en), (.ref ix)])) (fun _ k => XS.aloadN X134.here hx rfl (hb hby d4_52) rfl rfl k) ?_
          obtain ⟨T135, X135, e135, st135⟩ := getF X134 hx hZ hown (host := "") (Or.inl (hw _ (List.mem_of_getElem? (i := 55) rfl))) Via.refl e134 Fp (g := (mkF m 53 #[.val (.ref ix), .val (.ref en), .val (.long d), .second, .val (.long (dl en)), .second] [(.ref en), (.ref en), (.ref ix)])) rfl rfl (hb hby d4_53)
          refine own_st (T' := T135) (g' := (mkF m 56 #[.val (.ref ix), .val (.ref en), .val (.long d), .second, .val (.long (dl en)), .second] [(.int (0 : Int32)), (.ref en), (.ref ix)])) st135 ?_
          obtain ⟨cq136, q136, q136'⟩ := St.1.cell
          obtain ⟨_, _, ⟨T136, L136, k136, n136⟩, -, X136, ⟨Lc136, hQ136, l136, y136, z136⟩, st136⟩ := X135.privateBack hx (y := (⟨"com/example/ovrdue/ovrdue/keyspace/DeadlineIndex", "siftUp", "(Lcom/example/ovrdue/ovrdue/keyspace/Entry;I)V"⟩ : MethodName)) hown (mvT hZ (hw _ (List.mem_of_getElem? (i := 46) rfl))) (mvT hZ (hw _ (List.mem_of_getElem? (i := 47) rfl))) (own_selP hZ (hw _ (List.mem_of_getElem? (i := 2) rfl)) (hw _ (List.mem_of_getElem? (i := 48) rfl)) (hw _ (List.mem_of_getElem? (i := 47) rfl)) (by decide)) (Cond.privateMethod_at (mvP hZ (hw _ (List.mem_of_getElem? (i := 48) rfl)) (args := #[]))) (mvT hZ (hw _ (List.mem_of_getElem? (i := 49) rfl))) (by decide) (backOf (W := 0) (own_upA l Z a0 hw [] ix en (0 : Int32) t k es (1 : Int32) f (own_upd dl en d) pl 0 en h134 n0 Z0' D St hen (by decide) (by decide) (fun u => absurd rfl u)) hZ (hw _ (List.mem_of_getElem? (i := 49) rfl)) (hw _ (List.mem_of_getElem? (i := 3) rfl)) (by decide) (by decide)) (g := (mkF m 56 #[.val (.ref ix), .val (.ref en), .val (.long d), .second, .val (.long (dl en)), .second] [(.int (0 : Int32)), (.ref en), (.ref ix)])) rfl (by rw [hml]; rfl) (Steps.refl _) (a := ix) (by first | exact q136 | (rw [e135]; exact q136)) q136' (argsL := [(.ref en), (.int (0 : Int32))]) (rest := []) (lenOf own_pd0 rfl) rfl (by show 2 * 0 + _ ≤ _; exact Nat.le_of_eq rfl) (hb hby d4_56) (fun _ _ => ⟨rfl, e135, (by decide : (0 + 0) + 0 ≤ _), (by decide : (0 + 0) + 0 ≤ _)⟩)
          dsimp only [Pt.U, Pt.locs, Pt.cells, Pt.slots] at X136 l136 y136 z136 st136 hQ136
          subst l136 y136 z136
          obtain ⟨rfl, N136q, K136, St⟩ := hQ136
          have N0''' := Fr.app N0'' N136q
          have Z0'' := Nat.le_trans Z0' K136
          have G0'' := Nat.le_trans G0' K136
          refine own_tr (T' := T136) (g' := (mkF m 59 #[.val (.ref ix), .val (.ref en), .val (.long d), .second, .val (.long (dl en)), .second] [])) st136 ?_
          refine own_st (T' := T136) (g' := (mkF m 71 #[.val (.ref ix), .val (.ref en), .val (.long d), .second, .val (.long (dl en)), .second] [])) (fun _ k => XS.goto X136.here hx rfl (pc0 := 59) (pc' := 71) rfl (hb hby d4_59) (by decide) (by decide) k) ?_
          exact own_ret0 X136 hx Bd.returns Bd.notSynchronized rfl (hb hby d4_71) ⟨rfl, N0''', G0'', [en], _, _, _, St, Or.inr (Or.inl ⟨_, rfl, rfl, by simp [hf0], by simp [own_upd, hp0]⟩), own_mem_add Mm hen q0 (fun x => by simp; try grind)⟩ (by decide) (by decide)
        · refine own_st (T' := T134) (g' := (mkF m 62 #[.val (.ref ix), .val (.ref en), .val (.long d), .second, .val (.long (dl en)), .second] [])) (fun _ k => XS.ifYes X134.here hx rfl (pc0 := 47) (pc' := 62) rfl (hb hby d4_47) rfl (Jvm.Free.XT.i0_ge_t (mt (lw_lt d (dl en)).mp qb)) (by decide) (by decide) k) ?_
          refine own_st (T' := T134) (g' := (mkF m 63 #[.val (.ref ix), .val (.ref en), .val (.long d), .second, .val (.long (dl en)), .second] [(.ref ix)])) (fun _ k => XS.aloadN X134.here hx rfl (hb hby d4_62) rfl rfl k) ?_
          refine own_st (T' := T134) (g' := (mkF m 64 #[.val (.ref ix), .val (.ref en), .val (.long d), .second, .val (.long (dl en)), .second] [(.ref en), (.ref ix)])) (fun _ k => XS.aloadN X134.here hx rfl (hb hby d4_63) rfl rfl k) ?_
          refine own_st (T' := T134) (g' := (mkF m 65 #[.val (.ref ix), .val (.ref en), .val (.long d), .second, .val (.long (dl en)), .second] [(.ref en), (.ref en), (.ref ix)])) (fun _ k => XS.aloadN X134.here hx rfl (hb hby d4_64) rfl rfl k) ?_
          obtain ⟨T137, X137, e137, st137⟩ := getF X134 hx hZ hown (host := "") (Or.inl (hw _ (List.mem_of_getElem? (i := 55) rfl))) Via.refl e134 Fp (g := (mkF m 65 #[.val (.ref ix), .val (.ref en), .val (.long d), .second, .val (.long (dl en)), .second] [(.ref en), (.ref en), (.ref ix)])) rfl rfl (hb hby d4_65)
          refine own_st (T' := T137) (g' := (mkF m 68 #[.val (.ref ix), .val (.ref en), .val (.long d), .second, .val (.long (dl en)), .second] [(.int (0 : Int32)), (.ref en), (.ref ix)])) st137 ?_
          obtain ⟨cq138, q138, q138'⟩ := St.1.cell
          obtain ⟨_, _, ⟨T138, L138, k138, n138⟩, -, X138, ⟨Lc138, hQ138, l138, y138, z138⟩, st138⟩ := X137.privateBack hx (y := (⟨"com/example/ovrdue/ovrdue/keyspace/DeadlineIndex", "siftDown", "(Lcom/example/ovrdue/ovrdue/keyspace/Entry;I)V"⟩ : MethodName)) hown (mvT hZ (hw _ (List.mem_of_getElem? (i := 57) rfl))) (mvT hZ (hw _ (List.mem_of_getElem? (i := 58) rfl))) (own_selP hZ (hw _ (List.mem_of_getElem? (i := 2) rfl)) (hw _ (List.mem_of_getElem? (i := 59) rfl)) (hw _ (List.mem_of_getElem? (i := 58) rfl)) (by decide)) (Cond.privateMethod_at (mvP hZ (hw _ (List.mem_of_getElem? (i := 59) rfl)) (args := #[]))) (mvT hZ (hw _ (List.mem_of_getElem? (i := 60) rfl))) (by decide) (backOf (W := 0) (own_dnA l Z a0 hw [] ix en (0 : Int32) t k es (1 : Int32) f (own_upd dl en d) pl 0 h134 n0 Z0' D St hen (by decide) (by decide) (by decide)) hZ (hw _ (List.mem_of_getElem? (i := 60) rfl)) (hw _ (List.mem_of_getElem? (i := 3) rfl)) (by decide) (by decide)) (g := (mkF m 68 #[.val (.ref ix), .val (.ref en), .val (.long d), .second, .val (.long (dl en)), .second] [(.int (0 : Int32)), (.ref en), (.ref ix)])) rfl (by rw [hml]; rfl) (Steps.refl _) (a := ix) (by first | exact q138 | (rw [e137]; exact q138)) q138' (argsL := [(.ref en), (.int (0 : Int32))]) (rest := []) (lenOf own_pd0 rfl) rfl (by show 2 * 0 + _ ≤ _; exact Nat.le_of_eq rfl) (hb hby d4_68) (fun _ _ => ⟨rfl, e137, (by decide : (0 + 0) + 0 ≤ _), (by decide : (0 + 0) + 0 ≤ _)⟩)
          dsimp only [Pt.U, Pt.locs, Pt.cells, Pt.slots] at X138 l138 y138 z138 st138 hQ138
          subst l138 y138 z138
          obtain ⟨rfl, N138q, K138, St⟩ := hQ138
          have N0''' := Fr.app N0'' N138q
          have Z0'' := Nat.le_trans Z0' K138
          have G0'' := Nat.le_trans G0' K138
          refine own_tr (T' := T138) (g' := (mkF m 71 #[.val (.ref ix), .val (.ref en), .val (.long d), .second, .val (.long (dl en)), .second] [])) st138 ?_
          exact own_ret0 X138 hx Bd.returns Bd.notSynchronized rfl (hb hby d4_71) ⟨rfl, N0''', G0'', [en], _, _, _, St, Or.inr (Or.inl ⟨_, rfl, rfl, by simp [hf0], by simp [own_upd, hp0]⟩), own_mem_add Mm hen q0 (fun x => by simp; try grind)⟩ (by decide) (by decide)
      · have hx0 := Mm.1 x0 (by simp)
        have hx1 := Mm.1 x1 (by simp)
        simp at hin
        rcases hin with rfl | rfl
        · have Fp := (St.2.2.2.2 en hen).2.2
          rw [hp0] at Fp
          by_cases qb : d < (dl en)
          · refine own_st (T' := T134) (g' := (mkF m 50 #[.val (.ref ix), .val (.ref en), .val (.long d), .second, .val (.long (dl en)), .second] [])) (fun _ k => XS.ifNo X134.here hx rfl (hb hby d4_47) rfl (Jvm.Free.XT.i0_ge_f ((lw_lt d (dl en)).mpr qb)) k) ?_
            refine own_st (T' := T134) (g' := (mkF m 51 #[.val (.ref ix), .val (.ref en), .val (.long d), .second, .val (.long (dl en)), .second] [(.ref ix)])) (fun _ k => XS.aloadN X134.here hx rfl (hb hby d4_50) rfl rfl k) ?_
            refine own_st (T' := T134) (g' := (mkF m 52 #[.val (.ref ix), .val (.ref en), .val (.long d), .second, .val (.long (dl en)), .second] [(.ref en), (.ref ix)])) (fun _ k => XS.aloadN X134.here hx rfl (hb hby d4_51) rfl rfl k) ?_
            refine own_st (T' := T134) (g' := (mkF m 53 #[.val (.ref ix), .val (.ref en), .val (.long d), .second, .val (.long (dl en)), .second] [(.ref en), (.ref en), (.ref ix)])) (fun _ k => XS.aloadN X134.here hx rfl (hb hby d4_52) rfl rfl k) ?_
            obtain ⟨T139, X139, e139, st139⟩ := getF X134 hx hZ hown (host := "") (Or.inl (hw _ (List.mem_of_getElem? (i := 55) rfl))) Via.refl e134 Fp (g := (mkF m 53 #[.val (.ref ix), .val (.ref en), .val (.long d), .second, .val (.long (dl en)), .second] [(.ref en), (.ref en), (.ref ix)])) rfl rfl (hb hby d4_53)
            refine own_st (T' := T139) (g' := (mkF m 56 #[.val (.ref ix), .val (.ref en), .val (.long d), .second, .val (.long (dl en)), .second] [(.int (0 : Int32)), (.ref en), (.ref ix)])) st139 ?_
            obtain ⟨cq140, q140, q140'⟩ := St.1.cell
            obtain ⟨_, _, ⟨T140, L140, k140, n140⟩, -, X140, ⟨Lc140, hQ140, l140, y140, z140⟩, st140⟩ := X139.privateBack hx (y := (⟨"com/example/ovrdue/ovrdue/keyspace/DeadlineIndex", "siftUp", "(Lcom/example/ovrdue/ovrdue/keyspace/Entry;I)V"⟩ : MethodName)) hown (mvT hZ (hw _ (List.mem_of_getElem? (i := 46) rfl))) (mvT hZ (hw _ (List.mem_of_getElem? (i := 47) rfl))) (own_selP hZ (hw _ (List.mem_of_getElem? (i := 2) rfl)) (hw _ (List.mem_of_getElem? (i := 48) rfl)) (hw _ (List.mem_of_getElem? (i := 47) rfl)) (by decide)) (Cond.privateMethod_at (mvP hZ (hw _ (List.mem_of_getElem? (i := 48) rfl)) (args := #[]))) (mvT hZ (hw _ (List.mem_of_getElem? (i := 49) rfl))) (by decide) (backOf (W := 0) (own_upA l Z a0 hw [] ix en (0 : Int32) t k es (2 : Int32) f (own_upd dl en d) pl 0 en h134 n0 Z0' D St hen (by decide) (by decide) (fun u => absurd rfl u)) hZ (hw _ (List.mem_of_getElem? (i := 49) rfl)) (hw _ (List.mem_of_getElem? (i := 3) rfl)) (by decide) (by decide)) (g := (mkF m 56 #[.val (.ref ix), .val (.ref en), .val (.long d), .second, .val (.long (dl en)), .second] [(.int (0 : Int32)), (.ref en), (.ref ix)])) rfl (by rw [hml]; rfl) (Steps.refl _) (a := ix) (by first | exact q140 | (rw [e139]; exact q140)) q140' (argsL := [(.ref en), (.int (0 : Int32))]) (rest := []) (lenOf own_pd0 rfl) rfl (by show 2 * 0 + _ ≤ _; exact Nat.le_of_eq rfl) (hb hby d4_56) (fun _ _ => ⟨rfl, e139, (by decide : (0 + 0) + 0 ≤ _), (by decide : (0 + 0) + 0 ≤ _)⟩)
            dsimp only [Pt.U, Pt.locs, Pt.cells, Pt.slots] at X140 l140 y140 z140 st140 hQ140
            subst l140 y140 z140
            obtain ⟨rfl, N140q, K140, St⟩ := hQ140
            have N0''' := Fr.app N0'' N140q
            have Z0'' := Nat.le_trans Z0' K140
            have G0'' := Nat.le_trans G0' K140
            refine own_tr (T' := T140) (g' := (mkF m 59 #[.val (.ref ix), .val (.ref en), .val (.long d), .second, .val (.long (dl en)), .second] [])) st140 ?_
            refine own_st (T' := T140) (g' := (mkF m 71 #[.val (.ref ix), .val (.ref en), .val (.long d), .second, .val (.long (dl en)), .second] [])) (fun _ k => XS.goto X140.here hx rfl (pc0 := 59) (pc' := 71) rfl (hb hby d4_59) (by decide) (by decide) k) ?_
            exact own_ret0 X140 hx Bd.returns Bd.notSynchronized rfl (hb hby d4_71) ⟨rfl, N0''', G0'', [en, x1], _, _, _, St, Or.inr (Or.inr (Or.inl ⟨_, _, rfl, rfl, by simp [hf0, hf1], by simp [hf0, hf1], by simp [own_upd, hp0, hp1, n01, Ne.symm n01], by simp [own_upd, hp0, hp1, n01, Ne.symm n01], by first | assumption | (symm; assumption), by simp [own_upd, n01, Ne.symm n01, Int64.le_iff_toInt_le, Int64.lt_iff_toInt_lt] at l01 qb ⊢ <;> omega⟩)), own_mem_add Mm hen q0 (fun x => by simp; try grind)⟩ (by decide) (by decide)
          · refine own_st (T' := T134) (g' := (mkF m 62 #[.val (.ref ix), .val (.ref en), .val (.long d), .second, .val (.long (dl en)), .second] [])) (fun _ k => XS.ifYes X134.here hx rfl (pc0 := 47) (pc' := 62) rfl (hb hby d4_47) rfl (Jvm.Free.XT.i0_ge_t (mt (lw_lt d (dl en)).mp qb)) (by decide) (by decide) k) ?_
            refine own_st (T' := T134) (g' := (mkF m 63 #[.val (.ref ix), .val (.ref en), .val (.long d), .second, .val (.long (dl en)), .second] [(.ref ix)])) (fun _ k => XS.aloadN X134.here hx rfl (hb hby d4_62) rfl rfl k) ?_
            refine own_st (T' := T134) (g' := (mkF m 64 #[.val (.ref ix), .val (.ref en), .val (.long d), .second, .val (.long (dl en)), .second] [(.ref en), (.ref ix)])) (fun _ k => XS.aloadN X134.here hx rfl (hb hby d4_63) rfl rfl k) ?_
            refine own_st (T' := T134) (g' := (mkF m 65 #[.val (.ref ix), .val (.ref en), .val (.long d), .second, .val (.long (dl en)), .second] [(.ref en), (.ref en), (.ref ix)])) (fun _ k => XS.aloadN X134.here hx rfl (hb hby d4_64) rfl rfl k) ?_
            obtain ⟨T141, X141, e141, st141⟩ := getF X134 hx hZ hown (host := "") (Or.inl (hw _ (List.mem_of_getElem? (i := 55) rfl))) Via.refl e134 Fp (g := (mkF m 65 #[.val (.ref ix), .val (.ref en), .val (.long d), .second, .val (.long (dl en)), .second] [(.ref en), (.ref en), (.ref ix)])) rfl rfl (hb hby d4_65)
            refine own_st (T' := T141) (g' := (mkF m 68 #[.val (.ref ix), .val (.ref en), .val (.long d), .second, .val (.long (dl en)), .second] [(.int (0 : Int32)), (.ref en), (.ref ix)])) st141 ?_
            by_cases qc : own_upd dl en d x1 < own_upd dl en d en
            · obtain ⟨cq142, q142, q142'⟩ := St.1.cell
              obtain ⟨_, _, ⟨T142, L142, k142, n142⟩, -, X142, ⟨Lc142, hQ142, l142, y142, z142⟩, st142⟩ := X141.privateBack hx (y := (⟨"com/example/ovrdue/ovrdue/keyspace/DeadlineIndex", "siftDown", "(Lcom/example/ovrdue/ovrdue/keyspace/Entry;I)V"⟩ : MethodName)) hown (mvT hZ (hw _ (List.mem_of_getElem? (i := 57) rfl))) (mvT hZ (hw _ (List.mem_of_getElem? (i := 58) rfl))) (own_selP hZ (hw _ (List.mem_of_getElem? (i := 2) rfl)) (hw _ (List.mem_of_getElem? (i := 59) rfl)) (hw _ (List.mem_of_getElem? (i := 58) rfl)) (by decide)) (Cond.privateMethod_at (mvP hZ (hw _ (List.mem_of_getElem? (i := 59) rfl)) (args := #[]))) (mvT hZ (hw _ (List.mem_of_getElem? (i := 60) rfl))) (by decide) (backOf (W := 0) (own_dnM l Z a0 hw [] ix en t k es (2 : Int32) f (own_upd dl en d) pl (1 : Int32) 1 x1 h134 n0 Z0' D St hen hx1 (by decide) (by decide) (by decide) (by decide) hf1 (Or.inl ⟨rfl, rfl, rfl⟩) qc) hZ (hw _ (List.mem_of_getElem? (i := 60) rfl)) (hw _ (List.mem_of_getElem? (i := 3) rfl)) (by decide) (by decide)) (g := (mkF m 68 #[.val (.ref ix), .val (.ref en), .val (.long d), .second, .val (.long (dl en)), .second] [(.int (0 : Int32)), (.ref en), (.ref ix)])) rfl (by rw [hml]; rfl) (Steps.refl _) (a := ix) (by first | exact q142 | (rw [e141]; exact q142)) q142' (argsL := [(.ref en), (.int (0 : Int32))]) (rest := []) (lenOf own_pd0 rfl) rfl (by show 2 * 0 + _ ≤ _; exact Nat.le_of_eq rfl) (hb hby d4_68) (fun _ _ => ⟨rfl, e141, (by decide : (0 + 0) + 0 ≤ _), (by decide : (0 + 0) + 0 ≤ _)⟩)
              dsimp only [Pt.U, Pt.locs, Pt.cells, Pt.slots] at X142 l142 y142 z142 st142 hQ142
              subst l142 y142 z142
              obtain ⟨rfl, N142q, K142, St⟩ := hQ142
              have N0''' := Fr.app N0'' N142q
              have Z0'' := Nat.le_trans Z0' K142
              have G0'' := Nat.le_trans G0' K142
              refine own_tr (T' := T142) (g' := (mkF m 71 #[.val (.ref ix), .val (.ref en), .val (.long d), .second, .val (.long (dl en)), .second] [])) st142 ?_
              exact own_ret0 X142 hx Bd.returns Bd.notSynchronized rfl (hb hby d4_71) ⟨rfl, N0''', G0'', [x1, en], _, _, _, St, Or.inr (Or.inr (Or.inl ⟨_, _, rfl, rfl, by simp [hf0, hf1], by simp [hf0, hf1], by simp [own_upd, hp0, hp1, n01, Ne.symm n01], by simp [own_upd, hp0, hp1, n01, Ne.symm n01], by first | assumption | (symm; assumption), by simp [own_upd, n01, Ne.symm n01, Int64.le_iff_toInt_le, Int64.lt_iff_toInt_lt] at l01 qb qc ⊢ <;> omega⟩)), own_mem_add Mm hen q0 (fun x => by simp; try grind)⟩ (by decide) (by decide)
            · obtain ⟨cq143, q143, q143'⟩ := St.1.cell
              obtain ⟨_, _, ⟨T143, L143, k143, n143⟩, -, X143, ⟨Lc143, hQ143, l143, y143, z143⟩, st143⟩ := X141.privateBack hx (y := (⟨"com/example/ovrdue/ovrdue/keyspace/DeadlineIndex", "siftDown", "(Lcom/example/ovrdue/ovrdue/keyspace/Entry;I)V"⟩ : MethodName)) hown (mvT hZ (hw _ (List.mem_of_getElem? (i := 57) rfl))) (mvT hZ (hw _ (List.mem_of_getElem? (i := 58) rfl))) (own_selP hZ (hw _ (List.mem_of_getElem? (i := 2) rfl)) (hw _ (List.mem_of_getElem? (i := 59) rfl)) (hw _ (List.mem_of_getElem? (i := 58) rfl)) (by decide)) (Cond.privateMethod_at (mvP hZ (hw _ (List.mem_of_getElem? (i := 59) rfl)) (args := #[]))) (mvT hZ (hw _ (List.mem_of_getElem? (i := 60) rfl))) (by decide) (backOf (W := 0) (own_dnS l Z a0 hw [] ix en t k es (2 : Int32) f (own_upd dl en d) pl (1 : Int32) 1 x1 h134 n0 Z0' D St hen hx1 (by decide) (by decide) (by decide) (by decide) hf1 (Or.inl ⟨rfl, rfl, rfl⟩) qc) hZ (hw _ (List.mem_of_getElem? (i := 60) rfl)) (hw _ (List.mem_of_getElem? (i := 3) rfl)) (by decide) (by decide)) (g := (mkF m 68 #[.val (.ref ix), .val (.ref en), .val (.long d), .second, .val (.long (dl en)), .second] [(.int (0 : Int32)), (.ref en), (.ref ix)])) rfl (by rw [hml]; rfl) (Steps.refl _) (a := ix) (by first | exact q143 | (rw [e141]; exact q143)) q143' (argsL := [(.ref en), (.int (0 : Int32))]) (rest := []) (lenOf own_pd0 rfl) rfl (by show 2 * 0 + _ ≤ _; exact Nat.le_of_eq rfl) (hb hby d4_68) (fun _ _ => ⟨rfl, e141, (by decide : (0 + 0) + 0 ≤ _), (by decide : (0 + 0) + 0 ≤ _)⟩)
              dsimp only [Pt.U, Pt.locs, Pt.cells, Pt.slots] at X143 l143 y143 z143 st143 hQ143
              subst l143 y143 z143
              obtain ⟨rfl, N143q, K143, St⟩ := hQ143
              have N0''' := Fr.app N0'' N143q
              have Z0'' := Nat.le_trans Z0' K143
              have G0'' := Nat.le_trans G0' K143
              refine own_tr (T' := T143) (g' := (mkF m 71 #[.val (.ref ix), .val (.ref en), .val (.long d), .second, .val (.long (dl en)), .second] [])) st143 ?_
              exact own_ret0 X143 hx Bd.returns Bd.notSynchronized rfl (hb hby d4_71) ⟨rfl, N0''', G0'', [en, x1], _, _, _, St, Or.inr (Or.inr (Or.inl ⟨_, _, rfl, rfl, by simp [hf0, hf1], by simp [hf0, hf1], by simp [own_upd, hp0, hp1, n01, Ne.symm n01], by simp [own_upd, hp0, hp1, n01, Ne.symm n01], by first | assumption | (symm; assumption), by simp [own_upd, n01, Ne.symm n01, Int64.le_iff_toInt_le, Int64.lt_iff_toInt_lt] at l01 qb qc ⊢ <;> omega⟩)), own_mem_add Mm hen q0 (fun x => by simp; try grind)⟩ (by decide) (by decide)
        · have Fp := (St.2.2.2.2 en hen).2.2
          rw [hp1] at Fp
          by_cases qb : d < (dl en)
          · refine own_st (T' := T134) (g' := (mkF m 50 #[.val (.ref ix), .val (.ref en), .val (.long d), .second, .val (.long (dl en)), .second] [])) (fun _ k => XS.ifNo X134.here hx rfl (hb hby d4_47) rfl (Jvm.Free.XT.i0_ge_f ((lw_lt d (dl en)).mpr qb)) k) ?_
            refine own_st (T' := T134) (g' := (mkF m 51 #[.val (.ref ix), .val (.ref en), .val (.long d), .second, .val (.long (dl en)), .second] [(.ref ix)])) (fun _ k => XS.aloadN X134.here hx rfl (hb hby d4_50) rfl rfl k) ?_
            refine own_st (T' := T134) (g' := (mkF m 52 #[.val (.ref ix), .val (.ref en), .val (.long d), .second, .val (.long (dl en)), .second] [(.ref en), (.ref ix)])) (fun _ k => XS.aloadN X134.here hx rfl (hb hby d4_51) rfl rfl k) ?_
            refine own_st (T' := T134) (g' := (mkF m 53 #[.val (.ref ix), .val (.ref en), .val (.long d), .second, .val (.long (dl en)), .second] [(.ref en), (.ref en), (.ref ix)])) (fun _ k => XS.aloadN X134.here hx rfl (hb hby d4_52) rfl rfl k) ?_
            obtain ⟨T144, X144, e144, st144⟩ := getF X134 hx hZ hown (host := "") (Or.inl (hw _ (List.mem_of_getElem? (i := 55) rfl))) Via.refl e134 Fp (g := (mkF m 53 #[.val (.ref ix), .val (.ref en), .val (.long d), .second, .val (.long (dl en)), .second] [(.ref en), (.ref en), (.ref ix)])) rfl rfl (hb hby d4_53)
            refine own_st (T' := T144) (g' := (mkF m 56 #[.val (.ref ix), .val (.ref en), .val (.long d), .second, .val (.long (dl en)), .second] [(.int (1 : Int32)), (.ref en), (.ref ix)])) st144 ?_
            by_cases qc : own_upd dl en d en < own_upd dl en d x0
            · obtain ⟨cq145, q145, q145'⟩ := St.1.cell
              obtain ⟨_, _, ⟨T145, L145, k145, n145⟩, -, X145, ⟨Lc145, hQ145, l145, y145, z145⟩, st145⟩ := X144.privateBack hx (y := (⟨"com/example/ovrdue/ovrdue/keyspace/DeadlineIndex", "siftUp", "(Lcom/example/ovrdue/ovrdue/keyspace/Entry;I)V"⟩ : MethodName)) hown (mvT hZ (hw _ (List.mem_of_getElem? (i := 46) rfl))) (mvT hZ (hw _ (List.mem_of_getElem? (i := 47) rfl))) (own_selP hZ (hw _ (List.mem_of_getElem? (i := 2) rfl)) (hw _ (List.mem_of_getElem? (i := 48) rfl)) (hw _ (List.mem_of_getElem? (i := 47) rfl)) (by decide)) (Cond.privateMethod_at (mvP hZ (hw _ (List.mem_of_getElem? (i := 48) rfl)) (args := #[]))) (mvT hZ (hw _ (List.mem_of_getElem? (i := 49) rfl))) (by decide) (backOf (W := 0) (own_upB l Z a0 hw [] ix en (1 : Int32) t k es (2 : Int32) f (own_upd dl en d) pl 1 x0 h134 n0 Z0' D St hen hx0 (by decide) (by decide) hf0 qc) hZ (hw _ (List.mem_of_getElem? (i := 49) rfl)) (hw _ (List.mem_of_getElem? (i := 3) rfl)) (by decide) (by decide)) (g := (mkF m 56 #[.val (.ref ix), .val (.ref en), .val (.long d), .second, .val (.long (dl en)), .second] [(.int (1 : Int32)), (.ref en), (.ref ix)])) rfl (by rw [hml]; rfl) (Steps.refl _) (a := ix) (by first | exact q145 | (rw [e144]; exact q145)) q145' (argsL := [(.ref en), (.int (1 : Int32))]) (rest := []) (lenOf own_pd0 rfl) rfl (by show 2 * 0 + _ ≤ _; exact Nat.le_of_eq rfl) (hb hby d4_56) (fun _ _ => ⟨rfl, e144, (by decide : (0 + 0) + 0 ≤ _), (by decide : (0 + 0) + 0 ≤ _)⟩)
              dsimp only [Pt.U, Pt.locs, Pt.cells, Pt.slots] at X145 l145 y145 z145 st145 hQ145
              subst l145 y145 z145
              obtain ⟨rfl, N145q, K145, St⟩ := hQ145
              have N0''' := Fr.app N0'' N145q
              have Z0'' := Nat.le_trans Z0' K145
              have G0'' := Nat.le_trans G0' K145
              refine own_tr (T' := T145) (g' := (mkF m 59 #[.val (.ref ix), .val (.ref en), .val (.long d), .second, .val (.long (dl en)), .second] [])) st145 ?_
              refine own_st (T' := T145) (g' := (mkF m 71 #[.val (.ref ix), .val (.ref en), .val (.long d), .second, .val (.long (dl en)), .second] [])) (fun _ k => XS.goto X145.here hx rfl (pc0 := 59) (pc' := 71) rfl (hb hby d4_59) (by decide) (by decide) k) ?_
              exact own_ret0 X145 hx Bd.returns Bd.notSynchronized rfl (hb hby d4_71) ⟨rfl, N0''', G0'', [en, x0], _, _, _, St, Or.inr (Or.inr (Or.inl ⟨_, _, rfl, rfl, by simp [hf0, hf1], by simp [hf0, hf1], by simp [own_upd, hp0, hp1, n01, Ne.symm n01], by simp [own_upd, hp0, hp1, n01, Ne.symm n01], by first | assumption | (symm; assumption), by simp [own_upd, n01, Ne.symm n01, Int64.le_iff_toInt_le, Int64.lt_iff_toInt_lt] at l01 qb qc ⊢ <;> omega⟩)), own_mem_add Mm hen q0 (fun x => by simp; try grind)⟩ (by decide) (by decide)
            · obtain ⟨cq146, q146, q146'⟩ := St.1.cell
              obtain ⟨_, _, ⟨T146, L146, k146, n146⟩, -, X146, ⟨Lc146, hQ146, l146, y146, z146⟩, st146⟩ := X144.privateBack hx (y := (⟨"com/example/ovrdue/ovrdue/keyspace/DeadlineIndex", "siftUp", "(Lcom/example/ovrdue/ovrdue/keyspace/Entry;I)V"⟩ : MethodName)) hown (mvT hZ (hw _ (List.mem_of_getElem? (i := 46) rfl))) (mvT hZ (hw _ (List.mem_of_getElem? (i := 47) rfl))) (own_selP hZ (hw _ (List.mem_of_getElem? (i := 2) rfl)) (hw _ (List.mem_of_getElem? (i := 48) rfl)) (hw _ (List.mem_of_getElem? (i := 47) rfl)) (by decide)) (Cond.privateMethod_at (mvP hZ (hw _ (List.mem_of_getElem? (i := 48) rfl)) (args := #[]))) (mvT hZ (hw _ (List.mem_of_getElem? (i := 49) rfl))) (by decide) (backOf (W := 0) (own_upA l Z a0 hw [] ix en (1 : Int32) t k es (2 : Int32) f (own_upd dl en d) pl 1 x0 h134 n0 Z0' D St hen (by decide) (by decide) (fun _ => ⟨hf0, hx0, qc⟩)) hZ (hw _ (List.mem_of_getElem? (i := 49) rfl)) (hw _ (List.mem_of_getElem? (i := 3) rfl)) (by decide) (by decide)) (g := (mkF m 56 #[.val (.ref ix), .val (.ref en), .val (.long d), .second, .val (.long (dl en)), .second] [(.int (1 : Int32)), (.ref en), (.ref ix)])) rfl (by rw [hml]; rfl) (Steps.refl _) (a := ix) (by first | exact q146 | (rw [e144]; exact q146)) q146' (argsL := [(.ref en), (.int (1 : Int32))]) (rest := []) (lenOf own_pd0 rfl) rfl (by show 2 * 0 + _ ≤ _; exact Nat.le_of_eq rfl) (hb hby d4_56) (fun _ _ => ⟨rfl, e144, (by decide : (0 + 0) + 0 ≤ _), (by decide : (0 + 0) + 0 ≤ _)⟩)
              dsimp only [Pt.U, Pt.locs, Pt.cells, Pt.slots] at X146 l146 y146 z146 st146 hQ146
              subst l146 y146 z146
              obtain ⟨rfl, N146q, K146, St⟩ := hQ146
              have N0''' := Fr.app N0'' N146q
              have Z0'' := Nat.le_trans Z0' K146
              have G0'' := Nat.le_trans G0' K146
              refine own_tr (T' := T146) (g' := (mkF m 59 #[.val (.ref ix), .val (.ref en), .val (.long d), .second, .val (.long (dl en)), .second] [])) st146 ?_
              refine own_st (T' := T146) (g' := (mkF m 71 #[.val (.ref ix), .val (.ref en), .val (.long d), .second, .val (.long (dl en)), .second] [])) (fun _ k => XS.goto X146.here hx rfl (pc0 := 59) (pc' := 71) rfl (hb hby d4_59) (by decide) (by decide) k) ?_
              exact own_ret0 X146 hx Bd.returns Bd.notSynchronized rfl (hb hby d4_71) ⟨rfl, N0''', G0'', [x0, en], _, _, _, St, Or.inr (Or.inr (Or.inl ⟨_, _, rfl, rfl, by simp [hf0, hf1], by simp [hf0, hf1], by simp [own_upd, hp0, hp1, n01, Ne.symm n01], by simp [own_upd, hp0, hp1, n01, Ne.symm n01], by first | assumption | (symm; assumption), by simp [own_upd, n01, Ne.symm n01, Int64.le_iff_toInt_le, Int64.lt_iff_toInt_lt] at l01 qb qc ⊢ <;> omega⟩)), own_mem_add Mm hen q0 (fun x => by simp; try grind)⟩ (by decide) (by decide)
          · refine own_st (T' := T134) (g' := (mkF m 62 #[.val (.ref ix), .val (.ref en), .val (.long d), .second, .val (.long (dl en)), .second] [])) (fun _ k => XS.ifYes X134.here hx rfl (pc0 := 47) (pc' := 62) rfl (hb hby d4_47) rfl (Jvm.Free.XT.i0_ge_t (mt (lw_lt d (dl en)).mp qb)) (by decide) (by decide) k) ?_
            refine own_st (T' := T134) (g' := (mkF m 63 #[.val (.ref ix), .val (.ref en), .val (.long d), .second, .val (.long (dl en)), .second] [(.ref ix)])) (fun _ k => XS.aloadN X134.here hx rfl (hb hby d4_62) rfl rfl k) ?_
            refine own_st (T' := T134) (g' := (mkF m 64 #[.val (.ref ix), .val (.ref en), .val (.long d), .second, .val (.long (dl en)), .second] [(.ref en), (.ref ix)])) (fun _ k => XS.aloadN X134.here hx rfl (hb hby d4_63) rfl rfl k) ?_
            refine own_st (T' := T134) (g' := (mkF m 65 #[.val (.ref ix), .val (.ref en), .val (.long d), .second, .val (.long (dl en)), .second] [(.ref en), (.ref en), (.ref ix)])) (fun _ k => XS.aloadN X134.here hx rfl (hb hby d4_64) rfl rfl k) ?_
            obtain ⟨T147, X147, e147, st147⟩ := getF X134 hx hZ hown (host := "") (Or.inl (hw _ (List.mem_of_getElem? (i := 55) rfl))) Via.refl e134 Fp (g := (mkF m 65 #[.val (.ref ix), .val (.ref en), .val (.long d), .second, .val (.long (dl en)), .second] [(.ref en), (.ref en), (.ref ix)])) rfl rfl (hb hby d4_65)
            refine own_st (T' := T147) (g' := (mkF m 68 #[.val (.ref ix), .val (.ref en), .val (.long d), .second, .val (.long (dl en)), .second] [(.int (1 : Int32)), (.ref en), (.ref ix)])) st147 ?_
            obtain ⟨cq148, q148, q148'⟩ := St.1.cell
            obtain ⟨_, _, ⟨T148, L148, k148, n148⟩, -, X148, ⟨Lc148, hQ148, l148, y148, z148⟩, st148⟩ := X147.privateBack hx (y := (⟨"com/example/ovrdue/ovrdue/keyspace/DeadlineIndex", "siftDown", "(Lcom/example/ovrdue/ovrdue/keyspace/Entry;I)V"⟩ : MethodName)) hown (mvT hZ (hw _ (List.mem_of_getElem? (i := 57) rfl))) (mvT hZ (hw _ (List.mem_of_getElem? (i := 58) rfl))) (own_selP hZ (hw _ (List.mem_of_getElem? (i := 2) rfl)) (hw _ (List.mem_of_getElem? (i := 59) rfl)) (hw _ (List.mem_of_getElem? (i := 58) rfl)) (by decide)) (Cond.privateMethod_at (mvP hZ (hw _ (List.mem_of_getElem? (i := 59) rfl)) (args := #[]))) (mvT hZ (hw _ (List.mem_of_getElem? (i := 60) rfl))) (by decide) (backOf (W := 0) (own_dnA l Z a0 hw [] ix en (1 : Int32) t k es (2 : Int32) f (own_upd dl en d) pl 1 h134 n0 Z0' D St hen (by decide) (by decide) (by decide)) hZ (hw _ (List.mem_of_getElem? (i := 60) rfl)) (hw _ (List.mem_of_getElem? (i := 3) rfl)) (by decide) (by decide)) (g := (mkF m 68 #[.val (.ref ix), .val (.ref en), .val (.long d), .second, .val (.long (dl en)), .second] [(.int (1 : Int32)), (.ref en), (.ref ix)])) rfl (by rw [hml]; rfl) (Steps.refl _) (a := ix) (by first | exact q148 | (rw [e147]; exact q148)) q148' (argsL := [(.ref en), (.int (1 : Int32))]) (rest := []) (lenOf own_pd0 rfl) rfl (by show 2 * 0 + _ ≤ _; exact Nat.le_of_eq rfl) (hb hby d4_68) (fun _ _ => ⟨rfl, e147, (by decide : (0 + 0) + 0 ≤ _), (by decide : (0 + 0) + 0 ≤ _)⟩)
            dsimp only [Pt.U, Pt.locs, Pt.cells, Pt.slots] at X148 l148 y148 z148 st148 hQ148
            subst l148 y148 z148
            obtain ⟨rfl, N148q, K148, St⟩ := hQ148
            have N0''' := Fr.app N0'' N148q
            have Z0'' := Nat.le_trans Z0' K148
            have G0'' := Nat.le_trans G0' K148
            refine own_tr (T' := T148) (g' := (mkF m 71 #[.val (.ref ix), .val (.ref en), .val (.long d), .second, .val (.long (dl en)), .second] [])) st148 ?_
            exact own_ret0 X148 hx Bd.returns Bd.notSynchronized rfl (hb hby d4_71) ⟨rfl, N0''', G0'', [x0, en], _, _, _, St, Or.inr (Or.inr (Or.inl ⟨_, _, rfl, rfl, by simp [hf0, hf1], by simp [hf0, hf1], by simp [own_upd, hp0, hp1, n01, Ne.symm n01], by simp [own_upd, hp0, hp1, n01, Ne.symm n01], by first | assumption | (symm; assumption), by simp [own_upd, n01, Ne.symm n01, Int64.le_iff_toInt_le, Int64.lt_iff_toInt_lt] at l01 qb ⊢ <;> omega⟩)), own_mem_add Mm hen q0 (fun x => by simp; try grind)⟩ (by decide) (by decide)
      · have hx0 := Mm.1 x0 (by simp)
        have hx1 := Mm.1 x1 (by simp)
        have hx2 := Mm.1 x2 (by simp)
        simp at hin
        rcases hin with rfl | rfl | rfl
        · have Fp := (St.2.2.2.2 en hen).2.2
          rw [hp0] at Fp
          by_cases qb : d < (dl en)
          · refine own_st (T' := T134) (g' := (mkF m 50 #[.val (.ref ix), .val (.ref en), .val (.long d), .second, .val (.long (dl en)), .second] [])) (fun _ k => XS.ifNo X134.here hx rfl (hb hby d4_47) rfl (Jvm.Free.XT.i0_ge_f ((lw_lt d (dl en)).mpr qb)) k) ?_
            refine own_st (T' := T134) (g' := (mkF m 51 #[.val (.ref ix), .val (.ref en), .val (.long d), .second, .val (.long (dl en)), .second] [(.ref ix)])) (fun _ k => XS.aloadN X134.here hx rfl (hb hby d4_50) rfl rfl k) ?_
            refine own_st (T' := T134) (g' := (mkF m 52 #[.val (.ref ix), .val (.ref en), .val (.long d), .second, .val (.long (dl en)), .second] [(.ref en), (.ref ix)])) (fun _ k => XS.aloadN X134.here hx rfl (hb hby d4_51) rfl rfl k) ?_
            refine own_st (T' := T134) (g' := (mkF m 53 #[.val (.ref ix), .val (.ref en), .val (.long d), .second, .val (.long (dl en)), .second] [(.ref en), (.ref en), (.ref ix)])) (fun _ k => XS.aloadN X134.here hx rfl (hb hby d4_52) rfl rfl k) ?_
            obtain ⟨T149, X149, e149, st149⟩ := getF X134 hx hZ hown (host := "") (Or.inl (hw _ (List.mem_of_getElem? (i := 55) rfl))) Via.refl e134 Fp (g := (mkF m 53 #[.val (.ref ix), .val (.ref en), .val (.long d), .second, .val (.long (dl en)), .second] [(.ref en), (.ref en), (.ref ix)])) rfl rfl (hb hby d4_53)
            refine own_st (T' := T149) (g' := (mkF m 56 #[.val (.ref ix), .val (.ref en), .val (.long d), .second, .val (.long (dl en)), .second] [(.int (0 : Int32)), (.ref en), (.ref ix)])) st149 ?_
            obtain ⟨cq150, q150, q150'⟩ := St.1.cell
            obtain ⟨_, _, ⟨T150, L150, k150, n150⟩, -, X150, ⟨Lc150, hQ150, l150, y150, z150⟩, st150⟩ := X149.privateBack hx (y := (⟨"com/example/ovrdue/ovrdue/keyspace/DeadlineIndex", "siftUp", "(Lcom/example/ovrdue/ovrdue/keyspace/Entry;I)V"⟩ : MethodName)) hown (mvT hZ (hw _ (List.mem_of_getElem? (i := 46) rfl))) (mvT hZ (hw _ (List.mem_of_getElem? (i := 47) rfl))) (own_selP hZ (hw _ (List.mem_of_getElem? (i := 2) rfl)) (hw _ (List.mem_of_getElem? (i := 48) rfl)) (hw _ (List.mem_of_getElem? (i := 47) rfl)) (by decide)) (Cond.privateMethod_at (mvP hZ (hw _ (List.mem_of_getElem? (i := 48) rfl)) (args := #[]))) (mvT hZ (hw _ (List.mem_of_getElem? (i := 49) rfl))) (by decide) (backOf (W := 0) (own_upA l Z a0 hw [] ix en (0 : Int32) t k es (3 : Int32) f (own_upd dl en d) pl 0 en h134 n0 Z0' D St hen (by decide) (by decide) (fun u => absurd rfl u)) hZ (hw _ (List.mem_of_getElem? (i := 49) rfl)) (hw _ (List.mem_of_getElem? (i := 3) rfl)) (by decide) (by decide)) (g := (mkF m 56 #[.val (.ref ix), .val (.ref en), .val (.long d), .second, .val (.long (dl en)), .second] [(.int (0 : Int32)), (.ref en), (.ref ix)])) rfl (by rw [hml]; rfl) (Steps.refl _) (a := ix) (by first | exact q150 | (rw [e149]; exact q150)) q150' (argsL := [(.ref en), (.int (0 : Int32))]) (rest := []) (lenOf own_pd0 rfl) rfl (by show 2 * 0 + _ ≤ _; exact Nat.le_of_eq rfl) (hb hby d4_56) (fun _ _ => ⟨rfl, e149, (by decide : (0 + 0) + 0 ≤ _), (by decide : (0 + 0) + 0 ≤ _)⟩)
            dsimp only [Pt.U, Pt.locs, Pt.cells, Pt.slots] at X150 l150 y150 z150 st150 hQ150
            subst l150 y150 z150
            obtain ⟨rfl, N150q, K150, St⟩ := hQ150
            have N0''' := Fr.app N0'' N150q
            have Z0'' := Nat.le_trans Z0' K150
            have G0'' := Nat.le_trans G0' K150
            refine own_tr (T' := T150) (g' := (mkF m 59 #[.val (.ref ix), .val (.ref en), .val (.long d), .second, .val (.long (dl en)), .second] [])) st150 ?_
            refine own_st (T' := T150) (g' := (mkF m 71 #[.val (.ref ix), .val (.ref en), .val (.long d), .second, .val (.long (dl en)), .second] [])) (fun _ k => XS.goto X150.here hx rfl (pc0 := 59) (pc' := 71) rfl (hb hby d4_59) (by decide) (by decide) k) ?_
            exact own_ret0 X150 hx Bd.returns Bd.notSynchronized rfl (hb hby d4_71) ⟨rfl, N0''', G0'', [en, x1, x2], _, _, _, St, Or.inr (Or.inr (Or.inr ⟨_, _, _, rfl, rfl, by simp [hf0, hf1, hf2], by simp [hf0, hf1, hf2], by simp [hf0, hf1, hf2], by simp [own_upd, hp0, hp1, hp2, n01, n02, n12, Ne.symm n01, Ne.symm n02, Ne.symm n12], by simp [own_upd, hp0, hp1, hp2, n01, n02, n12, Ne.symm n01, Ne.symm n02, Ne.symm n12], by simp [own_upd, hp0, hp1, hp2, n01, n02, n12, Ne.symm n01, Ne.symm n02, Ne.symm n12], by first | assumption | (symm; assumption), by first | assumption | (symm; assumption), by first | assumption | (symm; assumption), by simp [own_upd, n01, n02, n12, Ne.symm n01, Ne.symm n02, Ne.symm n12, Int64.le_iff_toInt_le, Int64.lt_iff_toInt_lt] at l01 l02 qb ⊢ <;> omega, by simp [own_upd, n01, n02, n12, Ne.symm n01, Ne.symm n02, Ne.symm n12, Int64.le_iff_toInt_le, Int64.lt_iff_toInt_lt] at l01 l02 qb ⊢ <;> omega⟩)), own_mem_add Mm hen q0 (fun x => by simp; try grind)⟩ (by decide) (by decide)
          · refine own_st (T' := T134) (g' := (mkF m 62 #[.val (.ref ix), .val (.ref en), .val (.long d), .second, .val (.long (dl en)), .second] [])) (fun _ k => XS.ifYes X134.here hx rfl (pc0 := 47) (pc' := 62) rfl (hb hby d4_47) rfl (Jvm.Free.XT.i0_ge_t (mt (lw_lt d (dl en)).mp qb)) (by decide) (by decide) k) ?_
            refine own_st (T' := T134) (g' := (mkF m 63 #[.val (.ref ix), .val (.ref en), .val (.long d), .second, .val (.long (dl en)), .second] [(.ref ix)])) (fun _ k => XS.aloadN X134.here hx rfl (hb hby d4_62) rfl rfl k) ?_
            refine own_st (T' := T134) (g' := (mkF m 64 #[.val (.ref ix), .val (.ref en), .val (.long d), .second, .val (.long (dl en)), .second] [(.ref en), (.ref ix)])) (fun _ k => XS.aloadN X134.here hx rfl (hb hby d4_63) rfl rfl k) ?_
            refine own_st (T' := T134) (g' := (mkF m 65 #[.val (.ref ix), .val (.ref en), .val (.long d), .second, .val (.long (dl en)), .second] [(.ref en), (.ref en), (.ref ix)])) (fun _ k => XS.aloadN X134.here hx rfl (hb hby d4_64) rfl rfl k) ?_
            obtain ⟨T151, X151, e151, st151⟩ := getF X134 hx hZ hown (host := "") (Or.inl (hw _ (List.mem_of_getElem? (i := 55) rfl))) Via.refl e134 Fp (g := (mkF m 65 #[.val (.ref ix), .val (.ref en), .val (.long d), .second, .val (.long (dl en)), .second] [(.ref en), (.ref en), (.ref ix)])) rfl rfl (hb hby d4_65)
            refine own_st (T' := T151) (g' := (mkF m 68 #[.val (.ref ix), .val (.ref en), .val (.long d), .second, .val (.long (dl en)), .second] [(.int (0 : Int32)), (.ref en), (.ref ix)])) st151 ?_
            by_cases qd : own_upd dl en d x2 < own_upd dl en d x1
            · by_cases qc : own_upd dl en d x2 < own_upd dl en d en
              · obtain ⟨cq152, q152, q152'⟩ := St.1.cell
                obtain ⟨_, _, ⟨T152, L152, k152, n152⟩, -, X152, ⟨Lc152, hQ152, l152, y152, z152⟩, st152⟩ := X151.privateBack hx (y := (⟨"com/example/ovrdue/ovrdue/keyspace/DeadlineIndex", "siftDown", "(Lcom/example/ovrdue/ovrdue/keyspace/Entry;I)V"⟩ : MethodName)) hown (mvT hZ (hw _ (List.mem_of_getElem? (i := 57) rfl))) (mvT hZ (hw _ (List.mem_of_getElem? (i := 58) rfl))) (own_selP hZ (hw _ (List.mem_of_getElem? (i := 2) rfl)) (hw _ (List.mem_of_getElem? (i := 59) rfl)) (hw _ (List.mem_of_getElem? (i := 58) rfl)) (by decide)) (Cond.privateMethod_at (mvP hZ (hw _ (List.mem_of_getElem? (i := 59) rfl)) (args := #[]))) (mvT hZ (hw _ (List.mem_of_getElem? (i := 60) rfl))) (by decide) (backOf (W := 0) (own_dnM l Z a0 hw [] ix en t k es (3 : Int32) f (own_upd dl en d) pl (2 : Int32) 2 x2 h134 n0 Z0' D St hen hx2 (by decide) (by decide) (by decide) (by decide) hf2 (Or.inr ⟨rfl, x1, x2, hx1, hx2, hf1, hf2, Or.inl ⟨qd, rfl⟩⟩) qc) hZ (hw _ (List.mem_of_getElem? (i := 60) rfl)) (hw _ (List.mem_of_getElem? (i := 3) rfl)) (by decide) (by decide)) (g := (mkF m 68 #[.val (.ref ix), .val (.ref en), .val (.long d), .second, .val (.long (dl en)), .second] [(.int (0 : Int32)), (.ref en), (.ref ix)])) rfl (by rw [hml]; rfl) (Steps.refl _) (a := ix) (by first | exact q152 | (rw [e151]; exact q152)) q152' (argsL := [(.ref en), (.int (0 : Int32))]) (rest := []) (lenOf own_pd0 rfl) rfl (by show 2 * 0 + _ ≤ _; exact Nat.le_of_eq rfl) (hb hby d4_68) (fun _ _ => ⟨rfl, e151, (by decide : (0 + 0) + 0 ≤ _), (by decide : (0 + 0) + 0 ≤ _)⟩)
                dsimp only [Pt.U, Pt.locs, Pt.cells, Pt.slots] at X152 l152 y152 z152 st152 hQ152
                subst l152 y152 z152
                obtain ⟨rfl, N152q, K152, St⟩ := hQ152
                have N0''' := Fr.app N0'' N152q
                have Z0'' := Nat.le_trans Z0' K152
                have G0'' := Nat.le_trans G0' K152
                refine own_tr (T' := T152) (g' := (mkF m 71 #[.val (.ref ix), .val (.ref en), .val (.long d), .second, .val (.long (dl en)), .second] [])) st152 ?_
                exact own_ret0 X152 hx Bd.returns Bd.notSynchronized rfl (hb hby d4_71) ⟨rfl, N0''', G0'', [x2, x1, en], _, _, _, St, Or.inr (Or.inr (Or.inr ⟨_, _, _, rfl, rfl, by simp [hf0, hf1, hf2], by simp [hf0, hf1, hf2], by simp [hf0, hf1, hf2], by simp [own_upd, hp0, hp1, hp2, n01, n02, n12, Ne.symm n01, Ne.symm n02, Ne.symm n12], by simp [own_upd, hp0, hp1, hp2, n01, n02, n12, Ne.symm n01, Ne.symm n02, Ne.symm n12], by simp [own_upd, hp0, hp1, hp2, n01, n02, n12, Ne.symm n01, Ne.symm n02, Ne.symm n12], by first | assumption | (symm; assumption), by first | assumption | (symm; assumption), by first | assumption | (symm; assumption), by simp [own_upd, n01, n02, n12, Ne.symm n01, Ne.symm n02, Ne.symm n12, Int64.le_iff_toInt_le, Int64.lt_iff_toInt_lt] at l01 l02 qb qd qc ⊢ <;> omega, by simp [own_upd, n01, n02, n12, Ne.symm n01, Ne.symm n02, Ne.symm n12, Int64.le_iff_toInt_le, Int64.lt_iff_toInt_lt] at l01 l02 qb qd qc ⊢ <;> omega⟩)), own_mem_add Mm hen q0 (fun x => by simp; try grind)⟩ (by decide) (by decide)
              · obtain ⟨cq153, q153, q153'⟩ := St.1.cell
                obtain ⟨_, _, ⟨T153, L153, k153, n153⟩, -, X153, ⟨Lc153, hQ153, l153, y153, z153⟩, st153⟩ := X151.privateBack hx (y := (⟨"com/example/ovrdue/ovrdue/keyspace/DeadlineIndex", "siftDown", "(Lcom/example/ovrdue/ovrdue/keyspace/Entry;I)V"⟩ : MethodName)) hown (mvT hZ (hw _ (List.mem_of_getElem? (i := 57) rfl))) (mvT hZ (hw _ (List.mem_of_getElem? (i := 58) rfl))) (own_selP hZ (hw _ (List.mem_of_getElem? (i := 2) rfl)) (hw _ (List.mem_of_getElem? (i := 59) rfl)) (hw _ (List.mem_of_getElem? (i := 58) rfl)) (by decide)) (Cond.privateMethod_at (mvP hZ (hw _ (List.mem_of_getElem? (i := 59) rfl)) (args := #[]))) (mvT hZ (hw _ (List.mem_of_getElem? (i := 60) rfl))) (by decide) (backOf (W := 0) (own_dnS l Z a0 hw [] ix en t k es (3 : Int32) f (own_upd dl en d) pl (2 : Int32) 2 x2 h134 n0 Z0' D St hen hx2 (by decide) (by decide) (by decide) (by decide) hf2 (Or.inr ⟨rfl, x1, x2, hx1, hx2, hf1, hf2, Or.inl ⟨qd, rfl⟩⟩) qc) hZ (hw _ (List.mem_of_getElem? (i := 60) rfl)) (hw _ (List.mem_of_getElem? (i := 3) rfl)) (by decide) (by decide)) (g := (mkF m 68 #[.val (.ref ix), .val (.ref en), .val (.long d), .second, .val (.long (dl en)), .second] [(.int (0 : Int32)), (.ref en), (.ref ix)])) rfl (by rw [hml]; rfl) (Steps.refl _) (a := ix) (by first | exact q153 | (rw [e151]; exact q153)) q153' (argsL := [(.ref en), (.int (0 : Int32))]) (rest := []) (lenOf own_pd0 rfl) rfl (by show 2 * 0 + _ ≤ _; exact Nat.le_of_eq rfl) (hb hby d4_68) (fun _ _ => ⟨rfl, e151, (by decide : (0 + 0) + 0 ≤ _), (by decide : (0 + 0) + 0 ≤ _)⟩)
                dsimp only [Pt.U, Pt.locs, Pt.cells, Pt.slots] at X153 l153 y153 z153 st153 hQ153
                subst l153 y153 z153
                obtain ⟨rfl, N153q, K153, St⟩ := hQ153
                have N0''' := Fr.app N0'' N153q
                have Z0'' := Nat.le_trans Z0' K153
                have G0'' := Nat.le_trans G0' K153
                refine own_tr (T' := T153) (g' := (mkF m 71 #[.val (.ref ix), .val (.ref en), .val (.long d), .second, .val (.long (dl en)), .second] [])) st153 ?_
                exact own_ret0 X153 hx Bd.returns Bd.notSynchronized rfl (hb hby d4_71) ⟨rfl, N0''', G0'', [en, x1, x2], _, _, _, St, Or.inr (Or.inr (Or.inr ⟨_, _, _, rfl, rfl, by simp [hf0, hf1, hf2], by simp [hf0, hf1, hf2], by simp [hf0, hf1, hf2], by simp [own_upd, hp0, hp1, hp2, n01, n02, n12, Ne.symm n01, Ne.symm n02, Ne.symm n12], by simp [own_upd, hp0, hp1, hp2, n01, n02, n12, Ne.symm n01, Ne.symm n02, Ne.symm n12], by simp [own_upd, hp0, hp1, hp2, n01, n02, n12, Ne.symm n01, Ne.symm n02, Ne.symm n12], by first | assumption | (symm; assumption), by first | assumption | (symm; assumption), by first | assumption | (symm; assumption), by simp [own_upd, n01, n02, n12, Ne.symm n01, Ne.symm n02, Ne.symm n12, Int64.le_iff_toInt_le, Int64.lt_iff_toInt_lt] at l01 l02 qb qd qc ⊢ <;> omega, by simp [own_upd, n01, n02, n12, Ne.symm n01, Ne.symm n02, Ne.symm n12, Int64.le_iff_toInt_le, Int64.lt_iff_toInt_lt] at l01 l02 qb qd qc ⊢ <;> omega⟩)), own_mem_add Mm hen q0 (fun x => by simp; try grind)⟩ (by decide) (by decide)
            · by_cases qc : own_upd dl en d x1 < own_upd dl en d en
              · obtain ⟨cq154, q154, q154'⟩ := St.1.cell
                obtain ⟨_, _, ⟨T154, L154, k154, n154⟩, -, X154, ⟨Lc154, hQ154, l154, y154, z154⟩, st154⟩ := X151.privateBack hx (y := (⟨"com/example/ovrdue/ovrdue/keyspace/DeadlineIndex", "siftDown", "(Lcom/example/ovrdue/ovrdue/keyspace/Entry;I)V"⟩ : MethodName)) hown (mvT hZ (hw _ (List.mem_of_getElem? (i := 57) rfl))) (mvT hZ (hw _ (List.mem_of_getElem? (i := 58) rfl))) (own_selP hZ (hw _ (List.mem_of_getElem? (i := 2) rfl)) (hw _ (List.mem_of_getElem? (i := 59) rfl)) (hw _ (List.mem_of_getElem? (i := 58) rfl)) (by decide)) (Cond.privateMethod_at (mvP hZ (hw _ (List.mem_of_getElem? (i := 59) rfl)) (args := #[]))) (mvT hZ (hw _ (List.mem_of_getElem? (i := 60) rfl))) (by decide) (backOf (W := 0) (own_dnM l Z a0 hw [] ix en t k es (3 : Int32) f (own_upd dl en d) pl (1 : Int32) 1 x1 h134 n0 Z0' D St hen hx1 (by decide) (by decide) (by decide) (by decide) hf1 (Or.inr ⟨rfl, x1, x2, hx1, hx2, hf1, hf2, Or.inr ⟨qd, rfl⟩⟩) qc) hZ (hw _ (List.mem_of_getElem? (i := 60) rfl)) (hw _ (List.mem_of_getElem? (i := 3) rfl)) (by decide) (by decide)) (g := (mkF m 68 #[.val (.ref ix), .val (.ref en), .val (.long d), .second, .val (.long (dl en)), .second] [(.int (0 : Int32)), (.ref en), (.ref ix)])) rfl (by rw [hml]; rfl) (Steps.refl _) (a := ix) (by first | exact q154 | (rw [e151]; exact q154)) q154' (argsL := [(.ref en), (.int (0 : Int32))]) (rest := []) (lenOf own_pd0 rfl) rfl (by show 2 * 0 + _ ≤ _; exact Nat.le_of_eq rfl) (hb hby d4_68) (fun _ _ => ⟨rfl, e151, (by decide : (0 + 0) + 0 ≤ _), (by decide : (0 + 0) + 0 ≤ _)⟩)
                dsimp only [Pt.U, Pt.locs, Pt.cells, Pt.slots] at X154 l154 y154 z154 st154 hQ154
                subst l154 y154 z154
                obtain ⟨rfl, N154q, K154, St⟩ := hQ154
                have N0''' := Fr.app N0'' N154q
                have Z0'' := Nat.le_trans Z0' K154
                have G0'' := Nat.le_trans G0' K154
                refine own_tr (T' := T154) (g' := (mkF m 71 #[.val (.ref ix), .val (.ref en), .val (.long d), .second, .val (.long (dl en)), .second] [])) st154 ?_
                exact own_ret0 X154 hx Bd.returns Bd.notSynchronized rfl (hb hby d4_71) ⟨rfl, N0''', G0'', [x1, en, x2], _, _, _, St, Or.inr (Or.inr (Or.inr ⟨_, _, _, rfl, rfl, by simp [hf0, hf1, hf2], by simp [hf0, hf1, hf2], by simp [hf0, hf1, hf2], by simp [own_upd, hp0, hp1, hp2, n01, n02, n12, Ne.symm n01, Ne.symm n02, Ne.symm n12], by simp [own_upd, hp0, hp1, hp2, n01, n02, n12, Ne.symm n01, Ne.symm n02, Ne.symm n12], by simp [own_upd, hp0, hp1, hp2, n01, n02, n12, Ne.symm n01, Ne.symm n02, Ne.symm n12], by first | assumption | (symm; assumption), by first | assumption | (symm; assumption), by first | assumption | (symm; assumption), by simp [own_upd, n01, n02, n12, Ne.symm n01, Ne.symm n02, Ne.symm n12, Int64.le_iff_toInt_le, Int64.lt_iff_toInt_lt] at l01 l02 qb qd qc ⊢ <;> omega, by simp [own_upd, n01, n02, n12, Ne.symm n01, Ne.symm n02, Ne.symm n12, Int64.le_iff_toInt_le, Int64.lt_iff_toInt_lt] at l01 l02 qb qd qc ⊢ <;> omega⟩)), own_mem_add Mm hen q0 (fun x => by simp; try grind)⟩ (by decide) (by decide)
              · obtain ⟨cq155, q155, q155'⟩ := St.1.cell
                obtain ⟨_, _, ⟨T155, L155, k155, n155⟩, -, X155, ⟨Lc155, hQ155, l155, y155, z155⟩, st155⟩ := X151.privateBack hx (y := (⟨"com/example/ovrdue/ovrdue/keyspace/DeadlineIndex", "siftDown", "(Lcom/example/ovrdue/ovrdue/keyspace/Entry;I)V"⟩ : MethodName)) hown (mvT hZ (hw _ (List.mem_of_getElem? (i := 57) rfl))) (mvT hZ (hw _ (List.mem_of_getElem? (i := 58) rfl))) (own_selP hZ (hw _ (List.mem_of_getElem? (i := 2) rfl)) (hw _ (List.mem_of_getElem? (i := 59) rfl)) (hw _ (List.mem_of_getElem? (i := 58) rfl)) (by decide)) (Cond.privateMethod_at (mvP hZ (hw _ (List.mem_of_getElem? (i := 59) rfl)) (args := #[]))) (mvT hZ (hw _ (List.mem_of_getElem? (i := 60) rfl))) (by decide) (backOf (W := 0) (own_dnS l Z a0 hw [] ix en t k es (3 : Int32) f (own_upd dl en d) pl (1 : Int32) 1 x1 h134 n0 Z0' D St hen hx1 (by decide) (by decide) (by decide) (by decide) hf1 (Or.inr ⟨rfl, x1, x2, hx1, hx2, hf1, hf2, Or.inr ⟨qd, rfl⟩⟩) qc) hZ (hw _ (List.mem_of_getElem? (i := 60) rfl)) (hw _ (List.mem_of_getElem? (i := 3) rfl)) (by decide) (by decide)) (g := (mkF m 68 #[.val (.ref ix), .val (.ref en), .val (.long d), .second, .val (.long (dl en)), .second] [(.int (0 : Int32)), (.ref en), (.ref ix)])) rfl (by rw [hml]; rfl) (Steps.refl _) (a := ix) (by first | exact q155 | (rw [e151]; exact q155)) q155' (argsL := [(.ref en), (.int (0 : Int32))]) (rest := []) (lenOf own_pd0 rfl) rfl (by show 2 * 0 + _ ≤ _; exact Nat.le_of_eq rfl) (hb hby d4_68) (fun _ _ => ⟨rfl, e151, (by decide : (0 + 0) + 0 ≤ _), (by decide : (0 + 0) + 0 ≤ _)⟩)
                dsimp only [Pt.U, Pt.locs, Pt.cells, Pt.slots] at X155 l155 y155 z155 st155 hQ155
                subst l155 y155 z155
                obtain ⟨rfl, N155q, K155, St⟩ := hQ155
                have N0''' := Fr.app N0'' N155q
                have Z0'' := Nat.le_trans Z0' K155
                have G0'' := Nat.le_trans G0' K155
                refine own_tr (T' := T155) (g' := (mkF m 71 #[.val (.ref ix), .val (.ref en), .val (.long d), .second, .val (.long (dl en)), .second] [])) st155 ?_
                exact own_ret0 X155 hx Bd.returns Bd.notSynchronized rfl (hb hby d4_71) ⟨rfl, N0''', G0'', [en, x1, x2], _, _, _, St, Or.inr (Or.inr (Or.inr ⟨_, _, _, rfl, rfl, by simp [hf0, hf1, hf2], by simp [hf0, hf1, hf2], by simp [hf0, hf1, hf2], by simp [own_upd, hp0, hp1, hp2, n01, n02, n12, Ne.symm n01, Ne.symm n02, Ne.symm n12], by simp [own_upd, hp0, hp1, hp2, n01, n02, n12, Ne.symm n01, Ne.symm n02, Ne.symm n12], by simp [own_upd, hp0, hp1, hp2, n01, n02, n12, Ne.symm n01, Ne.symm n02, Ne.symm n12], by first | assumption | (symm; assumption), by first | assumption | (symm; assumption), by first | assumption | (symm; assumption), by simp [own_upd, n01, n02, n12, Ne.symm n01, Ne.symm n02, Ne.symm n12, Int64.le_iff_toInt_le, Int64.lt_iff_toInt_lt] at l01 l02 qb qd qc ⊢ <;> omega, by simp [own_upd, n01, n02, n12, Ne.symm n01, Ne.symm n02, Ne.symm n12, Int64.le_iff_toInt_le, Int64.lt_iff_toInt_lt] at l01 l02 qb qd qc ⊢ <;> omega⟩)), own_mem_add Mm hen q0 (fun x => by simp; try grind)⟩ (by decide) (by decide)
        · have Fp := (St.2.2.2.2 en hen).2.2
          rw [hp1] at Fp
          by_cases qb : d < (dl en)
          · refine own_st (T' := T134) (g' := (mkF m 50 #[.val (.ref ix), .val (.ref en), .val (.long d), .second, .val (.long (dl en)), .second] [])) (fun _ k => XS.ifNo X134.here hx rfl (hb hby d4_47) rfl (Jvm.Free.XT.i0_ge_f ((lw_lt d (dl en)).mpr qb)) k) ?_
            refine own_st (T' := T134) (g' := (mkF m 51 #[.val (.ref ix), .val (.ref en), .val (.long d), .second, .val (.long (dl en)), .second] [(.ref ix)])) (fun _ k => XS.aloadN X134.here hx rfl (hb hby d4_50) rfl rfl k) ?_
            refine own_st (T' := T134) (g' := (mkF m 52 #[.val (.ref ix), .val (.ref en), .val (.long d), .second, .val (.long (dl en)), .second] [(.ref en), (.ref ix)])) (fun _ k => XS.aloadN X134.here hx rfl (hb hby d4_51) rfl rfl k) ?_
            refine own_st (T' := T134) (g' := (mkF m 53 #[.val (.ref ix), .val (.ref en), .val (.long d), .second, .val (.long (dl en)), .second] [(.ref en), (.ref en), (.ref ix)])) (fun _ k => XS.aloadN X134.here hx rfl (hb hby d4_52) rfl rfl k) ?_
            obtain ⟨T156, X156, e156, st156⟩ := getF X134 hx hZ hown (host := "") (Or.inl (hw _ (List.mem_of_getElem? (i := 55) rfl))) Via.refl e134 Fp (g := (mkF m 53 #[.val (.ref ix), .val (.ref en), .val (.long d), .second, .val (.long (dl en)), .second] [(.ref en), (.ref en), (.ref ix)])) rfl rfl (hb hby d4_53)
            refine own_st (T' := T156) (g' := (mkF m 56 #[.val (.ref ix), .val (.ref en), .val (.long d), .second, .val (.long (dl en)), .second] [(.int (1 : Int32)), (.ref en), (.ref ix)])) st156 ?_
            by_cases qc : own_upd dl en d en < own_upd dl en d x0
            · obtain ⟨cq157, q157, q157'⟩ := St.1.cell
              obtain ⟨_, _, ⟨T157, L157, k157, n157⟩, -, X157, ⟨Lc157, hQ157, l157, y157, z157⟩, st157⟩ := X156.privateBack hx (y := (⟨"com/example/ovrdue/ovrdue/keyspace/DeadlineIndex", "siftUp", "(Lcom/example/ovrdue/ovrdue/keyspace/Entry;I)V"⟩ : MethodName)) hown (mvT hZ (hw _ (List.mem_of_getElem? (i := 46) rfl))) (mvT hZ (hw _ (List.mem_of_getElem? (i := 47) rfl))) (own_selP hZ (hw _ (List.mem_of_getElem? (i := 2) rfl)) (hw _ (List.mem_of_getElem? (i := 48) rfl)) (hw _ (List.mem_of_getElem? (i := 47) rfl)) (by decide)) (Cond.privateMethod_at (mvP hZ (hw _ (List.mem_of_getElem? (i := 48) rfl)) (args := #[]))) (mvT hZ (hw _ (List.mem_of_getElem? (i := 49) rfl))) (by decide) (backOf (W := 0) (own_upB l Z a0 hw [] ix en (1 : Int32) t k es (3 : Int32) f (own_upd dl en d) pl 1 x0 h134 n0 Z0' D St hen hx0 (by decide) (by decide) hf0 qc) hZ (hw _ (List.mem_of_getElem? (i := 49) rfl)) (hw _ (List.mem_of_getElem? (i := 3) rfl)) (by decide) (by decide)) (g := (mkF m 56 #[.val (.ref ix), .val (.ref en), .val (.long d), .second, .val (.long (dl en)), .second] [(.int (1 : Int32)), (.ref en), (.ref ix)])) rfl (by rw [hml]; rfl) (Steps.refl _) (a := ix) (by first | exact q157 | (rw [e156]; exact q157)) q157' (argsL := [(.ref en), (.int (1 : Int32))]) (rest := []) (lenOf own_pd0 rfl) rfl (by show 2 * 0 + _ ≤ _; exact Nat.le_of_eq rfl) (hb hby d4_56) (fun _ _ => ⟨rfl, e156, (by decide : (0 + 0) + 0 ≤ _), (by decide : (0 + 0) + 0 ≤ _)⟩)
              dsimp only [Pt.U, Pt.locs, Pt.cells, Pt.slots] at X157 l157 y157 z157 st157 hQ157
              subst l157 y157 z157
              obtain ⟨rfl, N157q, K157, St⟩ := hQ157
              have N0''' := Fr.app N0'' N157q
              have Z0'' := Nat.le_trans Z0' K157
              have G0'' := Nat.le_trans G0' K157
              refine own_tr (T' := T157) (g' := (mkF m 59 #[.val (.ref ix), .val (.ref en), .val (.long d), .second, .val (.long (dl en)), .second] [])) st157 ?_
              refine own_st (T' := T157) (g' := (mkF m 71 #[.val (.ref ix), .val (.ref en), .val (.long d), .second, .val (.long (dl en)), .second] [])) (fun _ k => XS.goto X157.here hx rfl (pc0 := 59) (pc' := 71) rfl (hb hby d4_59) (by decide) (by decide) k) ?_
              exact own_ret0 X157 hx Bd.returns Bd.notSynchronized rfl (hb hby d4_71) ⟨rfl, N0''', G0'', [en, x0, x2], _, _, _, St, Or.inr (Or.inr (Or.inr ⟨_, _, _, rfl, rfl, by simp [hf0, hf1, hf2], by simp [hf0, hf1, hf2], by simp [hf0, hf1, hf2], by simp [own_upd, hp0, hp1, hp2, n01, n02, n12, Ne.symm n01, Ne.symm n02, Ne.symm n12], by simp [own_upd, hp0, hp1, hp2, n01, n02, n12, Ne.symm n01, Ne.symm n02, Ne.symm n12], by simp [own_upd, hp0, hp1, hp2, n01, n02, n12, Ne.symm n01, Ne.symm n02, Ne.symm n12], by first | assumption | (symm; assumption), by first | assumption | (symm; assumption), by first | assumption | (symm; assumption), by simp [own_upd, n01, n02, n12, Ne.symm n01, Ne.symm n02, Ne.symm n12, Int64.le_iff_toInt_le, Int64.lt_iff_toInt_lt] at l01 l02 qb qc ⊢ <;> omega, by simp [own_upd, n01, n02, n12, Ne.symm n01, Ne.symm n02, Ne.symm n12, Int64.le_iff_toInt_le, Int64.lt_iff_toInt_lt] at l01 l02 qb qc ⊢ <;> omega⟩)), own_mem_add Mm hen q0 (fun x => by simp; try grind)⟩ (by decide) (by decide)
            · obtain ⟨cq158, q158, q158'⟩ := St.1.cell
              obtain ⟨_, _, ⟨T158, L158, k158, n158⟩, -, X158, ⟨Lc158, hQ158, l158, y158, z158⟩, st158⟩ := X156.privateBack hx (y := (⟨"com/example/ovrdue/ovrdue/keyspace/DeadlineIndex", "siftUp", "(Lcom/example/ovrdue/ovrdue/keyspace/Entry;I)V"⟩ : MethodName)) hown (mvT hZ (hw _ (List.mem_of_getElem? (i := 46) rfl))) (mvT hZ (hw _ (List.mem_of_getElem? (i := 47) rfl))) (own_selP hZ (hw _ (List.mem_of_getElem? (i := 2) rfl)) (hw _ (List.mem_of_getElem? (i := 48) rfl)) (hw _ (List.mem_of_getElem? (i := 47) rfl)) (by decide)) (Cond.privateMethod_at (mvP hZ (hw _ (List.mem_of_getElem? (i := 48) rfl)) (args := #[]))) (mvT hZ (hw _ (List.mem_of_getElem? (i := 49) rfl))) (by decide) (backOf (W := 0) (own_upA l Z a0 hw [] ix en (1 : Int32) t k es (3 : Int32) f (own_upd dl en d) pl 1 x0 h134 n0 Z0' D St hen (by decide) (by decide) (fun _ => ⟨hf0, hx0, qc⟩)) hZ (hw _ (List.mem_of_getElem? (i := 49) rfl)) (hw _ (List.mem_of_getElem? (i := 3) rfl)) (by decide) (by decide)) (g := (mkF m 56 #[.val (.ref ix), .val (.ref en), .val (.long d), .second, .val (.long (dl en)), .second] [(.int (1 : Int32)), (.ref en), (.ref ix)])) rfl (by rw [hml]; rfl) (Steps.refl _) (a := ix) (by first | exact q158 | (rw [e156]; exact q158)) q158' (argsL := [(.ref en), (.int (1 : Int32))]) (rest := []) (lenOf own_pd0 rfl) rfl (by show 2 * 0 + _ ≤ _; exact Nat.le_of_eq rfl) (hb hby d4_56) (fun _ _ => ⟨rfl, e156, (by decide : (0 + 0) + 0 ≤ _), (by decide : (0 + 0) + 0 ≤ _)⟩)
              dsimp only [Pt.U, Pt.locs, Pt.cells, Pt.slots] at X158 l158 y158 z158 st158 hQ158
              subst l158 y158 z158
              obtain ⟨rfl, N158q, K158, St⟩ := hQ158
              have N0''' := Fr.app N0'' N158q
              have Z0'' := Nat.le_trans Z0' K158
              have G0'' := Nat.le_trans G0' K158
              refine own_tr (T' := T158) (g' := (mkF m 59 #[.val (.ref ix), .val (.ref en), .val (.long d), .second, .val (.long (dl en)), .second] [])) st158 ?_
              refine own_st (T' := T158) (g' := (mkF m 71 #[.val (.ref ix), .val (.ref en), .val (.long d), .second, .val (.long (dl en)), .second] [])) (fun _ k => XS.goto X158.here hx rfl (pc0 := 59) (pc' := 71) rfl (hb hby d4_59) (by decide) (by decide) k) ?_
              exact own_ret0 X158 hx Bd.returns Bd.notSynchronized rfl (hb hby d4_71) ⟨rfl, N0''', G0'', [x0, en, x2], _, _, _, St, Or.inr (Or.inr (Or.inr ⟨_, _, _, rfl, rfl, by simp [hf0, hf1, hf2], by simp [hf0, hf1, hf2], by simp [hf0, hf1, hf2], by simp [own_upd, hp0, hp1, hp2, n01, n02, n12, Ne.symm n01, Ne.symm n02, Ne.symm n12], by simp [own_upd, hp0, hp1, hp2, n01, n02, n12, Ne.symm n01, Ne.symm n02, Ne.symm n12], by simp [own_upd, hp0, hp1, hp2, n01, n02, n12, Ne.symm n01, Ne.symm n02, Ne.symm n12], by first | assumption | (symm; assumption), by first | assumption | (symm; assumption), by first | assumption | (symm; assumption), by simp [own_upd, n01, n02, n12, Ne.symm n01, Ne.symm n02, Ne.symm n12, Int64.le_iff_toInt_le, Int64.lt_iff_toInt_lt] at l01 l02 qb qc ⊢ <;> omega, by simp [own_upd, n01, n02, n12, Ne.symm n01, Ne.symm n02, Ne.symm n12, Int64.le_iff_toInt_le, Int64.lt_iff_toInt_lt] at l01 l02 qb qc ⊢ <;> omega⟩)), own_mem_add Mm hen q0 (fun x => by simp; try grind)⟩ (by decide) (by decide)
          · refine own_st (T' := T134) (g' := (mkF m 62 #[.val (.ref ix), .val (.ref en), .val (.long d), .second, .val (.long (dl en)), .second] [])) (fun _ k => XS.ifYes X134.here hx rfl (pc0 := 47) (pc' := 62) rfl (hb hby d4_47) rfl (Jvm.Free.XT.i0_ge_t (mt (lw_lt d (dl en)).mp qb)) (by decide) (by decide) k) ?_
            refine own_st (T' := T134) (g' := (mkF m 63 #[.val (.ref ix), .val (.ref en), .val (.long d), .second, .val (.long (dl en)), .second] [(.ref ix)])) (fun _ k => XS.aloadN X134.here hx rfl (hb hby d4_62) rfl rfl k) ?_
            refine own_st (T' := T134) (g' := (mkF m 64 #[.val (.ref ix), .val (.ref en), .val (.long d), .second, .val (.long (dl en)), .second] [(.ref en), (.ref ix)])) (fun _ k => XS.aloadN X134.here hx rfl (hb hby d4_63) rfl rfl k) ?_
            refine own_st (T' := T134) (g' := (mkF m 65 #[.val (.ref ix), .val (.ref en), .val (.long d), .second, .val (.long (dl en)), .second] [(.ref en), (.ref en), (.ref ix)])) (fun _ k => XS.aloadN X134.here hx rfl (hb hby d4_64) rfl rfl k) ?_
            obtain ⟨T159, X159, e159, st159⟩ := getF X134 hx hZ hown (host := "") (Or.inl (hw _ (List.mem_of_getElem? (i := 55) rfl))) Via.refl e134 Fp (g := (mkF m 65 #[.val (.ref ix), .val (.ref en), .val (.long d), .second, .val (.long (dl en)), .second] [(.ref en), (.ref en), (.ref ix)])) rfl rfl (hb hby d4_65)
            refine own_st (T' := T159) (g' := (mkF m 68 #[.val (.ref ix), .val (.ref en), .val (.long d), .second, .val (.long (dl en)), .second] [(.int (1 : Int32)), (.ref en), (.ref ix)])) st159 ?_
            obtain ⟨cq160, q160, q160'⟩ := St.1.cell
            obtain ⟨_, _, ⟨T160, L160, k160, n160⟩, -, X160, ⟨Lc160, hQ160, l160, y160, z160⟩, st160⟩ := X159.privateBack hx (y := (⟨"com/example/ovrdue/ovrdue/keyspace/DeadlineIndex", "siftDown", "(Lcom/example/ovrdue/ovrdue/keyspace/Entry;I)V"⟩ : MethodName)) hown (mvT hZ (hw _ (List.mem_of_getElem? (i := 57) rfl))) (mvT hZ (hw _ (List.mem_of_getElem? (i := 58) rfl))) (own_selP hZ (hw _ (List.mem_of_getElem? (i := 2) rfl)) (hw _ (List.mem_of_getElem? (i := 59) rfl)) (hw _ (List.mem_of_getElem? (i := 58) rfl)) (by decide)) (Cond.privateMethod_at (mvP hZ (hw _ (List.mem_of_getElem? (i := 59) rfl)) (args := #[]))) (mvT hZ (hw _ (List.mem_of_getElem? (i := 60) rfl))) (by decide) (backOf (W := 0) (own_dnA l Z a0 hw [] ix en (1 : Int32) t k es (3 : Int32) f (own_upd dl en d) pl 1 h134 n0 Z0' D St hen (by decide) (by decide) (by decide)) hZ (hw _ (List.mem_of_getElem? (i := 60) rfl)) (hw _ (List.mem_of_getElem? (i := 3) rfl)) (by decide) (by decide)) (g := (mkF m 68 #[.val (.ref ix), .val (.ref en), .val (.long d), .second, .val (.long (dl en)), .second] [(.int (1 : Int32)), (.ref en), (.ref ix)])) rfl (by rw [hml]; rfl) (Steps.refl _) (a := ix) (by first | exact q160 | (rw [e159]; exact q160)) q160' (argsL := [(.ref en), (.int (1 : Int32))]) (rest := []) (lenOf own_pd0 rfl) rfl (by show 2 * 0 + _ ≤ _; exact Nat.le_of_eq rfl) (hb hby d4_68) (fun _ _ => ⟨rfl, e159, (by decide : (0 + 0) + 0 ≤ _), (by decide : (0 + 0) + 0 ≤ _)⟩)
            dsimp only [Pt.U, Pt.locs, Pt.cells, Pt.slots] at X160 l160 y160 z160 st160 hQ160
            subst l160 y160 z160
            obtain ⟨rfl, N160q, K160, St⟩ := hQ160
            have N0''' := Fr.app N0'' N160q
            have Z0'' := Nat.le_trans Z0' K160
            have G0'' := Nat.le_trans G0' K160
            refine own_tr (T' := T160) (g' := (mkF m 71 #[.val (.ref ix), .val (.ref en), .val (.long d), .second, .val (.long (dl en)), .second] [])) st160 ?_
            exact own_ret0 X160 hx Bd.returns Bd.notSynchronized rfl (hb hby d4_71) ⟨rfl, N0''', G0'', [x0, en, x2], _, _, _, St, Or.inr (Or.inr (Or.inr ⟨_, _, _, rfl, rfl, by simp [hf0, hf1, hf2], by simp [hf0, hf1, hf2], by simp [hf0, hf1, hf2], by simp [own_upd, hp0, hp1, hp2, n01, n02, n12, Ne.symm n01, Ne.symm n02, Ne.symm n12], by simp [own_upd, hp0, hp1, hp2, n01, n02, n12, Ne.symm n01, Ne.symm n02, Ne.symm n12], by simp [own_upd, hp0, hp1, hp2, n01, n02, n12, Ne.symm n01, Ne.symm n02, Ne.symm n12], by first | assumption | (symm; assumption), by first | assumption | (symm; assumption), by first | assumption | (symm; assumption), by simp [own_upd, n01, n02, n12, Ne.symm n01, Ne.symm n02, Ne.symm n12, Int64.le_iff_toInt_le, Int64.lt_iff_toInt_lt] at l01 l02 qb ⊢ <;> omega, by simp [own_upd, n01, n02, n12, Ne.symm n01, Ne.symm n02, Ne.symm n12, Int64.le_iff_toInt_le, Int64.lt_iff_toInt_lt] at l01 l02 qb ⊢ <;> omega⟩)), own_mem_add Mm hen q0 (fun x => by simp; try grind)⟩ (by decide) (by decide)
        · have Fp := (St.2.2.2.2 en hen).2.2
          rw [hp2] at Fp
          by_cases qb : d < (dl en)
          · refine own_st (T' := T134) (g' := (mkF m 50 #[.val (.ref ix), .val (.ref en), .val (.long d), .second, .val (.long (dl en)), .second] [])) (fun _ k => XS.ifNo X134.here hx rfl (hb hby d4_47) rfl (Jvm.Free.XT.i0_ge_f ((lw_lt d (dl en)).mpr qb)) k) ?_
            refine own_st (T' := T134) (g' := (mkF m 51 #[.val (.ref ix), .val (.ref en), .val (.long d), .second, .val (.long (dl en)), .second] [(.ref ix)])) (fun _ k => XS.aloadN X134.here hx rfl (hb hby d4_50) rfl rfl k) ?_
            refine own_st (T' := T134) (g' := (mkF m 52 #[.val (.ref ix), .val (.ref en), .val (.long d), .second, .val (.long (dl en)), .second] [(.ref en), (.ref ix)])) (fun _ k => XS.aloadN X134.here hx rfl (hb hby d4_51) rfl rfl k) ?_
            refine own_st (T' := T134) (g' := (mkF m 53 #[.val (.ref ix), .val (.ref en), .val (.long d), .second, .val (.long (dl en)), .second] [(.ref en), (.ref en), (.ref ix)])) (fun _ k => XS.aloadN X134.here hx rfl (hb hby d4_52) rfl rfl k) ?_
            obtain ⟨T161, X161, e161, st161⟩ := getF X134 hx hZ hown (host := "") (Or.inl (hw _ (List.mem_of_getElem? (i := 55) rfl))) Via.refl e134 Fp (g := (mkF m 53 #[.val (.ref ix), .val (.ref en), .val (.long d), .second, .val (.long (dl en)), .second] [(.ref en), (.ref en), (.ref ix)])) rfl rfl (hb hby d4_53)
            refine own_st (T' := T161) (g' := (mkF m 56 #[.val (.ref ix), .val (.ref en), .val (.long d), .second, .val (.long (dl en)), .second] [(.int (2 : Int32)), (.ref en), (.ref ix)])) st161 ?_
            by_cases qc : own_upd dl en d en < own_upd dl en d x0
            · obtain ⟨cq162, q162, q162'⟩ := St.1.cell
              obtain ⟨_, _, ⟨T162, L162, k162, n162⟩, -, X162, ⟨Lc162, hQ162, l162, y162, z162⟩, st162⟩ := X161.privateBack hx (y := (⟨"com/example/ovrdue/ovrdue/keyspace/DeadlineIndex", "siftUp", "(Lcom/example/ovrdue/ovrdue/keyspace/Entry;I)V"⟩ : MethodName)) hown (mvT hZ (hw _ (List.mem_of_getElem? (i := 46) rfl))) (mvT hZ (hw _ (List.mem_of_getElem? (i := 47) rfl))) (own_selP hZ (hw _ (List.mem_of_getElem? (i := 2) rfl)) (hw _ (List.mem_of_getElem? (i := 48) rfl)) (hw _ (List.mem_of_getElem? (i := 47) rfl)) (by decide)) (Cond.privateMethod_at (mvP hZ (hw _ (List.mem_of_getElem? (i := 48) rfl)) (args := #[]))) (mvT hZ (hw _ (List.mem_of_getElem? (i := 49) rfl))) (by decide) (backOf (W := 0) (own_upB l Z a0 hw [] ix en (2 : Int32) t k es (3 : Int32) f (own_upd dl en d) pl 2 x0 h134 n0 Z0' D St hen hx0 (by decide) (by decide) hf0 qc) hZ (hw _ (List.mem_of_getElem? (i := 49) rfl)) (hw _ (List.mem_of_getElem? (i := 3) rfl)) (by decide) (by decide)) (g := (mkF m 56 #[.val (.ref ix), .val (.ref en), .val (.long d), .second, .val (.long (dl en)), .second] [(.int (2 : Int32)), (.ref en), (.ref ix)])) rfl (by rw [hml]; rfl) (Steps.refl _) (a := ix) (by first | exact q162 | (rw [e161]; exact q162)) q162' (argsL := [(.ref en), (.int (2 : Int32))]) (rest := []) (lenOf own_pd0 rfl) rfl (by show 2 * 0 + _ ≤ _; exact Nat.le_of_eq rfl) (hb hby d4_56) (fun _ _ => ⟨rfl, e161, (by decide : (0 + 0) + 0 ≤ _), (by decide : (0 + 0) + 0 ≤ _)⟩)
              dsimp only [Pt.U, Pt.locs, Pt.cells, Pt.slots] at X162 l162 y162 z162 st162 hQ162
              subst l162 y162 z162
              obtain ⟨rfl, N162q, K162, St⟩ := hQ162
              have N0''' := Fr.app N0'' N162q
              have Z0'' := Nat.le_trans Z0' K162
              have G0'' := Nat.le_trans G0' K162
              refine own_tr (T' := T162) (g' := (mkF m 59 #[.val (.ref ix), .val (.ref en), .val (.long d), .second, .val (.long (dl en)), .second] [])) st162 ?_
              refine own_st (T' := T162) (g' := (mkF m 71 #[.val (.ref ix), .val (.ref en), .val (.long d), .second, .val (.long (dl en)), .second] [])) (fun _ k => XS.goto X162.here hx rfl (pc0 := 59) (pc' := 71) rfl (hb hby d4_59) (by decide) (by decide) k) ?_
              exact own_ret0 X162 hx Bd.returns Bd.notSynchronized rfl (hb hby d4_71) ⟨rfl, N0''', G0'', [en, x1, x0], _, _, _, St, Or.inr (Or.inr (Or.inr ⟨_, _, _, rfl, rfl, by simp [hf0, hf1, hf2], by simp [hf0, hf1, hf2], by simp [hf0, hf1, hf2], by simp [own_upd, hp0, hp1, hp2, n01, n02, n12, Ne.symm n01, Ne.symm n02, Ne.symm n12], by simp [own_upd, hp0, hp1, hp2, n01, n02, n12, Ne.symm n01, Ne.symm n02, Ne.symm n12], by simp [own_upd, hp0, hp1, hp2, n01, n02, n12, Ne.symm n01, Ne.symm n02, Ne.symm n12], by first | assumption | (symm; assumption), by first | assumption | (symm; assumption), by first | assumption | (symm; assumption), by simp [own_upd, n01, n02, n12, Ne.symm n01, Ne.symm n02, Ne.symm n12, Int64.le_iff_toInt_le, Int64.lt_iff_toInt_lt] at l01 l02 qb qc ⊢ <;> omega, by simp [own_upd, n01, n02, n12, Ne.symm n01, Ne.symm n02, Ne.symm n12, Int64.le_iff_toInt_le, Int64.lt_iff_toInt_lt] at l01 l02 qb qc ⊢ <;> omega⟩)), own_mem_add Mm hen q0 (fun x => by simp; try grind)⟩ (by decide) (by decide)
            · obtain ⟨cq163, q163, q163'⟩ := St.1.cell
              obtain ⟨_, _, ⟨T163, L163, k163, n163⟩, -, X163, ⟨Lc163, hQ163, l163, y163, z163⟩, st163⟩ := X161.privateBack hx (y := (⟨"com/example/ovrdue/ovrdue/keyspace/DeadlineIndex", "siftUp", "(Lcom/example/ovrdue/ovrdue/keyspace/Entry;I)V"⟩ : MethodName)) hown (mvT hZ (hw _ (List.mem_of_getElem? (i := 46) rfl))) (mvT hZ (hw _ (List.mem_of_getElem? (i := 47) rfl))) (own_selP hZ (hw _ (List.mem_of_getElem? (i := 2) rfl)) (hw _ (List.mem_of_getElem? (i := 48) rfl)) (hw _ (List.mem_of_getElem? (i := 47) rfl)) (by decide)) (Cond.privateMethod_at (mvP hZ (hw _ (List.mem_of_getElem? (i := 48) rfl)) (args := #[]))) (mvT hZ (hw _ (List.mem_of_getElem? (i := 49) rfl))) (by decide) (backOf (W := 0) (own_upA l Z a0 hw [] ix en (2 : Int32) t k es (3 : Int32) f (own_upd dl en d) pl 2 x0 h134 n0 Z0' D St hen (by decide) (by decide) (fun _ => ⟨hf0, hx0, qc⟩)) hZ (hw _ (List.mem_of_getElem? (i := 49) rfl)) (hw _ (List.mem_of_getElem? (i := 3) rfl)) (by decide) (by decide)) (g := (mkF m 56 #[.val (.ref ix), .val (.ref en), .val (.long d), .second, .val (.long (dl en)), .second] [(.int (2 : Int32)), (.ref en), (.ref ix)])) rfl (by rw [hml]; rfl) (Steps.refl _) (a := ix) (by first | exact q163 | (rw [e161]; exact q163)) q163' (argsL := [(.ref en), (.int (2 : Int32))]) (rest := []) (lenOf own_pd0 rfl) rfl (by show 2 * 0 + _ ≤ _; exact Nat.le_of_eq rfl) (hb hby d4_56) (fun _ _ => ⟨rfl, e161, (by decide : (0 + 0) + 0 ≤ _), (by decide : (0 + 0) + 0 ≤ _)⟩)
              dsimp only [Pt.U, Pt.locs, Pt.cells, Pt.slots] at X163 l163 y163 z163 st163 hQ163
              subst l163 y163 z163
              obtain ⟨rfl, N163q, K163, St⟩ := hQ163
              have N0''' := Fr.app N0'' N163q
              have Z0'' := Nat.le_trans Z0' K163
              have G0'' := Nat.le_trans G0' K163
              refine own_tr (T' := T163) (g' := (mkF m 59 #[.val (.ref ix), .val (.ref en), .val (.long d), .second, .val (.long (dl en)), .second] [])) st163 ?_
              refine own_st (T' := T163) (g' := (mkF m 71 #[.val (.ref ix), .val (.ref en), .val (.long d), .second, .val (.long (dl en)), .second] [])) (fun _ k => XS.goto X163.here hx rfl (pc0 := 59) (pc' := 71) rfl (hb hby d4_59) (by decide) (by decide) k) ?_
              exact own_ret0 X163 hx Bd.returns Bd.notSynchronized rfl (hb hby d4_71) ⟨rfl, N0''', G0'', [x0, x1, en], _, _, _, St, Or.inr (Or.inr (Or.inr ⟨_, _, _, rfl, rfl, by simp [hf0, hf1, hf2], by simp [hf0, hf1, hf2], by simp [hf0, hf1, hf2], by simp [own_upd, hp0, hp1, hp2, n01, n02, n12, Ne.symm n01, Ne.symm n02, Ne.symm n12], by simp [own_upd, hp0, hp1, hp2, n01, n02, n12, Ne.symm n01, Ne.symm n02, Ne.symm n12], by simp [own_upd, hp0, hp1, hp2, n01, n02, n12, Ne.symm n01, Ne.symm n02, Ne.symm n12], by first | assumption | (symm; assumption), by first | assumption | (symm; assumption), by first | assumption | (symm; assumption), by simp [own_upd, n01, n02, n12, Ne.symm n01, Ne.symm n02, Ne.symm n12, Int64.le_iff_toInt_le, Int64.lt_iff_toInt_lt] at l01 l02 qb qc ⊢ <;> omega, by simp [own_upd, n01, n02, n12, Ne.symm n01, Ne.symm n02, Ne.symm n12, Int64.le_iff_toInt_le, Int64.lt_iff_toInt_lt] at l01 l02 qb qc ⊢ <;> omega⟩)), own_mem_add Mm hen q0 (fun x => by simp; try grind)⟩ (by decide) (by decide)
          · refine own_st (T' := T134) (g' := (mkF m 62 #[.val (.ref ix), .val (.ref en), .val (.long d), .second, .val (.long (dl en)), .second] [])) (fun _ k => XS.ifYes X134.here hx rfl (pc0 := 47) (pc' := 62) rfl (hb hby d4_47) rfl (Jvm.Free.XT.i0_ge_t (mt (lw_lt d (dl en)).mp qb)) (by decide) (by decide) k) ?_
            refine own_st (T' := T134) (g' := (mkF m 63 #[.val (.ref ix), .val (.ref en), .val (.long d), .second, .val (.long (dl en)), .second] [(.ref ix)])) (fun _ k => XS.aloadN X134.here hx rfl (hb hby d4_62) rfl rfl k) ?_
            refine own_st (T' := T134) (g' := (mkF m 64 #[.val (.ref ix), .val (.ref en), .val (.long d), .second, .val (.long (dl en)), .second] [(.ref en), (.ref ix)])) (fun _ k => XS.aloadN X134.here hx rfl (hb hby d4_63) rfl rfl k) ?_
            refine own_st (T' := T134) (g' := (mkF m 65 #[.val (.ref ix), .val (.ref en), .val (.long d), .second, .val (.long (dl en)), .second] [(.ref en), (.ref en), (.ref ix)])) (fun _ k => XS.aloadN X134.here hx rfl (hb hby d4_64) rfl rfl k) ?_
            obtain ⟨T164, X164, e164, st164⟩ := getF X134 hx hZ hown (host := "") (Or.inl (hw _ (List.mem_of_getElem? (i := 55) rfl))) Via.refl e134 Fp (g := (mkF m 65 #[.val (.ref ix), .val (.ref en), .val (.long d), .second, .val (.long (dl en)), .second] [(.ref en), (.ref en), (.ref ix)])) rfl rfl (hb hby d4_65)
            refine own_st (T' := T164) (g' := (mkF m 68 #[.val (.ref ix), .val (.ref en), .val (.long d), .second, .val (.long (dl en)), .second] [(.int (2 : Int32)), (.ref en), (.ref ix)])) st164 ?_
            obtain ⟨cq165, q165, q165'⟩ := St.1.cell
            obtain ⟨_, _, ⟨T165, L165, k165, n165⟩, -, X165, ⟨Lc165, hQ165, l165, y165, z165⟩, st165⟩ := X164.privateBack hx (y := (⟨"com/example/ovrdue/ovrdue/keyspace/DeadlineIndex", "siftDown", "(Lcom/example/ovrdue/ovrdue/keyspace/Entry;I)V"⟩ : MethodName)) hown (mvT hZ (hw _ (List.mem_of_getElem? (i := 57) rfl))) (mvT hZ (hw _ (List.mem_of_getElem? (i := 58) rfl))) (own_selP hZ (hw _ (List.mem_of_getElem? (i := 2) rfl)) (hw _ (List.mem_of_getElem? (i := 59) rfl)) (hw _ (List.mem_of_getElem? (i := 58) rfl)) (by decide)) (Cond.privateMethod_at (mvP hZ (hw _ (List.mem_of_getElem? (i := 59) rfl)) (args := #[]))) (mvT hZ (hw _ (List.mem_of_getElem? (i := 60) rfl))) (by decide) (backOf (W := 0) (own_dnA l Z a0 hw [] ix en (2 : Int32) t k es (3 : Int32) f (own_upd dl en d) pl 2 h134 n0 Z0' D St hen (by decide) (by decide) (by decide)) hZ (hw _ (List.mem_of_getElem? (i := 60) rfl)) (hw _ (List.mem_of_getElem? (i := 3) rfl)) (by decide) (by decide)) (g := (mkF m 68 #[.val (.ref ix), .val (.ref en), .val (.long d), .second, .val (.long (dl en)), .second] [(.int (2 : Int32)), (.ref en), (.ref ix)])) rfl (by rw [hml]; rfl) (Steps.refl _) (a := ix) (by first | exact q165 | (rw [e164]; exact q165)) q165' (argsL := [(.ref en), (.int (2 : Int32))]) (rest := []) (lenOf own_pd0 rfl) rfl (by show 2 * 0 + _ ≤ _; exact Nat.le_of_eq rfl) (hb hby d4_68) (fun _ _ => ⟨rfl, e164, (by decide : (0 + 0) + 0 ≤ _), (by decide : (0 + 0) + 0 ≤ _)⟩)
            dsimp only [Pt.U, Pt.locs, Pt.cells, Pt.slots] at X165 l165 y165 z165 st165 hQ165
            subst l165 y165 z165
            obtain ⟨rfl, N165q, K165, St⟩ := hQ165
            have N0''' := Fr.app N0'' N165q
            have Z0'' := Nat.le_trans Z0' K165
            have G0'' := Nat.le_trans G0' K165
            refine own_tr (T' := T165) (g' := (mkF m 71 #[.val (.ref ix), .val (.ref en), .val (.long d), .second, .val (.long (dl en)), .second] [])) st165 ?_
            exact own_ret0 X165 hx Bd.returns Bd.notSynchronized rfl (hb hby d4_71) ⟨rfl, N0''', G0'', [x0, x1, en], _, _, _, St, Or.inr (Or.inr (Or.inr ⟨_, _, _, rfl, rfl, by simp [hf0, hf1, hf2], by simp [hf0, hf1, hf2], by simp [hf0, hf1, hf2], by simp [own_upd, hp0, hp1, hp2, n01, n02, n12, Ne.symm n01, Ne.symm n02, Ne.symm n12], by simp [own_upd, hp0, hp1, hp2, n01, n02, n12, Ne.symm n01, Ne.symm n02, Ne.symm n12], by simp [own_upd, hp0, hp1, hp2, n01, n02, n12, Ne.symm n01, Ne.symm n02, Ne.symm n12], by first | assumption | (symm; assumption), by first | assumption | (symm; assumption), by first | assumption | (symm; assumption), by simp [own_upd, n01, n02, n12, Ne.symm n01, Ne.symm n02, Ne.symm n12, Int64.le_iff_toInt_le, Int64.lt_iff_toInt_lt] at l01 l02 qb ⊢ <;> omega, by simp [own_upd, n01, n02, n12, Ne.symm n01, Ne.symm n02, Ne.symm n12, Int64.le_iff_toInt_le, Int64.lt_iff_toInt_lt] at l01 l02 qb ⊢ <;> omega⟩)), own_mem_add Mm hen q0 (fun x => by simp; try grind)⟩ (by decide) (by decide)
theorem own_Ix.ex {Z : State} {h : Heap} {ix t : Addr} {k : ClassId} {es : List Addr} {dl : Addr → Int64} (I : own_Ix Z h ix t k es dl) : Exa Z h ix "com/example/ovrdue/ovrdue/keyspace/DeadlineIndex" := by
  obtain ⟨xs, f, pl, n, St, -, -⟩ := I; exact St.1
theorem own_to3 {w : Int32} (h : 0 ≤ w.toInt ∧ w.toInt < (3 : Int32).toInt) : w = 0 ∨ w = 1 ∨ w = 2 := by
  have e3 : (3 : Int32).toInt = 3 := rfl
  rcases (by omega : w.toInt = 0 ∨ w.toInt = 1 ∨ w.toInt = 2) with q | q | q
  · exact Or.inl (Int32.toInt_inj.mp q)
  · exact Or.inr (Or.inl (Int32.toInt_inj.mp q))
  · exact Or.inr (Or.inr (Int32.toInt_inj.mp q))
theorem d10_0 : decode prog_6_method_3_code 0 = .ok (.aload_n 0, 1) := by decide +kernel
theorem d10_1 : decode prog_6_method_3_code 1 = .ok (.getfield 15, 3) := by decide +kernel
theorem d10_4 : decode prog_6_method_3_code 4 = .ok (.ifCond .ne 7, 3) := by decide +kernel
theorem d10_7 : decode prog_6_method_3_code 7 = .ok (.aconst_null, 1) := by decide +kernel
theorem d10_8 : decode prog_6_method_3_code 8 = .ok (.goto 9, 3) := by decide +kernel
theorem d10_11 : decode prog_6_method_3_code 11 = .ok (.aload_n 0, 1) := by decide +kernel
theorem d10_12 : decode prog_6_method_3_code 12 = .ok (.getfield 11, 3) := by decide +kernel
theorem d10_15 : decode prog_6_method_3_code 15 = .ok (.iconst 0, 1) := by decide +kernel
theorem d10_16 : decode prog_6_method_3_code 16 = .ok (.aaload, 1) := by decide +kernel
theorem d10_17 : decode prog_6_method_3_code 17 = .ok (.areturn, 1) := by decide +kernel
def own_first_Q (Z : State) (ix : Addr) (t : Addr) (k : ClassId) (es : List Addr) (dl : Addr → Int64) (h0 : Heap) (n0 : Nat) (v : Option Value) (h : Heap) (L : List Loc) : Prop := ∃ r, v = some r ∧ Fr n0 L ∧ h = h0 ∧ r.isRef = true ∧ ((r = .null ∧ ∀ y, y ∈ es → dl y = (-9223372036854775808 : Int64)) ∨ ∃ x0, x0 ∈ es ∧ r = .ref x0 ∧ dl x0 ≠ (-9223372036854775808 : Int64) ∧ ∀ y, y ∈ es → dl y ≠ (-9223372036854775808 : Int64) → dl x0 ≤ dl y)
set_option maxRecDepth 65536 in
set_option maxHeartbeats 40000000 in
theorem own_first (l : Launch) (Z : State) (a0 : Array Value) (hw : ∀ d ∈ tables_1, d.before a0 Z = true) (ws : List Jvm.Cond) (ix : Addr) (t : Addr) (k : ClassId) (es : List Addr) (dl : Addr → Int64) (h0 : Heap) (n0 : Nat) (Z0 : n0 ≤ h0.size) (Ix : own_Ix Z h0 ix t k es dl) :
    MetFree l (⟨"com/example/ovrdue/ovrdue/keyspace/DeadlineIndex", "first", "()Lcom/example/ovrdue/ovrdue/keyspace/Entry;"⟩ : MethodName) (head1 (Jvm.Cond.code (⟨"com/example/ovrdue/ovrdue/keyspace/DeadlineIndex", "first", "()Lcom/example/ovrdue/ovrdue/keyspace/Entry;"⟩ : MethodName) prog_6_method_3_code 1 (some (.object "com/example/ovrdue/ovrdue/keyspace/Entry")) :: ws) ({ frames := 0, cells := 0, slots := 0, locals := 0 } : Room)) (fun aa U0 => aa = #[(.ref ix)] ∧ Z.Warmed39 U0.vm ∧ U0.heap = h0) (fun _ _ _ _ _ => True) (fun _ U0 o0 U1 => ∃ v0 L0, o0 = .returned v0 ∧ own_first_Q Z ix t k es dl h0 n0 v0 U1.heap L0 ∧ FrameEnd U0 o0 U1 L0 ({ frames := 0, cells := 0, slots := 0, locals := 0 } : Room).cells ({ frames := 0, cells := 0, slots := 0, locals := 0 } : Room).slots) := by
  refine MetFree.of_bodySF (plainFor_of_name own_pn0) hisR ?_
  intro p e s m args below meth c s₁ Bd hml0 hP hK
  obtain ⟨rfl, hZ, hh⟩ := hP
  have hx := Bd.exec
  have hby := Bd.bytes
  have hml : c.maxLocals = 1 := hml0
  have hown : s.vm.findClass "com/example/ovrdue/ovrdue/keyspace/DeadlineIndex" = some m.cls := findClass_of_methodNamed Bd.named
  have hnm := (name_of_methodNamed Bd.named Bd.method).1
  have X0 : Stand p l e ({ frames := 0, cells := 0, slots := 0, locals := 0 } : Room) s m #[(.ref ix)] below meth c s₁ [] 0 0 := Stand.of_body Bd
  have e0 : s₁.heap = h0 := by rw [← hh, Bd.state]; rfl
  have N0 := Fr.nil n0
  show own_Go p e below s (own_first_Q Z ix t k es dl h0 n0) 0 0 s₁ (entryFrame m #[(.ref ix)] 1)
  rw [show entryFrame m #[(.ref ix)] 1 = mkF m 0 #[.val (.ref ix)] [] from by first | (simp [entryFrame, mkF, argsToLocals, Value.category]; done) | rfl]
  obtain ⟨xs, f, pl, n, St, Iv, Mm⟩ := Ix
  rcases Iv with ⟨rfl, rfl⟩ | ⟨x0, rfl, rfl, hf0, hp0⟩ | ⟨x0, x1, rfl, rfl, hf0, hf1, hp0, hp1, n01, l01⟩ | ⟨x0, x1, x2, rfl, rfl, hf0, hf1, hf2, hp0, hp1, hp2, n01, n02, n12, l01, l02⟩
  · refine own_st (T' := s₁) (g' := (mkF m 1 #[.val (.ref ix)] [(.ref ix)])) (fun _ k => XS.aloadN X0.here hx rfl (hb hby d10_0) rfl rfl k) ?_
    obtain ⟨T166, X166, e166, st166⟩ := getF X0 hx hZ hown (host := "") (Or.inl (hw _ (List.mem_of_getElem? (i := 43) rfl))) Via.refl e0 St.2.2.1 (g := (mkF m 1 #[.val (.ref ix)] [(.ref ix)])) rfl rfl (hb hby d10_1)
    refine own_st (T' := T166) (g' := (mkF m 4 #[.val (.ref ix)] [(.int (0 : Int32))])) st166 ?_
    refine own_st (T' := T166) (g' := (mkF m 7 #[.val (.ref ix)] [])) (fun _ k => XS.ifNo X166.here hx rfl (hb hby d10_4) rfl (Jvm.Free.XT.i0_ne_f rfl) k) ?_
    refine own_st (T' := T166) (g' := (mkF m 8 #[.val (.ref ix)] [.null])) (fun _ k => XS.aconstNull X166.here hx rfl (hb hby d10_7) k) ?_
    refine own_st (T' := T166) (g' := (mkF m 17 #[.val (.ref ix)] [.null])) (fun _ k => XS.goto X166.here hx rfl (pc0 := 8) (pc' := 17) rfl (hb hby d10_8) (by decide) (by decide) k) ?_
    exact own_retR X166 hx Bd.returns Bd.notSynchronized e166 rfl rfl (hb hby d10_17) ⟨.null, rfl, N0, rfl, rfl, Or.inl ⟨rfl, fun y hy => Classical.byContradiction fun u => by simpa using (Mm.2 y hy).mpr u⟩⟩ (by decide) (by decide)
  · have hx0 := Mm.1 x0 (by simp)
    refine own_st (T' := s₁) (g' := (mkF m 1 #[.val (.ref ix)] [(.ref ix)])) (fun _ k => XS.aloadN X0.here hx rfl (hb hby d10_0) rfl rfl k) ?_
    obtain ⟨T167, X167, e167, st167⟩ := getF X0 hx hZ hown (host := "") (Or.inl (hw _ (List.mem_of_getElem? (i := 43) rfl))) Via.refl e0 St.2.2.1 (g := (mkF m 1 #[.val (.ref ix)] [(.ref ix)])) rfl rfl (hb hby d10_1)
    refine own_st (T' := T167) (g' := (mkF m 4 #[.val (.ref ix)] [(.int (1 : Int32))])) st167 ?_
    refine own_st (T' := T167) (g' := (mkF m 11 #[.val (.ref ix)] [])) (fun _ k => XS.ifYes X167.here hx rfl (pc0 := 4) (pc' := 11) rfl (hb hby d10_4) rfl (Jvm.Free.XT.i0_ne_t (by decide)) (by decide) (by decide) k) ?_
    refine own_st (T' := T167) (g' := (mkF m 12 #[.val (.ref ix)] [(.ref ix)])) (fun _ k => XS.aloadN X167.here hx rfl (hb hby d10_11) rfl rfl k) ?_
    obtain ⟨T168, X168, e168, st168⟩ := getF X167 hx hZ hown (host := "") (Or.inl (hw _ (List.mem_of_getElem? (i := 12) rfl))) Via.refl e167 St.2.1 (g := (mkF m 12 #[.val (.ref ix)] [(.ref ix)])) rfl rfl (hb hby d10_12)
    refine own_st (T' := T168) (g' := (mkF m 15 #[.val (.ref ix)] [(.ref t)])) st168 ?_
    refine own_st (T' := T168) (g' := (mkF m 16 #[.val (.ref ix)] [(.int (0 : Int32)), (.ref t)])) (fun _ k => XS.iconst X168.here hx rfl (hb hby d10_15) k) ?_
    refine own_st (T' := T168) (g' := (mkF m 17 #[.val (.ref ix)] [(.ref x0)])) (own_ldR X168 hx hZ e168 St.2.2.2.1 rfl (i := 0) (by decide) (by decide) (v := (.ref x0)) hf0 (g := (mkF m 16 #[.val (.ref ix)] [(.int (0 : Int32)), (.ref t)])) rfl rfl (hb hby d10_16)) ?_
    have hmn : ∀ y, y ∈ es → dl y ≠ (-9223372036854775808 : Int64) → dl x0 ≤ dl y := fun y hy hq => by
                    have hy := (Mm.2 y hy).mpr hq
                    simp at hy
                    subst hy; exact Int64.le_refl _
    exact own_retR X168 hx Bd.returns Bd.notSynchronized e168 rfl rfl (hb hby d10_17) ⟨.ref x0, rfl, N0, rfl, rfl, Or.inr ⟨x0, hx0, rfl, (Mm.2 x0 hx0).mp (by simp), hmn⟩⟩ (by decide) (by decide)
  · have hx0 := Mm.1 x0 (by simp)
    have hx1 := Mm.1 x1 (by simp)
    refine own_st (T' := s₁) (g' := (mkF m 1 #[.val (.ref ix)] [(.ref ix)])) (fun _ k => XS.aloadN X0.here hx rfl (hb hby d10_0) rfl rfl k) ?_
    obtain ⟨T169, X169, e169, st169⟩ := getF X0 hx hZ hown (host := "") (Or.inl (hw _ (List.mem_of_getElem? (i := 43) rfl))) Via.refl e0 St.2.2.1 (g := (mkF m 1 #[.val (.ref ix)] [(.ref ix)])) rfl rfl (hb hby d10_1)
    refine own_st (T' := T169) (g' := (mkF m 4 #[.val (.ref ix)] [(.int (2 : Int32))])) st169 ?_
    refine own_st (T' := T169) (g' := (mkF m 11 #[.val (.ref ix)] [])) (fun _ k => XS.ifYes X169.here hx rfl (pc0 := 4) (pc' := 11) rfl (hb hby d10_4) rfl (Jvm.Free.XT.i0_ne_t (by decide)) (by decide) (by decide) k) ?_
    refine own_st (T' := T169) (g' := (mkF m 12 #[.val (.ref ix)] [(.ref ix)])) (fun _ k => XS.aloadN X169.here hx rfl (hb hby d10_11) rfl rfl k) ?_
    obtain ⟨T170, X170, e170, st170⟩ := getF X169 hx hZ hown (host := "") (Or.inl (hw _ (List.mem_of_getElem? (i := 12) rfl))) Via.refl e169 St.2.1 (g := (mkF m 12 #[.val (.ref ix)] [(.ref ix)])) rfl rfl (hb hby d10_12)
    refine own_st (T' := T170) (g' := (mkF m 15 #[.val (.ref ix)] [(.ref t)])) st170 ?_
    refine own_st (T' := T170) (g' := (mkF m 16 #[.val (.ref ix)] [(.int (0 : Int32)), (.ref t)])) (fun _ k => XS.iconst X170.here hx rfl (hb hby d10_15) k) ?_
    refine own_st (T' := T170) (g' := (mkF m 17 #[.val (.ref ix)] [(.ref x0)])) (own_ldR X170 hx hZ e170 St.2.2.2.1 rfl (i := 0) (by decide) (by decide) (v := (.ref x0)) hf0 (g := (mkF m 16 #[.val (.ref ix)] [(.int (0 : Int32)), (.ref t)])) rfl rfl (hb hby d10_16)) ?_
    have hmn : ∀ y, y ∈ es → dl y ≠ (-9223372036854775808 : Int64) → dl x0 ≤ dl y := fun y hy hq => by
                    have hy := (Mm.2 y hy).mpr hq
                    simp at hy
                    rcases hy with rfl | rfl
                    · exact Int64.le_refl _
                    · exact l01
    exact own_retR X170 hx Bd.returns Bd.notSynchronized e170 rfl rfl (hb hby d10_17) ⟨.ref x0, rfl, N0, rfl, rfl, Or.inr ⟨x0, hx0, rfl, (Mm.2 x0 hx0).mp (by simp), hmn⟩⟩ (by decide) (by decide)
  · have hx0 := Mm.1 x0 (by simp)
    have hx1 := Mm.1 x1 (by simp)
    have hx2 := Mm.1 x2 (by simp)
    refine own_st (T' := s₁) (g' := (mkF m 1 #[.val (.ref ix)] [(.ref ix)])) (fun _ k => XS.aloadN X0.here hx rfl (hb hby d10_0) rfl rfl k) ?_
    obtain ⟨T171, X171, e171, st171⟩ := getF X0 hx hZ hown (host := "") (Or.inl (hw _ (List.mem_of_getElem? (i := 43) rfl))) Via.refl e0 St.2.2.1 (g := (mkF m 1 #[.val (.ref ix)] [(.ref ix)])) rfl rfl (hb hby d10_1)
    refine own_st (T' := T171) (g' := (mkF m 4 #[.val (.ref ix)] [(.int (3 : Int32))])) st171 ?_
    refine own_st (T' := T171) (g' := (mkF m 11 #[.val (.ref ix)] [])) (fun _ k => XS.ifYes X171.here hx rfl (pc0 := 4) (pc' := 11) rfl (hb hby d10_4) rfl (Jvm.Free.XT.i0_ne_t (by decide)) (by decide) (by decide) k) ?_
    refine own_st (T' := T171) (g' := (mkF m 12 #[.val (.ref ix)] [(.ref ix)])) (fun _ k => XS.aloadN X171.here hx rfl (hb hby d10_11) rfl rfl k) ?_
    obtain ⟨T172, X172, e172, st172⟩ := getF X171 hx hZ hown (host := "") (Or.inl (hw _ (List.mem_of_getElem? (i := 12) rfl))) Via.refl e171 St.2.1 (g := (mkF m 12 #[.val (.ref ix)] [(.ref ix)])) rfl rfl (hb hby d10_12)
    refine own_st (T' := T172) (g' := (mkF m 15 #[.val (.ref ix)] [(.ref t)])) st172 ?_
    refine own_st (T' := T172) (g' := (mkF m 16 #[.val (.ref ix)] [(.int (0 : Int32)), (.ref t)])) (fun _ k => XS.iconst X172.here hx rfl (hb hby d10_15) k) ?_
    refine own_st (T' := T172) (g' := (mkF m 17 #[.val (.ref ix)] [(.ref x0)])) (own_ldR X172 hx hZ e172 St.2.2.2.1 rfl (i := 0) (by decide) (by decide) (v := (.ref x0)) hf0 (g := (mkF m 16 #[.val (.ref ix)] [(.int (0 : Int32)), (.ref t)])) rfl rfl (hb hby d10_16)) ?_
    have hmn : ∀ y, y ∈ es → dl y ≠ (-9223372036854775808 : Int64) → dl x0 ≤ dl y := fun y hy hq => by
                    have hy := (Mm.2 y hy).mpr hq
                    simp at hy
                    rcases hy with rfl | rfl | rfl
                    · exact Int64.le_refl _
                    · exact l01
                    · exact l02
    exact own_retR X172 hx Bd.returns Bd.notSynchronized e172 rfl rfl (hb hby d10_17) ⟨.ref x0, rfl, N0, rfl, rfl, Or.inr ⟨x0, hx0, rfl, (Mm.2 x0 hx0).mp (by simp), hmn⟩⟩ (by decide) (by decide)
theorem d11_0 : decode jdk_29_method_70_code 0 = .ok (.lload_n 0, 1) := by decide +kernel
theorem d11_1 : decode jdk_29_method_70_code 1 = .ok (.lload_n 2, 1) := by decide +kernel
theorem d11_2 : decode jdk_29_method_70_code 2 = .ok (.lcmp, 1) := by decide +kernel
theorem d11_3 : decode jdk_29_method_70_code 3 = .ok (.ifCond .gt 7, 3) := by decide +kernel
theorem d11_6 : decode jdk_29_method_70_code 6 = .ok (.lload_n 0, 1) := by decide +kernel
theorem d11_7 : decode jdk_29_method_70_code 7 = .ok (.goto 4, 3) := by decide +kernel
theorem d11_10 : decode jdk_29_method_70_code 10 = .ok (.lload_n 2, 1) := by decide +kernel
theorem d11_11 : decode jdk_29_method_70_code 11 = .ok (.lreturn, 1) := by decide +kernel
def own_min_Q (Z : State) (u : Int64) (w : Int64) (h0 : Heap) (n0 : Nat) (v : Option Value) (h : Heap) (L : List Loc) : Prop := v = some (.long (if w < u then w else u)) ∧ Fr n0 L ∧ h = h0
set_option maxRecDepth 65536 in
set_option maxHeartbeats 40000000 in
theorem own_min (l : Launch) (Z : State) (a0 : Array Value) (hw : ∀ d ∈ tables_1, d.before a0 Z = true) (ws : List Jvm.Cond) (u : Int64) (w : Int64) (h0 : Heap) (n0 : Nat) (Z0 : n0 ≤ h0.size) :
    MetFree l (⟨"java/lang/Math", "min", "(JJ)J"⟩ : MethodName) (head1 (Jvm.Cond.code (⟨"java/lang/Math", "min", "(JJ)J"⟩ : MethodName) jdk_29_method_70_code 4 (some .long) :: ws) ({ frames := 0, cells := 0, slots := 0, locals := 0 } : Room)) (fun aa U0 => aa = #[(.long u), (.long w)] ∧ Z.Warmed39 U0.vm ∧ U0.heap = h0) (fun _ _ _ _ _ => True) (fun _ U0 o0 U1 => ∃ v0 L0, o0 = .returned v0 ∧ own_min_Q Z u w h0 n0 v0 U1.heap L0 ∧ FrameEnd U0 o0 U1 L0 ({ frames := 0, cells := 0, slots := 0, locals := 0 } : Room).cells ({ frames := 0, cells := 0, slots := 0, locals := 0 } : Room).slots) := by
  refine MetFree.of_bodySF (Jvm.Free.JP.mathPlain rfl (by decide +kernel)) hisR ?_
  intro p e s m args below meth c s₁ Bd hml0 hP hK
  obtain ⟨rfl, hZ, hh⟩ := hP
  have hx := Bd.exec
  have hby := Bd.bytes
  have hml : c.maxLocals = 4 := hml0
  have hown : s.vm.findClass "java/lang/Math" = some m.cls := findClass_of_methodNamed Bd.named
  have hnm := (name_of_methodNamed Bd.named Bd.method).1
  have X0 : Stand p l e ({ frames := 0, cells := 0, slots := 0, locals := 0 } : Room) s m #[(.long u), (.long w)] below meth c s₁ [] 0 0 := Stand.of_body Bd
  have e0 : s₁.heap = h0 := by rw [← hh, Bd.state]; rfl
  have N0 := Fr.nil n0
  show own_Go p e below s (own_min_Q Z u w h0 n0) 0 0 s₁ (entryFrame m #[(.long u), (.long w)] 4)
  rw [show entryFrame m #[(.long u), (.long w)] 4 = mkF m 0 #[.val (.long u), .second, .val (.long w), .second] [] from by first | (simp [entryFrame, mkF, argsToLocals, Value.category]; done) | rfl]
  refine own_st (T' := s₁) (g' := (mkF m 1 #[.val (.long u), .second, .val (.long w), .second] [(.long u)])) (fun _ k => XS.lloadN X0.here hx rfl (hb hby d11_0) rfl k) ?_
  refine own_st (T' := s₁) (g' := (mkF m 2 #[.val (.long u), .second, .val (.long w), .second] [(.long w), (.long u)])) (fun _ k => XS.lloadN X0.here hx rfl (hb hby d11_1) rfl k) ?_
  refine own_st (T' := s₁) (g' := (mkF m 3 #[.val (.long u), .second, .val (.long w), .second] [(.int (lcmpW u w))])) (fun _ k => XS.lcmp X0.here hx rfl (hb hby d11_2) rfl k) ?_
  by_cases q1 : w < u
  · refine own_st (T' := s₁) (g' := (mkF m 10 #[.val (.long u), .second, .val (.long w), .second] [])) (fun _ k => XS.ifYes X0.here hx rfl (pc0 := 3) (pc' := 10) rfl (hb hby d11_3) rfl (Jvm.Free.XT.i0_gt_t ((lw_gt u w).mpr q1)) (by decide) (by decide) k) ?_
    refine own_st (T' := s₁) (g' := (mkF m 11 #[.val (.long u), .second, .val (.long w), .second] [(.long w)])) (fun _ k => XS.lloadN X0.here hx rfl (hb hby d11_10) rfl k) ?_
    exact own_retJ X0 hx Bd.returns Bd.notSynchronized e0 (hb hby d11_11) ⟨by simp [q1], N0, rfl⟩ (by decide) (by decide)
  · refine own_st (T' := s₁) (g' := (mkF m 6 #[.val (.long u), .second, .val (.long w), .second] [])) (fun _ k => XS.ifNo X0.here hx rfl (hb hby d11_3) rfl (Jvm.Free.XT.i0_gt_f (mt (lw_gt u w).mp q1)) k) ?_
    refine own_st (T' := s₁) (g' := (mkF m 7 #[.val (.long u), .second, .val (.long w), .second] [(.long u)])) (fun _ k => XS.lloadN X0.here hx rfl (hb hby d11_6) rfl k) ?_
    refine own_st (T' := s₁) (g' := (mkF m 11 #[.val (.long u), .second, .val (.long w), .second] [(.long u)])) (fun _ k => XS.goto X0.here hx rfl (pc0 := 7) (pc' := 11) rfl (hb hby d11_7) (by decide) (by decide) k) ?_
    exact own_retJ X0 hx Bd.returns Bd.notSynchronized e0 (hb hby d11_11) ⟨by simp [q1], N0, rfl⟩ (by decide) (by decide)
theorem d1_0 : decode prog_6_method_1_code 0 = .ok (.aload_n 0, 1) := by decide +kernel
theorem d1_1 : decode prog_6_method_1_code 1 = .ok (.invokespecial 1, 3) := by decide +kernel
theorem d1_4 : decode prog_6_method_1_code 4 = .ok (.aload_n 0, 1) := by decide +kernel
theorem d1_5 : decode prog_6_method_1_code 5 = .ok (.bipush 16, 2) := by decide +kernel
theorem d1_7 : decode prog_6_method_1_code 7 = .ok (.anewarray 9, 3) := by decide +kernel
theorem d1_10 : decode prog_6_method_1_code 10 = .ok (.putfield 11, 3) := by decide +kernel
theorem d1_13 : decode prog_6_method_1_code 13 = .ok (.return_, 1) := by decide +kernel
def own_ini_Q (Z : State) (a : Addr) (h0 : Heap) (n0 : Nat) (v : Option Value) (h : Heap) (L : List Loc) : Prop := v = none ∧ Fr n0 L ∧ Keep h0 h [a] ∧ Exa Z h a "com/example/ovrdue/ovrdue/keyspace/DeadlineIndex" ∧ Fld Z h a "com/example/ovrdue/ovrdue/keyspace/DeadlineIndex" "size" "I" (.int (0 : Int32)) ∧ ∃ t k, Fld Z h a "com/example/ovrdue/ovrdue/keyspace/DeadlineIndex" "heap" "[Lcom/example/ovrdue/ovrdue/keyspace/Entry;" (.ref t) ∧ own_Av Z h t k (.object "com/example/ovrdue/ovrdue/keyspace/Entry") 16 (fun _ => .null) ∧ Ovr Z k "com/example/ovrdue/ovrdue/keyspace/Entry" ∧ h0.size ≤ t
set_option maxRecDepth 65536 in
set_option maxHeartbeats 40000000 in
theorem own_ini (l : Launch) (Z : State) (a0 : Array Value) (hw : ∀ d ∈ tables_1, d.before a0 Z = true) (ws : List Jvm.Cond) (a : Addr) (h0 : Heap) (n0 : Nat) (Z0 : n0 ≤ h0.size) (Fh : Fld Z h0 a "com/example/ovrdue/ovrdue/keyspace/DeadlineIndex" "heap" "[Lcom/example/ovrdue/ovrdue/keyspace/Entry;" .null) (Fz : Fld Z h0 a "com/example/ovrdue/ovrdue/keyspace/DeadlineIndex" "size" "I" (.int (0 : Int32))) (Ea : Exa Z h0 a "com/example/ovrdue/ovrdue/keyspace/DeadlineIndex") (ga : n0 ≤ a) :
    MetFree l (⟨"com/example/ovrdue/ovrdue/keyspace/DeadlineIndex", "<init>", "()V"⟩ : MethodName) (head1 (Jvm.Cond.code (⟨"com/example/ovrdue/ovrdue/keyspace/DeadlineIndex", "<init>", "()V"⟩ : MethodName) prog_6_method_1_code 1 none :: ws) ({ frames := 1, cells := 1, slots := 16, locals := 12 } : Room)) (fun aa U0 => aa = #[(.ref a)] ∧ Z.Warmed39 U0.vm ∧ U0.heap = h0) (fun _ _ _ _ _ => True) (fun _ U0 o0 U1 => ∃ v0 L0, o0 = .returned v0 ∧ own_ini_Q Z a h0 n0 v0 U1.heap L0 ∧ FrameEnd U0 o0 U1 L0 ({ frames := 1, cells := 1, slots := 16, locals := 12 } : Room).cells ({ frames := 1, cells := 1, slots := 16, locals := 12 } : Room).slots) := by
  refine MetFree.of_bodySF (plainFor_of_name own_pn0) hisR ?_
  intro p e s m args below meth c s₁ Bd hml0 hP hK
  obtain ⟨rfl, hZ, hh⟩ := hP
  have hx := Bd.exec
  have hby := Bd.bytes
  have hml : c.maxLocals = 1 := hml0
  have hown : s.vm.findClass "com/example/ovrdue/ovrdue/keyspace/DeadlineIndex" = some m.cls := findClass_of_methodNamed Bd.named
  have hnm := (name_of_methodNamed Bd.named Bd.method).1
  have X0 : Stand p l e ({ frames := 1, cells := 1, slots := 16, locals := 12 } : Room) s m #[(.ref a)] below meth c s₁ [] 0 0 := Stand.of_body Bd
  have e0 : s₁.heap = h0 := by rw [← hh, Bd.state]; rfl
  have N0 := Fr.nil n0
  show own_Go p e below s (own_ini_Q Z a h0 n0) 1 16 s₁ (entryFrame m #[(.ref a)] 1)
  rw [show entryFrame m #[(.ref a)] 1 = mkF m 0 #[.val (.ref a)] [] from by first | (simp [entryFrame, mkF, argsToLocals, Value.category]; done) | rfl]
  have Kp := Keep.refl h0 [a]
  refine own_st (T' := s₁) (g' := (mkF m 1 #[.val (.ref a)] [(.ref a)])) (fun _ k => XS.aloadN X0.here hx rfl (hb hby d1_0) rfl rfl k) ?_
  obtain ⟨T173, X173, e173, st173⟩ := initO X0 hx hZ hown (hw _ (List.mem_of_getElem? (i := 7) rfl)) (hw _ (List.mem_of_getElem? (i := 8) rfl)) (hw _ (List.mem_of_getElem? (i := 9) rfl)) e0 (g := (mkF m 1 #[.val (.ref a)] [(.ref a)])) rfl (by rw [hml]; rfl) rfl (hb hby d1_1) (by decide) (W := 0) (by show 2 * 0 + _ ≤ _; exact Nat.le_of_eq rfl) (by decide)
  refine own_st (T' := T173) (g' := (mkF m 4 #[.val (.ref a)] [])) st173 ?_
  refine own_st (T' := T173) (g' := (mkF m 5 #[.val (.ref a)] [(.ref a)])) (fun _ k => XS.aloadN X173.here hx rfl (hb hby d1_4) rfl rfl k) ?_
  refine own_st (T' := T173) (g' := (mkF m 7 #[.val (.ref a)] [(.int (16 : Int32)), (.ref a)])) (fun _ k => XS.bipush X173.here hx rfl (hb hby d1_5) k) ?_
  obtain ⟨T174, h174, k174, X174, e174, E174, A174, O174, st174⟩ := newR X173 hx hZ hown (hw _ (List.mem_of_getElem? (i := 10) rfl)) (hw _ (List.mem_of_getElem? (i := 11) rfl)) e173 (g := (mkF m 7 #[.val (.ref a)] [(.int (16 : Int32)), (.ref a)])) rfl (hb hby d1_7) rfl (by decide) (cap := 16) (by decide) (by decide) (by decide) (by decide)
  obtain ⟨t, gt⟩ : ∃ z, z = h0.size := ⟨_, rfl⟩
  rw [← gt] at A174 st174
  have ne_a_t : a ≠ t := own_ne Fh.lt gt
  have ge_t : n0 ≤ t := own_ge Z0 gt
  have sz_t : h0.size ≤ t := own_ge Kp.1 gt
  have Fh := Fh.ext E174
  have Fz := Fz.ext E174
  have Ea := Ea.ext E174
  have Z0' := Nat.le_trans Z0 E174.1
  have Kp := Kp.ext E174
  have V_t := own_Av.new (n := 16) A174 rfl
  refine own_st (T' := T174) (g' := (mkF m 10 #[.val (.ref a)] [(.ref t), (.ref a)])) st174 ?_
  obtain ⟨T175, h175, X175, e175, W175, st175⟩ := putF X174 hx hZ hown (host := "") (Or.inl (hw _ (List.mem_of_getElem? (i := 12) rfl))) Via.refl e174 Fh Ea (Or.inl (hw _ (List.mem_of_getElem? (i := 13) rfl))) (hw _ (List.mem_of_getElem? (i := 2) rfl)) (ty := (.array (.object "com/example/ovrdue/ovrdue/keyspace/Entry"))) (by decide) rfl rfl (g := (mkF m 10 #[.val (.ref a)] [(.ref t), (.ref a)])) rfl rfl (hb hby d1_10)
  have Fz := Fz.other W175 (Or.inr (slot_ne (Or.inl (hw _ (List.mem_of_getElem? (i := 44) rfl))) (Or.inl (hw _ (List.mem_of_getElem? (i := 13) rfl))) (by decide) (t := .int) (t' := (.array (.object "com/example/ovrdue/ovrdue/keyspace/Entry"))) (by decide) (by decide)))
  have Ea := Ea.wr W175
  have V_t := V_t.other W175 (Ne.symm ne_a_t)
  have Z0'' := Nat.le_trans Z0' (Keep.of_wr W175).1
  have Kp := Kp.wr W175 (Or.inl (List.mem_of_getElem? (i := 0) rfl))
  have N0' := Fr.snoc X175 N0 ga
  have Fh := Fh.same W175
  refine own_st (T' := T175) (g' := (mkF m 13 #[.val (.ref a)] [])) st175 ?_
  exact own_ret0 X175 hx Bd.returns Bd.notSynchronized e175 (hb hby d1_13) ⟨rfl, N0', Kp, Ea, Fz, t, _, Fh, V_t, O174, sz_t⟩ (by decide) (by decide)
theorem d3_0 : decode prog_8_method_1_code 0 = .ok (.aload_n 0, 1) := by decide +kernel
theorem d3_1 : decode prog_8_method_1_code 1 = .ok (.invokespecial 3, 3) := by decide +kernel
theorem d3_4 : decode prog_8_method_1_code 4 = .ok (.aload_n 0, 1) := by decide +kernel
theorem d3_5 : decode prog_8_method_1_code 5 = .ok (.ldc2_w 11, 3) := by decide +kernel
theorem d3_8 : decode prog_8_method_1_code 8 = .ok (.putfield 13, 3) := by decide +kernel
theorem d3_11 : decode prog_8_method_1_code 11 = .ok (.aload_n 0, 1) := by decide +kernel
theorem d3_12 : decode prog_8_method_1_code 12 = .ok (.aload_n 1, 1) := by decide +kernel
theorem d3_13 : decode prog_8_method_1_code 13 = .ok (.putfield 17, 3) := by decide +kernel
theorem d3_16 : decode prog_8_method_1_code 16 = .ok (.aload_n 0, 1) := by decide +kernel
theorem d3_17 : decode prog_8_method_1_code 17 = .ok (.aload_n 2, 1) := by decide +kernel
theorem d3_18 : decode prog_8_method_1_code 18 = .ok (.putfield 21, 3) := by decide +kernel
theorem d3_21 : decode prog_8_method_1_code 21 = .ok (.return_, 1) := by decide +kernel
def own_ein_Q (Z : State) (a : Addr) (h0 : Heap) (n0 : Nat) (v : Option Value) (h : Heap) (L : List Loc) : Prop := v = none ∧ Fr n0 L ∧ Keep h0 h [a] ∧ Exa Z h a "com/example/ovrdue/ovrdue/keyspace/Entry" ∧ Fld Z h a "com/example/ovrdue/ovrdue/keyspace/Entry" "deadline" "J" (.long (-9223372036854775808 : Int64)) ∧ Fld Z h a "com/example/ovrdue/ovrdue/keyspace/Entry" "place" "I" (.int (0 : Int32))
set_option maxRecDepth 65536 in
set_option maxHeartbeats 40000000 in
theorem own_ein (l : Launch) (Z : State) (a0 : Array Value) (hw : ∀ d ∈ tables_1, d.before a0 Z = true) (ws : List Jvm.Cond) (a : Addr) (h0 : Heap) (n0 : Nat) (Z0 : n0 ≤ h0.size) (F_deadline : Fld Z h0 a "com/example/ovrdue/ovrdue/keyspace/Entry" "deadline" "J" (.long (0 : Int64))) (F_key : Fld Z h0 a "com/example/ovrdue/ovrdue/keyspace/Entry" "key" "Lcom/example/ovrdue/ovrdue/keyspace/Key;" .null) (F_value : Fld Z h0 a "com/example/ovrdue/ovrdue/keyspace/Entry" "value" "Lcom/example/ovrdue/ovrdue/keyspace/Value;" .null) (F_place : Fld Z h0 a "com/example/ovrdue/ovrdue/keyspace/Entry" "place" "I" (.int (0 : Int32))) (Ea : Exa Z h0 a "com/example/ovrdue/ovrdue/keyspace/Entry") (ga : n0 ≤ a) :
    MetFree l (⟨"com/example/ovrdue/ovrdue/keyspace/Entry", "<init>", "(Lcom/example/ovrdue/ovrdue/keyspace/Key;Lcom/example/ovrdue/ovrdue/keyspace/Value;)V"⟩ : MethodName) (head1 (Jvm.Cond.code (⟨"com/example/ovrdue/ovrdue/keyspace/Entry", "<init>", "(Lcom/example/ovrdue/ovrdue/keyspace/Key;Lcom/example/ovrdue/ovrdue/keyspace/Value;)V"⟩ : MethodName) prog_8_method_1_code 3 none :: ws) ({ frames := 1, cells := 0, slots := 0, locals := 12 } : Room)) (fun aa U0 => aa = #[(.ref a), .null, .null] ∧ Z.Warmed39 U0.vm ∧ U0.heap = h0) (fun _ _ _ _ _ => True) (fun _ U0 o0 U1 => ∃ v0 L0, o0 = .returned v0 ∧ own_ein_Q Z a h0 n0 v0 U1.heap L0 ∧ FrameEnd U0 o0 U1 L0 ({ frames := 1, cells := 0, slots := 0, locals := 12 } : Room).cells ({ frames := 1, cells := 0, slots := 0, locals := 12 } : Room).slots) := by
  refine MetFree.of_bodySF (plainFor_of_name own_pn1) hisR ?_
  intro p e s m args below meth c s₁ Bd hml0 hP hK
  obtain ⟨rfl, hZ, hh⟩ := hP
  have hx := Bd.exec
  have hby := Bd.bytes
  have hml : c.maxLocals = 3 := hml0
  have hown : s.vm.findClass "com/example/ovrdue/ovrdue/keyspace/Entry" = some m.cls := findClass_of_methodNamed Bd.named
  have hnm := (name_of_methodNamed Bd.named Bd.method).1
  have X0 : Stand p l e ({ frames := 1, cells := 0, slots := 0, locals := 12 } : Room) s m #[(.ref a), .null, .null] below meth c s₁ [] 0 0 := Stand.of_body Bd
  have e0 : s₁.heap = h0 := by rw [← hh, Bd.state]; rfl
  have N0 := Fr.nil n0
  show own_Go p e below s (own_ein_Q Z a h0 n0) 0 0 s₁ (entryFrame m #[(.ref a), .null, .null] 3)
  rw [show entryFrame m #[(.ref a), .null, .null] 3 = mkF m 0 #[.val (.ref a), .val .null, .val .null] [] from by first | (simp [entryFrame, mkF, argsToLocals, Value.category]; done) | rfl]
  have Kp := Keep.refl h0 [a]
  refine own_st (T' := s₁) (g' := (mkF m 1 #[.val (.ref a), .val .null, .val .null] [(.ref a)])) (fun _ k => XS.aloadN X0.here hx rfl (hb hby d3_0) rfl rfl k) ?_
  obtain ⟨T176, X176, e176, st176⟩ := initO X0 hx hZ hown (hw _ (List.mem_of_getElem? (i := 20) rfl)) (hw _ (List.mem_of_getElem? (i := 8) rfl)) (hw _ (List.mem_of_getElem? (i := 9) rfl)) e0 (g := (mkF m 1 #[.val (.ref a), .val .null, .val .null] [(.ref a)])) rfl (by rw [hml]; rfl) rfl (hb hby d3_1) (by decide) (W := 0) (by show 2 * 0 + _ ≤ _; exact Nat.le_of_eq rfl) (by decide)
  refine own_st (T' := T176) (g' := (mkF m 4 #[.val (.ref a), .val .null, .val .null] [])) st176 ?_
  refine own_st (T' := T176) (g' := (mkF m 5 #[.val (.ref a), .val .null, .val .null] [(.ref a)])) (fun _ k => XS.aloadN X176.here hx rfl (hb hby d3_4) rfl rfl k) ?_
  refine own_st (T' := T176) (g' := (mkF m 8 #[.val (.ref a), .val .null, .val .null] [(.long (-9223372036854775808 : Int64)), (.ref a)])) (X176.ldc2Long hx hown (mvT hZ (hw _ (List.mem_of_getElem? (i := 21) rfl))) (g := (mkF m 5 #[.val (.ref a), .val .null, .val .null] [(.ref a)])) rfl (hb hby d3_5)) ?_
  obtain ⟨T177, h177, X177, e177, W177, st177⟩ := putF X176 hx hZ hown (host := "") (Or.inl (hw _ (List.mem_of_getElem? (i := 22) rfl))) Via.refl e176 F_deadline Ea (Or.inl (hw _ (List.mem_of_getElem? (i := 23) rfl))) (hw _ (List.mem_of_getElem? (i := 15) rfl)) (ty := .long) (by decide) rfl rfl (g := (mkF m 8 #[.val (.ref a), .val .null, .val .null] [(.long (-9223372036854775808 : Int64)), (.ref a)])) rfl rfl (hb hby d3_8)
  have F_key := F_key.other W177 (Or.inr (slot_ne (Or.inr (hw _ (List.mem_of_getElem? (i := 25) rfl))) (Or.inl (hw _ (List.mem_of_getElem? (i := 23) rfl))) (by decide) (t := (.object "com/example/ovrdue/ovrdue/keyspace/Key")) (t' := .long) (by decide) (by decide)))
  have F_value := F_value.other W177 (Or.inr (slot_ne (Or.inl (hw _ (List.mem_of_getElem? (i := 27) rfl))) (Or.inl (hw _ (List.mem_of_getElem? (i := 23) rfl))) (by decide) (t := (.object "com/example/ovrdue/ovrdue/keyspace/Value")) (t' := .long) (by decide) (by decide)))
  have F_place := F_place.other W177 (Or.inr (slot_ne (Or.inl (hw _ (List.mem_of_getElem? (i := 56) rfl))) (Or.inl (hw _ (List.mem_of_getElem? (i := 23) rfl))) (by decide) (t := .int) (t' := .long) (by decide) (by decide)))
  have Ea := Ea.wr W177
  have Z0' := Nat.le_trans Z0 (Keep.of_wr W177).1
  have Kp := Kp.wr W177 (Or.inl (List.mem_of_getElem? (i := 0) rfl))
  have N0' := Fr.snoc X177 N0 ga
  have F_deadline := F_deadline.same W177
  refine own_st (T' := T177) (g' := (mkF m 11 #[.val (.ref a), .val .null, .val .null] [])) st177 ?_
  refine own_st (T' := T177) (g' := (mkF m 12 #[.val (.ref a), .val .null, .val .null] [(.ref a)])) (fun _ k => XS.aloadN X177.here hx rfl (hb hby d3_11) rfl rfl k) ?_
  refine own_st (T' := T177) (g' := (mkF m 13 #[.val (.ref a), .val .null, .val .null] [.null, (.ref a)])) (fun _ k => XS.aloadN X177.here hx rfl (hb hby d3_12) rfl rfl k) ?_
  obtain ⟨T178, h178, X178, e178, W178, st178⟩ := putF X177 hx hZ hown (host := "") (Or.inl (hw _ (List.mem_of_getElem? (i := 24) rfl))) Via.refl e177 F_key Ea (Or.inr ⟨(hw _ (List.mem_of_getElem? (i := 25) rfl)), rfl, hnm⟩) (hw _ (List.mem_of_getElem? (i := 15) rfl)) (ty := (.object "com/example/ovrdue/ovrdue/keyspace/Key")) (by decide) rfl rfl (g := (mkF m 13 #[.val (.ref a), .val .null, .val .null] [.null, (.ref a)])) rfl rfl (hb hby d3_13)
  have F_deadline := F_deadline.other W178 (Or.inr (slot_ne (Or.inl (hw _ (List.mem_of_getElem? (i := 23) rfl))) (Or.inr (hw _ (List.mem_of_getElem? (i := 25) rfl))) (by decide) (t := .long) (t' := (.object "com/example/ovrdue/ovrdue/keyspace/Key")) (by decide) (by decide)))
  have F_value := F_value.other W178 (Or.inr (slot_ne (Or.inl (hw _ (List.mem_of_getElem? (i := 27) rfl))) (Or.inr (hw _ (List.mem_of_getElem? (i := 25) rfl))) (by decide) (t := (.object "com/example/ovrdue/ovrdue/keyspace/Value")) (t' := (.object "com/example/ovrdue/ovrdue/keyspace/Key")) (by decide) (by decide)))
  have F_place := F_place.other W178 (Or.inr (slot_ne (Or.inl (hw _ (List.mem_of_getElem? (i := 56) rfl))) (Or.inr (hw _ (List.mem_of_getElem? (i := 25) rfl))) (by decide) (t := .int) (t' := (.object "com/example/ovrdue/ovrdue/keyspace/Key")) (by decide) (by decide)))
  have Ea := Ea.wr W178
  have Z0'' := Nat.le_trans Z0' (Keep.of_wr W178).1
  have Kp := Kp.wr W178 (Or.inl (List.mem_of_getElem? (i := 0) rfl))
  have N0'' := Fr.snoc X178 N0' ga
  have F_key := F_key.same W178
  refine own_st (T' := T178) (g' := (mkF m 16 #[.val (.ref a), .val .null, .val .null] [])) st178 ?_
  refine own_st (T' := T178) (g' := (mkF m 17 #[.val (.ref a), .val .null, .val .null] [(.ref a)])) (fun _ k => XS.aloadN X178.here hx rfl (hb hby d3_16) rfl rfl k) ?_
  refine own_st (T' := T178) (g' := (mkF m 18 #[.val (.ref a), .val .null, .val .null] [.null, (.ref a)])) (fun _ k => XS.aloadN X178.here hx rfl (hb hby d3_17) rfl rfl k) ?_
  obtain ⟨T179, h179, X179, e179, W179, st179⟩ := putF X178 hx hZ hown (host := "") (Or.inl (hw _ (List.mem_of_getElem? (i := 26) rfl))) Via.refl e178 F_value Ea (Or.inl (hw _ (List.mem_of_getElem? (i := 27) rfl))) (hw _ (List.mem_of_getElem? (i := 15) rfl)) (ty := (.object "com/example/ovrdue/ovrdue/keyspace/Value")) (by decide) rfl rfl (g := (mkF m 18 #[.val (.ref a), .val .null, .val .null] [.null, (.ref a)])) rfl rfl (hb hby d3_18)
  have F_deadline := F_deadline.other W179 (Or.inr (slot_ne (Or.inl (hw _ (List.mem_of_getElem? (i := 23) rfl))) (Or.inl (hw _ (List.mem_of_getElem? (i := 27) rfl))) (by decide) (t := .long) (t' := (.object "com/example/ovrdue/ovrdue/keyspace/Value")) (by decide) (by decide)))
  have F_key := F_key.other W179 (Or.inr (slot_ne (Or.inr (hw _ (List.mem_of_getElem? (i := 25) rfl))) (Or.inl (hw _ (List.mem_of_getElem? (i := 27) rfl))) (by decide) (t := (.object "com/example/ovrdue/ovrdue/keyspace/Key")) (t' := (.object "com/example/ovrdue/ovrdue/keyspace/Value")) (by decide) (by decide)))
  have F_place := F_place.other W179 (Or.inr (slot_ne (Or.inl (hw _ (List.mem_of_getElem? (i := 56) rfl))) (Or.inl (hw _ (List.mem_of_getElem? (i := 27) rfl))) (by decide) (t := .int) (t' := (.object "com/example/ovrdue/ovrdue/keyspace/Value")) (by decide) (by decide)))
  have Ea := Ea.wr W179
  have Z0''' := Nat.le_trans Z0'' (Keep.of_wr W179).1
  have Kp := Kp.wr W179 (Or.inl (List.mem_of_getElem? (i := 0) rfl))
  have N0''' := Fr.snoc X179 N0'' ga
  have F_value := F_value.same W179
  refine own_st (T' := T179) (g' := (mkF m 21 #[.val (.ref a), .val .null, .val .null] [])) st179 ?_
  exact own_ret0 X179 hx Bd.returns Bd.notSynchronized e179 (hb hby d3_21) ⟨rfl, N0''', Kp, Ea, F_deadline, F_place⟩ (by decide) (by decide)
theorem own_mnS0 {ea : Int64} (_ : True) (qm : ea = (-9223372036854775808 : Int64)) : (ea ≠ (-9223372036854775808 : Int64) → (9223372036854775807 : Int64) ≤ ea) ∧ ((9223372036854775807 : Int64) = (9223372036854775807 : Int64) ∨ (ea ≠ (-9223372036854775808 : Int64) ∧ (9223372036854775807 : Int64) = ea)) := by
  exact ⟨fun u => absurd qm u, Or.inl rfl⟩
theorem own_mnL0 {ea : Int64} (_ : True) (qm : ¬ ea = (-9223372036854775808 : Int64)) : (ea ≠ (-9223372036854775808 : Int64) → (if ea < (9223372036854775807 : Int64) then ea else (9223372036854775807 : Int64)) ≤ ea) ∧ ((if ea < (9223372036854775807 : Int64) then ea else (9223372036854775807 : Int64)) = (9223372036854775807 : Int64) ∨ (ea ≠ (-9223372036854775808 : Int64) ∧ (if ea < (9223372036854775807 : Int64) then ea else (9223372036854775807 : Int64)) = ea)) := by
  by_cases q : ea < (9223372036854775807 : Int64)
  · rw [if_pos q]; exact ⟨fun _ => Int64.le_refl _, Or.inr (⟨qm, rfl⟩)⟩
  · rw [if_neg q]; exact ⟨fun _ => Int64.not_lt.mp q, Or.inl rfl⟩
theorem own_mnS1 {ea : Int64} {eb : Int64} {mo : Int64} (hm : (ea ≠ (-9223372036854775808 : Int64) → mo ≤ ea) ∧ (mo = (9223372036854775807 : Int64) ∨ (ea ≠ (-9223372036854775808 : Int64) ∧ mo = ea))) (qm : eb = (-9223372036854775808 : Int64)) : (ea ≠ (-9223372036854775808 : Int64) → mo ≤ ea) ∧ (eb ≠ (-9223372036854775808 : Int64) → mo ≤ eb) ∧ (mo = (9223372036854775807 : Int64) ∨ (ea ≠ (-9223372036854775808 : Int64) ∧ mo = ea) ∨ (eb ≠ (-9223372036854775808 : Int64) ∧ mo = eb)) := by
  obtain ⟨ga, gd⟩ := hm
  exact ⟨ga, fun u => absurd qm u, gd.imp id (fun q => Or.inl q)⟩
theorem own_mnL1 {ea : Int64} {eb : Int64} {mo : Int64} (hm : (ea ≠ (-9223372036854775808 : Int64) → mo ≤ ea) ∧ (mo = (9223372036854775807 : Int64) ∨ (ea ≠ (-9223372036854775808 : Int64) ∧ mo = ea))) (qm : ¬ eb = (-9223372036854775808 : Int64)) : (ea ≠ (-9223372036854775808 : Int64) → (if eb < mo then eb else mo) ≤ ea) ∧ (eb ≠ (-9223372036854775808 : Int64) → (if eb < mo then eb else mo) ≤ eb) ∧ ((if eb < mo then eb else mo) = (9223372036854775807 : Int64) ∨ (ea ≠ (-9223372036854775808 : Int64) ∧ (if eb < mo then eb else mo) = ea) ∨ (eb ≠ (-9223372036854775808 : Int64) ∧ (if eb < mo then eb else mo) = eb)) := by
  obtain ⟨ga, gd⟩ := hm
  by_cases q : eb < mo
  · rw [if_pos q]; exact ⟨fun u => Int64.le_trans (Int64.le_of_lt q) (ga u), fun _ => Int64.le_refl _, Or.inr (Or.inr (⟨qm, rfl⟩))⟩
  · rw [if_neg q]; exact ⟨ga, fun _ => Int64.not_lt.mp q, gd.imp id (fun q => Or.inl q)⟩
theorem own_mnS2 {ea : Int64} {eb : Int64} {ec : Int64} {mo : Int64} (hm : (ea ≠ (-9223372036854775808 : Int64) → mo ≤ ea) ∧ (eb ≠ (-9223372036854775808 : Int64) → mo ≤ eb) ∧ (mo = (9223372036854775807 : Int64) ∨ (ea ≠ (-9223372036854775808 : Int64) ∧ mo = ea) ∨ (eb ≠ (-9223372036854775808 : Int64) ∧ mo = eb))) (qm : ec = (-9223372036854775808 : Int64)) : (ea ≠ (-9223372036854775808 : Int64) → mo ≤ ea) ∧ (eb ≠ (-9223372036854775808 : Int64) → mo ≤ eb) ∧ (ec ≠ (-9223372036854775808 : Int64) → mo ≤ ec) ∧ (mo = (9223372036854775807 : Int64) ∨ (ea ≠ (-9223372036854775808 : Int64) ∧ mo = ea) ∨ (eb ≠ (-9223372036854775808 : Int64) ∧ mo = eb) ∨ (ec ≠ (-9223372036854775808 : Int64) ∧ mo = ec)) := by
  obtain ⟨ga, gb, gd⟩ := hm
  exact ⟨ga, gb, fun u => absurd qm u, gd.imp id (fun q => q.imp id Or.inl)⟩
theorem own_mnL2 {ea : Int64} {eb : Int64} {ec : Int64} {mo : Int64} (hm : (ea ≠ (-9223372036854775808 : Int64) → mo ≤ ea) ∧ (eb ≠ (-9223372036854775808 : Int64) → mo ≤ eb) ∧ (mo = (9223372036854775807 : Int64) ∨ (ea ≠ (-9223372036854775808 : Int64) ∧ mo = ea) ∨ (eb ≠ (-9223372036854775808 : Int64) ∧ mo = eb))) (qm : ¬ ec = (-9223372036854775808 : Int64)) : (ea ≠ (-9223372036854775808 : Int64) → (if ec < mo then ec else mo) ≤ ea) ∧ (eb ≠ (-9223372036854775808 : Int64) → (if ec < mo then ec else mo) ≤ eb) ∧ (ec ≠ (-9223372036854775808 : Int64) → (if ec < mo then ec else mo) ≤ ec) ∧ ((if ec < mo then ec else mo) = (9223372036854775807 : Int64) ∨ (ea ≠ (-9223372036854775808 : Int64) ∧ (if ec < mo then ec else mo) = ea) ∨ (eb ≠ (-9223372036854775808 : Int64) ∧ (if ec < mo then ec else mo) = eb) ∨ (ec ≠ (-9223372036854775808 : Int64) ∧ (if ec < mo then ec else mo) = ec)) := by
  obtain ⟨ga, gb, gd⟩ := hm
  by_cases q : ec < mo
  · rw [if_pos q]; exact ⟨fun u => Int64.le_trans (Int64.le_of_lt q) (ga u), fun u => Int64.le_trans (Int64.le_of_lt q) (gb u), fun _ => Int64.le_refl _, Or.inr (Or.inr (Or.inr (⟨qm, rfl⟩)))⟩
  · rw [if_neg q]; exact ⟨ga, gb, fun _ => Int64.not_lt.mp q, gd.imp id (fun q => q.imp id Or.inl)⟩
theorem own_modg {q y : Int32} (hq : 0 ≤ q.toInt) (hy : 0 < y.toInt) : 0 ≤ (q % y).toInt ∧ (q % y).toInt < y.toInt := by
  have h2 := (c_iremV q y).1 hq hy
  exact ⟨h2.1, h2.2.1⟩
theorem own_pd4 : parseMethodDescriptor "()V" = some ⟨[], none⟩ := by decide +kernel
theorem own_pd5 : parseMethodDescriptor "(Lcom/example/ovrdue/ovrdue/keyspace/Key;Lcom/example/ovrdue/ovrdue/keyspace/Value;)V" = some ⟨[(.object "com/example/ovrdue/ovrdue/keyspace/Key"), (.object "com/example/ovrdue/ovrdue/keyspace/Value")], none⟩ := by decide +kernel
theorem own_pd6 : parseMethodDescriptor "()Lcom/example/ovrdue/ovrdue/keyspace/Entry;" = some ⟨[], some (.object "com/example/ovrdue/ovrdue/keyspace/Entry")⟩ := by decide +kernel
theorem own_pd7 : parseMethodDescriptor "(JJ)J" = some ⟨[.long, .long], some .long⟩ := by decide +kernel
theorem own_pn2 : plainName "com/example/ovrdue/ovrdue/keyspace/DeadlineIndexFirstPinLaw" = true := by first | (simp [plainName, overriddenIn]; done) | decide +kernel
def own_law_Q (Z : State) (p0 : Int64) (p1 : Int64) (p2 : Int64) (p3 : Int64) (p4 : Int32) (h0 : Heap) (n0 : Nat) (v : Option Value) (h : Heap) (L : List Loc) : Prop := v = some (.int 1) ∧ Fr n0 L
set_option maxRecDepth 65536 in
set_option maxHeartbeats 40000000 in
theorem own_law (l : Launch) (Z : State) (a0 : Array Value) (hw : ∀ d ∈ tables_1, d.before a0 Z = true) (ws : List Jvm.Cond) (p0 : Int64) (p1 : Int64) (p2 : Int64) (p3 : Int64) (p4 : Int32) (h0 : Heap) (n0 : Nat) (Z0 : n0 ≤ h0.size) :
    MetFree l x (head1 (Jvm.Cond.code x code maxLocals ret :: ws) room_1) (fun aa U0 => aa = #[(.long p0), (.long p1), (.long p2), (.long p3), (.int p4)] ∧ Z.Warmed39 U0.vm ∧ U0.heap = h0) (fun _ _ _ _ _ => True) (fun _ U0 o0 U1 => ∃ v0 L0, o0 = .returned v0 ∧ own_law_Q Z p0 p1 p2 p3 p4 h0 n0 v0 U1.heap L0 ∧ FrameEnd U0 o0 U1 L0 24 192) := by
  refine MetFree.of_bodySF (plainFor_of_name own_pn2) hisR ?_
  intro p e s m args below meth c s₁ Bd hml0 hP hK
  obtain ⟨rfl, hZ, hh⟩ := hP
  have hx := Bd.exec
  have hby := Bd.bytes
  have hml : c.maxLocals = 27 := hml0
  have hown : s.vm.findClass "com/example/ovrdue/ovrdue/keyspace/DeadlineIndexFirstPinLaw" = some m.cls := findClass_of_methodNamed Bd.named
  have hnm := (name_of_methodNamed Bd.named Bd.method).1
  have X0 : Stand p l e room_1 s m #[(.long p0), (.long p1), (.long p2), (.long p3), (.int p4)] below meth c s₁ [] 0 0 := Stand.of_body Bd
  have e0 : s₁.heap = h0 := by rw [← hh, Bd.state]; rfl
  have N0 := Fr.nil n0
  show own_Go p e below s (own_law_Q Z p0 p1 p2 p3 p4 h0 n0) 24 192 s₁ (entryFrame m #[(.long p0), (.long p1), (.long p2), (.long p3), (.int p4)] maxLocals)
  rw [show entryFrame m #[(.long p0), (.long p1), (.long p2), (.long p3), (.int p4)] maxLocals = mkF m 0 #[.val (.long p0), .second, .val (.long p1), .second, .val (.long p2), .second, .val (.long p3), .second, .val (.int p4), .unset, .unset, .unset, .unset, .unset, .unset, .unset, .unset, .unset, .unset, .unset, .unset, .unset, .unset, .unset, .unset, .unset, .unset] [] from by first | (simp [entryFrame, mkF, argsToLocals, Value.category, maxLocals]; done) | rfl]
  refine own_st (T' := s₁) (g' := (mkF m 3 #[.val (.long p0), .second, .val (.long p1), .second, .val (.long p2), .second, .val (.long p3), .second, .val (.int p4), .unset, .unset, .unset, .unset, .unset, .unset, .unset, .unset, .unset, .unset, .unset, .unset, .unset, .unset, .unset, .unset, .unset, .unset] [(.long (-9223372036854775808 : Int64))])) (X0.ldc2Long hx hown (mvT hZ (hw _ (List.mem_of_getElem? (i := 0) rfl))) (g := (mkF m 0 #[.val (.long p0), .second, .val (.long p1), .second, .val (.long p2), .second, .val (.long p3), .second, .val (.int p4), .unset, .unset, .unset, .unset, .unset, .unset, .unset, .unset, .unset, .unset, .unset, .unset, .unset, .unset, .unset, .unset, .unset, .unset] [])) rfl (hb hby at_0)) ?_
  refine own_st (T' := s₁) (g' := (mkF m 5 #[.val (.long p0), .second, .val (.long p1), .second, .val (.long p2), .second, .val (.long p3), .second, .val (.int p4), .val (.long (-9223372036854775808 : Int64)), .second, .unset, .unset, .unset, .unset, .unset, .unset, .unset, .unset, .unset, .unset, .unset, .unset, .unset, .unset, .unset, .unset] [])) (fun _ k => XS.lstore X0.here hx rfl (hb hby at_3) rfl (l' := #[.val (.long p0), .second, .val (.long p1), .second, .val (.long p2), .second, .val (.long p3), .second, .val (.int p4), .val (.long (-9223372036854775808 : Int64)), .second, .unset, .unset, .unset, .unset, .unset, .unset, .unset, .unset, .unset, .unset, .unset, .unset, .unset, .unset, .unset, .unset]) rfl k) ?_
  refine own_st (T' := s₁) (g' := (mkF m 7 #[.val (.long p0), .second, .val (.long p1), .second, .val (.long p2), .second, .val (.long p3), .second, .val (.int p4), .val (.long (-9223372036854775808 : Int64)), .second, .unset, .unset, .unset, .unset, .unset, .unset, .unset, .unset, .unset, .unset, .unset, .unset, .unset, .unset, .unset, .unset] [(.int p4)])) (fun _ k => XS.iload X0.here hx rfl (hb hby at_5) rfl k) ?_
  refine own_st (T' := s₁) (g' := (mkF m 9 #[.val (.long p0), .second, .val (.long p1), .second, .val (.long p2), .second, .val (.long p3), .second, .val (.int p4), .val (.long (-9223372036854775808 : Int64)), .second, .unset, .unset, .unset, .unset, .unset, .unset, .unset, .unset, .unset, .unset, .unset, .unset, .unset, .unset, .unset, .unset] [(.int (16 : Int32)), (.int p4)])) (fun _ k => XS.bipush X0.here hx rfl (hb hby at_7) k) ?_
  refine own_st (T' := s₁) (g' := (mkF m 10 #[.val (.long p0), .second, .val (.long p1), .second, .val (.long p2), .second, .val (.long p3), .second, .val (.int p4), .val (.long (-9223372036854775808 : Int64)), .second, .unset, .unset, .unset, .unset, .unset, .unset, .unset, .unset, .unset, .unset, .unset, .unset, .unset, .unset, .unset, .unset] [(.int (p4 &&& (16 : Int32)))])) (fun _ k => XS.iand X0.here hx rfl (hb hby at_9) rfl k) ?_
  have J41 : ∀ (e1 : Int64) (f2 : Int64) (f3 : Int64) (e4 : Int64), own_Go p e below s (own_law_Q Z p0 p1 p2 p3 p4 h0 n0) 24 192 s₁ (mkF m 41 #[.val (.long e1), .second, .val (.long f2), .second, .val (.long f3), .second, .val (.long e4), .second, .val (.int p4), .val (.long (-9223372036854775808 : Int64)), .second, .unset, .unset, .unset, .unset, .unset, .unset, .unset, .unset, .unset, .unset, .unset, .unset, .unset, .unset, .unset, .unset] []) := by
    intro e1 f2 f3 e4
    refine own_st (T' := s₁) (g' := (mkF m 43 #[.val (.long e1), .second, .val (.long f2), .second, .val (.long f3), .second, .val (.long e4), .second, .val (.int p4), .val (.long (-9223372036854775808 : Int64)), .second, .unset, .unset, .unset, .unset, .unset, .unset, .unset, .unset, .unset, .unset, .unset, .unset, .unset, .unset, .unset, .unset] [(.int p4)])) (fun _ k => XS.iload X0.here hx rfl (hb hby at_41) rfl k) ?_
    refine own_st (T' := s₁) (g' := (mkF m 44 #[.val (.long e1), .second, .val (.long f2), .second, .val (.long f3), .second, .val (.long e4), .second, .val (.int p4), .val (.long (-9223372036854775808 : Int64)), .second, .unset, .unset, .unset, .unset, .unset, .unset, .unset, .unset, .unset, .unset, .unset, .unset, .unset, .unset, .unset, .unset] [(.int (4 : Int32)), (.int p4)])) (fun _ k => XS.iconst X0.here hx rfl (hb hby at_43) k) ?_
    refine own_st (T' := s₁) (g' := (mkF m 45 #[.val (.long e1), .second, .val (.long f2), .second, .val (.long f3), .second, .val (.long e4), .second, .val (.int p4), .val (.long (-9223372036854775808 : Int64)), .second, .unset, .unset, .unset, .unset, .unset, .unset, .unset, .unset, .unset, .unset, .unset, .unset, .unset, .unset, .unset, .unset] [(.int (p4 &&& (4 : Int32)))])) (fun _ k => XS.iand X0.here hx rfl (hb hby at_44) rfl k) ?_
    have J52 : ∀ (f4 : Int64), own_Go p e below s (own_law_Q Z p0 p1 p2 p3 p4 h0 n0) 24 192 s₁ (mkF m 52 #[.val (.long e1), .second, .val (.long f2), .second, .val (.long f3), .second, .val (.long f4), .second, .val (.int p4), .val (.long (-9223372036854775808 : Int64)), .second, .unset, .unset, .unset, .unset, .unset, .unset, .unset, .unset, .unset, .unset, .unset, .unset, .unset, .unset, .unset, .unset] []) := by
      intro f4
      refine own_st (T' := s₁) (g' := (mkF m 54 #[.val (.long e1), .second, .val (.long f2), .second, .val (.long f3), .second, .val (.long f4), .second, .val (.int p4), .val (.long (-9223372036854775808 : Int64)), .second, .unset, .unset, .unset, .unset, .unset, .unset, .unset, .unset, .unset, .unset, .unset, .unset, .unset, .unset, .unset, .unset] [(.int p4)])) (fun _ k => XS.iload X0.here hx rfl (hb hby at_52) rfl k) ?_
      refine own_st (T' := s₁) (g' := (mkF m 56 #[.val (.long e1), .second, .val (.long f2), .second, .val (.long f3), .second, .val (.long f4), .second, .val (.int p4), .val (.long (-9223372036854775808 : Int64)), .second, .unset, .unset, .unset, .unset, .unset, .unset, .unset, .unset, .unset, .unset, .unset, .unset, .unset, .unset, .unset, .unset] [(.int (8 : Int32)), (.int p4)])) (fun _ k => XS.bipush X0.here hx rfl (hb hby at_54) k) ?_
      refine own_st (T' := s₁) (g' := (mkF m 57 #[.val (.long e1), .second, .val (.long f2), .second, .val (.long f3), .second, .val (.long f4), .second, .val (.int p4), .val (.long (-9223372036854775808 : Int64)), .second, .unset, .unset, .unset, .unset, .unset, .unset, .unset, .unset, .unset, .unset, .unset, .unset, .unset, .unset, .unset, .unset] [(.int (p4 &&& (8 : Int32)))])) (fun _ k => XS.iand X0.here hx rfl (hb hby at_56) rfl k) ?_
      have J63 : ∀ (f1 : Int64), own_Go p e below s (own_law_Q Z p0 p1 p2 p3 p4 h0 n0) 24 192 s₁ (mkF m 63 #[.val (.long f1), .second, .val (.long f2), .second, .val (.long f3), .second, .val (.long f4), .second, .val (.int p4), .val (.long (-9223372036854775808 : Int64)), .second, .unset, .unset, .unset, .unset, .unset, .unset, .unset, .unset, .unset, .unset, .unset, .unset, .unset, .unset, .unset, .unset] []) := by
        intro f1
        refine own_st (T' := s₁) (g' := (mkF m 65 #[.val (.long f1), .second, .val (.long f2), .second, .val (.long f3), .second, .val (.long f4), .second, .val (.int p4), .val (.long (-9223372036854775808 : Int64)), .second, .unset, .unset, .unset, .unset, .unset, .unset, .unset, .unset, .unset, .unset, .unset, .unset, .unset, .unset, .unset, .unset] [(.int p4)])) (fun _ k => XS.iload X0.here hx rfl (hb hby at_63) rfl k) ?_
        refine own_st (T' := s₁) (g' := (mkF m 66 #[.val (.long f1), .second, .val (.long f2), .second, .val (.long f3), .second, .val (.long f4), .second, .val (.int p4), .val (.long (-9223372036854775808 : Int64)), .second, .unset, .unset, .unset, .unset, .unset, .unset, .unset, .unset, .unset, .unset, .unset, .unset, .unset, .unset, .unset, .unset] [(.int (3 : Int32)), (.int p4)])) (fun _ k => XS.iconst X0.here hx rfl (hb hby at_65) k) ?_
        refine own_st (T' := s₁) (g' := (mkF m 67 #[.val (.long f1), .second, .val (.long f2), .second, .val (.long f3), .second, .val (.long f4), .second, .val (.int p4), .val (.long (-9223372036854775808 : Int64)), .second, .unset, .unset, .unset, .unset, .unset, .unset, .unset, .unset, .unset, .unset, .unset, .unset, .unset, .unset, .unset, .unset] [(.int (p4 &&& (3 : Int32)))])) (fun _ k => XS.iand X0.here hx rfl (hb hby at_66) rfl k) ?_
        refine own_st (T' := s₁) (g' := (mkF m 68 #[.val (.long f1), .second, .val (.long f2), .second, .val (.long f3), .second, .val (.long f4), .second, .val (.int p4), .val (.long (-9223372036854775808 : Int64)), .second, .unset, .unset, .unset, .unset, .unset, .unset, .unset, .unset, .unset, .unset, .unset, .unset, .unset, .unset, .unset, .unset] [(.int (3 : Int32)), (.int (p4 &&& (3 : Int32)))])) (fun _ k => XS.iconst X0.here hx rfl (hb hby at_67) k) ?_
        refine own_st (T' := s₁) (g' := (mkF m 69 #[.val (.long f1), .second, .val (.long f2), .second, .val (.long f3), .second, .val (.long f4), .second, .val (.int p4), .val (.long (-9223372036854775808 : Int64)), .second, .unset, .unset, .unset, .unset, .unset, .unset, .unset, .unset, .unset, .unset, .unset, .unset, .unset, .unset, .unset, .unset] [(.int ((p4 &&& (3 : Int32)) % (3 : Int32)))])) (fun _ k => iremM X0 hx rfl (hb hby at_68) rfl (by decide) k) ?_
        refine own_st (T' := s₁) (g' := (mkF m 71 #[.val (.long f1), .second, .val (.long f2), .second, .val (.long f3), .second, .val (.long f4), .second, .val (.int p4), .val (.long (-9223372036854775808 : Int64)), .second, .val (.int ((p4 &&& (3 : Int32)) % (3 : Int32))), .unset, .unset, .unset, .unset, .unset, .unset, .unset, .unset, .unset, .unset, .unset, .unset, .unset, .unset, .unset] [])) (fun _ k => XS.istore X0.here hx rfl (hb hby at_69) rfl (l' := #[.val (.long f1), .second, .val (.long f2), .second, .val (.long f3), .second, .val (.long f4), .second, .val (.int p4), .val (.long (-9223372036854775808 : Int64)), .second, .val (.int ((p4 &&& (3 : Int32)) % (3 : Int32))), .unset, .unset, .unset, .unset, .unset, .unset, .unset, .unset, .unset, .unset, .unset, .unset, .unset, .unset, .unset]) rfl k) ?_
        have J71 : ∀ (wh : Int32) (hwh : wh = 0 ∨ wh = 1 ∨ wh = 2), own_Go p e below s (own_law_Q Z p0 p1 p2 p3 p4 h0 n0) 24 192 s₁ (mkF m 71 #[.val (.long f1), .second, .val (.long f2), .second, .val (.long f3), .second, .val (.long f4), .second, .val (.int p4), .val (.long (-9223372036854775808 : Int64)), .second, .val (.int wh), .unset, .unset, .unset, .unset, .unset, .unset, .unset, .unset, .unset, .unset, .unset, .unset, .unset, .unset, .unset] []) := by
          intro wh hwh
          obtain ⟨T180, h180, X180, e180, E180, A180, D180, -, st180⟩ := newO X0 hx hZ hown (hw _ (List.mem_of_getElem? (i := 1) rfl)) (hw _ (List.mem_of_getElem? (i := 2) rfl)) (hw _ (List.mem_of_getElem? (i := 3) rfl)) e0 (g := (mkF m 71 #[.val (.long f1), .second, .val (.long f2), .second, .val (.long f3), .second, .val (.long f4), .second, .val (.int p4), .val (.long (-9223372036854775808 : Int64)), .second, .val (.int wh), .unset, .unset, .unset, .unset, .unset, .unset, .unset, .unset, .unset, .unset, .unset, .unset, .unset, .unset, .unset] [])) rfl (hb hby at_71) (by decide) (by decide)
          obtain ⟨ix, gix⟩ : ∃ z, z = h0.size := ⟨_, rfl⟩
          rw [← gix] at A180 D180 st180
          have ge_ix : n0 ≤ ix := own_ge Z0 gix
          have Z0' := Nat.le_trans Z0 E180.1
          have E_ix := A180
          have F_heap_ix : Fld Z h180 ix "com/example/ovrdue/ovrdue/keyspace/DeadlineIndex" "heap" "[Lcom/example/ovrdue/ovrdue/keyspace/Entry;" .null := D180 (Or.inl (hw _ (List.mem_of_getElem? (i := 13) rfl))) (ty := (.array (.object "com/example/ovrdue/ovrdue/keyspace/Entry"))) (by decide)
          have F_size_ix : Fld Z h180 ix "com/example/ovrdue/ovrdue/keyspace/DeadlineIndex" "size" "I" (.int (0 : Int32)) := D180 (Or.inl (hw _ (List.mem_of_getElem? (i := 44) rfl))) (ty := .int) (by decide)
          refine own_st (T' := T180) (g' := (mkF m 74 #[.val (.long f1), .second, .val (.long f2), .second, .val (.long f3), .second, .val (.long f4), .second, .val (.int p4), .val (.long (-9223372036854775808 : Int64)), .second, .val (.int wh), .unset, .unset, .unset, .unset, .unset, .unset, .unset, .unset, .unset, .unset, .unset, .unset, .unset, .unset, .unset] [(.ref ix)])) st180 ?_
          refine own_st (T' := T180) (g' := (mkF m 75 #[.val (.long f1), .second, .val (.long f2), .second, .val (.long f3), .second, .val (.long f4), .second, .val (.int p4), .val (.long (-9223372036854775808 : Int64)), .second, .val (.int wh), .unset, .unset, .unset, .unset, .unset, .unset, .unset, .unset, .unset, .unset, .unset, .unset, .unset, .unset, .unset] [(.ref ix), (.ref ix)])) (fun _ k => XS.dup X180.here hx rfl (hb hby at_74) rfl rfl k) ?_
          have lt_ix := E_ix.lt
          obtain ⟨_, _, ⟨T181, L181, k181, n181⟩, -, X181, ⟨Lc181, hQ181, l181, y181, z181⟩, st181⟩ := X180.specialBack hx (y := (⟨"com/example/ovrdue/ovrdue/keyspace/DeadlineIndex", "<init>", "()V"⟩ : MethodName)) rfl hown (mvT hZ (hw _ (List.mem_of_getElem? (i := 4) rfl))) (mvT hZ (hw _ (List.mem_of_getElem? (i := 5) rfl))) (mvT hZ (hw _ (List.mem_of_getElem? (i := 6) rfl))) (by decide) (backOf (W := 1) (own_ini l Z a0 hw [] ix h180 n0 Z0' F_heap_ix F_size_ix E_ix ge_ix) hZ (hw _ (List.mem_of_getElem? (i := 6) rfl)) (hw _ (List.mem_of_getElem? (i := 3) rfl)) (by decide) (by decide)) (g := (mkF m 75 #[.val (.long f1), .second, .val (.long f2), .second, .val (.long f3), .second, .val (.long f4), .second, .val (.int p4), .val (.long (-9223372036854775808 : Int64)), .second, .val (.int wh), .unset, .unset, .unset, .unset, .unset, .unset, .unset, .unset, .unset, .unset, .unset, .unset, .unset, .unset, .unset] [(.ref ix), (.ref ix)])) rfl (by rw [hml]; rfl) (Steps.refl _) (a := ix) (argsL := []) (rest := [(.ref ix)]) (lenOf own_pd4 rfl) rfl (by show 2 * 0 + _ ≤ _; exact Nat.le_of_eq rfl) (hb hby at_75) (fun _ _ => ⟨rfl, e180, (by decide : (0 + 1) + 1 ≤ _), (by decide : (0 + 2) + 16 ≤ _)⟩)
          dsimp only [Pt.U, Pt.locs, Pt.cells, Pt.slots] at X181 l181 y181 z181 st181 hQ181
          subst l181 y181 z181
          obtain ⟨rfl, N181q, K181, -, Fz, t, k, Fh, V_t, Ov, gt⟩ := hQ181
          have N0' := Fr.app N0 N181q
          have ne_ix_t : ix ≠ t := own_ne2 lt_ix gt
          have ge_t : n0 ≤ t := Nat.le_trans Z0' gt
          have E_ix := E_ix.keep K181
          have Z0'' := Nat.le_trans Z0' K181.1
          refine own_tr (T' := T181) (g' := (mkF m 78 #[.val (.long f1), .second, .val (.long f2), .second, .val (.long f3), .second, .val (.long f4), .second, .val (.int p4), .val (.long (-9223372036854775808 : Int64)), .second, .val (.int wh), .unset, .unset, .unset, .unset, .unset, .unset, .unset, .unset, .unset, .unset, .unset, .unset, .unset, .unset, .unset] [(.ref ix)])) st181 ?_
          refine own_st (T' := T181) (g' := (mkF m 80 #[.val (.long f1), .second, .val (.long f2), .second, .val (.long f3), .second, .val (.long f4), .second, .val (.int p4), .val (.long (-9223372036854775808 : Int64)), .second, .val (.int wh), .val (.ref ix), .unset, .unset, .unset, .unset, .unset, .unset, .unset, .unset, .unset, .unset, .unset, .unset, .unset, .unset] [])) (fun _ k => XS.astore X181.here hx rfl (hb hby at_78) rfl rfl (l' := #[.val (.long f1), .second, .val (.long f2), .second, .val (.long f3), .second, .val (.long f4), .second, .val (.int p4), .val (.long (-9223372036854775808 : Int64)), .second, .val (.int wh), .val (.ref ix), .unset, .unset, .unset, .unset, .unset, .unset, .unset, .unset, .unset, .unset, .unset, .unset, .unset, .unset]) rfl k) ?_
          obtain ⟨T182, h182, X182, e182, E182, A182, D182, -, st182⟩ := newO X181 hx hZ hown (hw _ (List.mem_of_getElem? (i := 14) rfl)) (hw _ (List.mem_of_getElem? (i := 15) rfl)) (hw _ (List.mem_of_getElem? (i := 16) rfl)) rfl (g := (mkF m 80 #[.val (.long f1), .second, .val (.long f2), .second, .val (.long f3), .second, .val (.long f4), .second, .val (.int p4), .val (.long (-9223372036854775808 : Int64)), .second, .val (.int wh), .val (.ref ix), .unset, .unset, .unset, .unset, .unset, .unset, .unset, .unset, .unset, .unset, .unset, .unset, .unset, .unset] [])) rfl (hb hby at_80) (by decide) (by decide)
          obtain ⟨xa, gxa⟩ : ∃ z, z = T181.heap.size := ⟨_, rfl⟩
          rw [← gxa] at A182 D182 st182
          have ne_ix_xa : ix ≠ xa := own_ne E_ix.lt gxa
          have ne_t_xa : t ≠ xa := own_ne V_t.lt gxa
          have ge_xa : n0 ≤ xa := own_ge Z0'' gxa
          have E_ix := E_ix.ext E182
          have Fz := Fz.ext E182
          have Fh := Fh.ext E182
          have V_t := V_t.ext E182
          have Z0''' := Nat.le_trans Z0'' E182.1
          have E_xa := A182
          have F_deadline_xa : Fld Z h182 xa "com/example/ovrdue/ovrdue/keyspace/Entry" "deadline" "J" (.long (0 : Int64)) := D182 (Or.inl (hw _ (List.mem_of_getElem? (i := 23) rfl))) (ty := .long) (by decide)
          have F_key_xa : Fld Z h182 xa "com/example/ovrdue/ovrdue/keyspace/Entry" "key" "Lcom/example/ovrdue/ovrdue/keyspace/Key;" .null := D182 (Or.inr (hw _ (List.mem_of_getElem? (i := 25) rfl))) (ty := (.object "com/example/ovrdue/ovrdue/keyspace/Key")) (by decide)
          have F_value_xa : Fld Z h182 xa "com/example/ovrdue/ovrdue/keyspace/Entry" "value" "Lcom/example/ovrdue/ovrdue/keyspace/Value;" .null := D182 (Or.inl (hw _ (List.mem_of_getElem? (i := 27) rfl))) (ty := (.object "com/example/ovrdue/ovrdue/keyspace/Value")) (by decide)
          have F_place_xa : Fld Z h182 xa "com/example/ovrdue/ovrdue/keyspace/Entry" "place" "I" (.int (0 : Int32)) := D182 (Or.inl (hw _ (List.mem_of_getElem? (i := 56) rfl))) (ty := .int) (by decide)
          refine own_st (T' := T182) (g' := (mkF m 83 #[.val (.long f1), .second, .val (.long f2), .second, .val (.long f3), .second, .val (.long f4), .second, .val (.int p4), .val (.long (-9223372036854775808 : Int64)), .second, .val (.int wh), .val (.ref ix), .unset, .unset, .unset, .unset, .unset, .unset, .unset, .unset, .unset, .unset, .unset, .unset, .unset, .unset] [(.ref xa)])) st182 ?_
          refine own_st (T' := T182) (g' := (mkF m 84 #[.val (.long f1), .second, .val (.long f2), .second, .val (.long f3), .second, .val (.long f4), .second, .val (.int p4), .val (.long (-9223372036854775808 : Int64)), .second, .val (.int wh), .val (.ref ix), .unset, .unset, .unset, .unset, .unset, .unset, .unset, .unset, .unset, .unset, .unset, .unset, .unset, .unset] [(.ref xa), (.ref xa)])) (fun _ k => XS.dup X182.here hx rfl (hb hby at_83) rfl rfl k) ?_
          refine own_st (T' := T182) (g' := (mkF m 85 #[.val (.long f1), .second, .val (.long f2), .second, .val (.long f3), .second, .val (.long f4), .second, .val (.int p4), .val (.long (-9223372036854775808 : Int64)), .second, .val (.int wh), .val (.ref ix), .unset, .unset, .unset, .unset, .unset, .unset, .unset, .unset, .unset, .unset, .unset, .unset, .unset, .unset] [.null, (.ref xa), (.ref xa)])) (fun _ k => XS.aconstNull X182.here hx rfl (hb hby at_84) k) ?_
          refine own_st (T' := T182) (g' := (mkF m 86 #[.val (.long f1), .second, .val (.long f2), .second, .val (.long f3), .second, .val (.long f4), .second, .val (.int p4), .val (.long (-9223372036854775808 : Int64)), .second, .val (.int wh), .val (.ref ix), .unset, .unset, .unset, .unset, .unset, .unset, .unset, .unset, .unset, .unset, .unset, .unset, .unset, .unset] [.null, .null, (.ref xa), (.ref xa)])) (fun _ k => XS.aconstNull X182.here hx rfl (hb hby at_85) k) ?_
          obtain ⟨_, _, ⟨T183, L183, k183, n183⟩, -, X183, ⟨Lc183, hQ183, l183, y183, z183⟩, st183⟩ := X182.specialBack hx (y := (⟨"com/example/ovrdue/ovrdue/keyspace/Entry", "<init>", "(Lcom/example/ovrdue/ovrdue/keyspace/Key;Lcom/example/ovrdue/ovrdue/keyspace/Value;)V"⟩ : MethodName)) rfl hown (mvT hZ (hw _ (List.mem_of_getElem? (i := 17) rfl))) (mvT hZ (hw _ (List.mem_of_getElem? (i := 18) rfl))) (mvT hZ (hw _ (List.mem_of_getElem? (i := 19) rfl))) (by decide) (backOf (W := 1) (own_ein l Z a0 hw [] xa h182 n0 Z0''' F_deadline_xa F_key_xa F_value_xa F_place_xa E_xa ge_xa) hZ (hw _ (List.mem_of_getElem? (i := 19) rfl)) (hw _ (List.mem_of_getElem? (i := 16) rfl)) (by decide) (by decide)) (g := (mkF m 86 #[.val (.long f1), .second, .val (.long f2), .second, .val (.long f3), .second, .val (.long f4), .second, .val (.int p4), .val (.long (-9223372036854775808 : Int64)), .second, .val (.int wh), .val (.ref ix), .unset, .unset, .unset, .unset, .unset, .unset, .unset, .unset, .unset, .unset, .unset, .unset, .unset, .unset] [.null, .null, (.ref xa), (.ref xa)])) rfl (by rw [hml]; rfl) (Steps.refl _) (a := xa) (argsL := [.null, .null]) (rest := [(.ref xa)]) (lenOf own_pd5 rfl) rfl (by show 2 * 0 + _ ≤ _; exact Nat.le_of_eq rfl) (hb hby at_86) (fun _ _ => ⟨rfl, e182, (by decide : (((0 + 1) + 1) + 1) + 0 ≤ _), (by decide : (((0 + 2) + 16) + 7) + 0 ≤ _)⟩)
          dsimp only [Pt.U, Pt.locs, Pt.cells, Pt.slots] at X183 l183 y183 z183 st183 hQ183
          subst l183 y183 z183
          obtain ⟨rfl, N183q, K183, -, Fd_xa, Fp_xa⟩ := hQ183
          have N0'' := Fr.app N0' N183q
          have E_ix := E_ix.keep K183
          have Fz := Fz.keep K183 (ninS ne_ix_xa nin0)
          have Fh := Fh.keep K183 (ninS ne_ix_xa nin0)
          have V_t := V_t.keep K183 (ninS ne_t_xa nin0)
          have E_xa := E_xa.keep K183
          have Z0'''' := Nat.le_trans Z0''' K183.1
          refine own_tr (T' := T183) (g' := (mkF m 89 #[.val (.long f1), .second, .val (.long f2), .second, .val (.long f3), .second, .val (.long f4), .second, .val (.int p4), .val (.long (-9223372036854775808 : Int64)), .second, .val (.int wh), .val (.ref ix), .unset, .unset, .unset, .unset, .unset, .unset, .unset, .unset, .unset, .unset, .unset, .unset, .unset, .unset] [(.ref xa)])) st183 ?_
          refine own_st (T' := T183) (g' := (mkF m 91 #[.val (.long f1), .second, .val (.long f2), .second, .val (.long f3), .second, .val (.long f4), .second, .val (.int p4), .val (.long (-9223372036854775808 : Int64)), .second, .val (.int wh), .val (.ref ix), .val (.ref xa), .unset, .unset, .unset, .unset, .unset, .unset, .unset, .unset, .unset, .unset, .unset, .unset, .unset] [])) (fun _ k => XS.astore X183.here hx rfl (hb hby at_89) rfl rfl (l' := #[.val (.long f1), .second, .val (.long f2), .second, .val (.long f3), .second, .val (.long f4), .second, .val (.int p4), .val (.long (-9223372036854775808 : Int64)), .second, .val (.int wh), .val (.ref ix), .val (.ref xa), .unset, .unset, .unset, .unset, .unset, .unset, .unset, .unset, .unset, .unset, .unset, .unset, .unset]) rfl k) ?_
          obtain ⟨T184, h184, X184, e184, E184, A184, D184, -, st184⟩ := newO X183 hx hZ hown (hw _ (List.mem_of_getElem? (i := 14) rfl)) (hw _ (List.mem_of_getElem? (i := 15) rfl)) (hw _ (List.mem_of_getElem? (i := 16) rfl)) rfl (g := (mkF m 91 #[.val (.long f1), .second, .val (.long f2), .second, .val (.long f3), .second, .val (.long f4), .second, .val (.int p4), .val (.long (-9223372036854775808 : Int64)), .second, .val (.int wh), .val (.ref ix), .val (.ref xa), .unset, .unset, .unset, .unset, .unset, .unset, .unset, .unset, .unset, .unset, .unset, .unset, .unset] [])) rfl (hb hby at_91) (by decide) (by decide)
          obtain ⟨xb, gxb⟩ : ∃ z, z = T183.heap.size := ⟨_, rfl⟩
          rw [← gxb] at A184 D184 st184
          have ne_ix_xb : ix ≠ xb := own_ne E_ix.lt gxb
          have ne_t_xb : t ≠ xb := own_ne V_t.lt gxb
          have ne_xa_xb : xa ≠ xb := own_ne E_xa.lt gxb
          have ge_xb : n0 ≤ xb := own_ge Z0'''' gxb
          have E_ix := E_ix.ext E184
          have Fz := Fz.ext E184
          have Fh := Fh.ext E184
          have V_t := V_t.ext E184
          have E_xa := E_xa.ext E184
          have Fd_xa := Fd_xa.ext E184
          have Fp_xa := Fp_xa.ext E184
          have Z0''''' := Nat.le_trans Z0'''' E184.1
          have E_xb := A184
          have F_deadline_xb : Fld Z h184 xb "com/example/ovrdue/ovrdue/keyspace/Entry" "deadline" "J" (.long (0 : Int64)) := D184 (Or.inl (hw _ (List.mem_of_getElem? (i := 23) rfl))) (ty := .long) (by decide)
          have F_key_xb : Fld Z h184 xb "com/example/ovrdue/ovrdue/keyspace/Entry" "key" "Lcom/example/ovrdue/ovrdue/keyspace/Key;" .null := D184 (Or.inr (hw _ (List.mem_of_getElem? (i := 25) rfl))) (ty := (.object "com/example/ovrdue/ovrdue/keyspace/Key")) (by decide)
          have F_value_xb : Fld Z h184 xb "com/example/ovrdue/ovrdue/keyspace/Entry" "value" "Lcom/example/ovrdue/ovrdue/keyspace/Value;" .null := D184 (Or.inl (hw _ (List.mem_of_getElem? (i := 27) rfl))) (ty := (.object "com/example/ovrdue/ovrdue/keyspace/Value")) (by decide)
          have F_place_xb : Fld Z h184 xb "com/example/ovrdue/ovrdue/keyspace/Entry" "place" "I" (.int (0 : Int32)) := D184 (Or.inl (hw _ (List.mem_of_getElem? (i := 56) rfl))) (ty := .int) (by decide)
          refine own_st (T' := T184) (g' := (mkF m 94 #[.val (.long f1), .second, .val (.long f2), .second, .val (.long f3), .second, .val (.long f4), .second, .val (.int p4), .val (.long (-9223372036854775808 : Int64)), .second, .val (.int wh), .val (.ref ix), .val (.ref xa), .unset, .unset, .unset, .unset, .unset, .unset, .unset, .unset, .unset, .unset, .unset, .unset, .unset] [(.ref xb)])) st184 ?_
          refine own_st (T' := T184) (g' := (mkF m 95 #[.val (.long f1), .second, .val (.long f2), .second, .val (.long f3), .second, .val (.long f4), .second, .val (.int p4), .val (.long (-9223372036854775808 : Int64)), .second, .val (.int wh), .val (.ref ix), .val (.ref xa), .unset, .unset, .unset, .unset, .unset, .unset, .unset, .unset, .unset, .unset, .unset, .unset, .unset] [(.ref xb), (.ref xb)])) (fun _ k => XS.dup X184.here hx rfl (hb hby at_94) rfl rfl k) ?_
          refine own_st (T' := T184) (g' := (mkF m 96 #[.val (.long f1), .second, .val (.long f2), .second, .val (.long f3), .second, .val (.long f4), .second, .val (.int p4), .val (.long (-9223372036854775808 : Int64)), .second, .val (.int wh), .val (.ref ix), .val (.ref xa), .unset, .unset, .unset, .unset, .unset, .unset, .unset, .unset, .unset, .unset, .unset, .unset, .unset] [.null, (.ref xb), (.ref xb)])) (fun _ k => XS.aconstNull X184.here hx rfl (hb hby at_95) k) ?_
          refine own_st (T' := T184) (g' := (mkF m 97 #[.val (.long f1), .second, .val (.long f2), .second, .val (.long f3), .second, .val (.long f4), .second, .val (.int p4), .val (.long (-9223372036854775808 : Int64)), .second, .val (.int wh), .val (.ref ix), .val (.ref xa), .unset, .unset, .unset, .unset, .unset, .unset, .unset, .unset, .unset, .unset, .unset, .unset, .unset] [.null, .null, (.ref xb), (.ref xb)])) (fun _ k => XS.aconstNull X184.here hx rfl (hb hby at_96) k) ?_
          obtain ⟨_, _, ⟨T185, L185, k185, n185⟩, -, X185, ⟨Lc185, hQ185, l185, y185, z185⟩, st185⟩ := X184.specialBack hx (y := (⟨"com/example/ovrdue/ovrdue/keyspace/Entry", "<init>", "(Lcom/example/ovrdue/ovrdue/keyspace/Key;Lcom/example/ovrdue/ovrdue/keyspace/Value;)V"⟩ : MethodName)) rfl hown (mvT hZ (hw _ (List.mem_of_getElem? (i := 17) rfl))) (mvT hZ (hw _ (List.mem_of_getElem? (i := 18) rfl))) (mvT hZ (hw _ (List.mem_of_getElem? (i := 19) rfl))) (by decide) (backOf (W := 1) (own_ein l Z a0 hw [] xb h184 n0 Z0''''' F_deadline_xb F_key_xb F_value_xb F_place_xb E_xb ge_xb) hZ (hw _ (List.mem_of_getElem? (i := 19) rfl)) (hw _ (List.mem_of_getElem? (i := 16) rfl)) (by decide) (by decide)) (g := (mkF m 97 #[.val (.long f1), .second, .val (.long f2), .second, .val (.long f3), .second, .val (.long f4), .second, .val (.int p4), .val (.long (-9223372036854775808 : Int64)), .second, .val (.int wh), .val (.ref ix), .val (.ref xa), .unset, .unset, .unset, .unset, .unset, .unset, .unset, .unset, .unset, .unset, .unset, .unset, .unset] [.null, .null, (.ref xb), (.ref xb)])) rfl (by rw [hml]; rfl) (Steps.refl _) (a := xb) (argsL := [.null, .null]) (rest := [(.ref xb)]) (lenOf own_pd5 rfl) rfl (by show 2 * 0 + _ ≤ _; exact Nat.le_of_eq rfl) (hb hby at_97) (fun _ _ => ⟨rfl, e184, (by decide : (((((0 + 1) + 1) + 1) + 0) + 1) + 0 ≤ _), (by decide : (((((0 + 2) + 16) + 7) + 0) + 7) + 0 ≤ _)⟩)
          dsimp only [Pt.U, Pt.locs, Pt.cells, Pt.slots] at X185 l185 y185 z185 st185 hQ185
          subst l185 y185 z185
          obtain ⟨rfl, N185q, K185, -, Fd_xb, Fp_xb⟩ := hQ185
          have N0''' := Fr.app N0'' N185q
          have E_ix := E_ix.keep K185
          have Fz := Fz.keep K185 (ninS ne_ix_xb nin0)
          have Fh := Fh.keep K185 (ninS ne_ix_xb nin0)
          have V_t := V_t.keep K185 (ninS ne_t_xb nin0)
          have E_xa := E_xa.keep K185
          have Fd_xa := Fd_xa.keep K185 (ninS ne_xa_xb nin0)
          have Fp_xa := Fp_xa.keep K185 (ninS ne_xa_xb nin0)
          have E_xb := E_xb.keep K185
          have Z0'''''' := Nat.le_trans Z0''''' K185.1
          refine own_tr (T' := T185) (g' := (mkF m 100 #[.val (.long f1), .second, .val (.long f2), .second, .val (.long f3), .second, .val (.long f4), .second, .val (.int p4), .val (.long (-9223372036854775808 : Int64)), .second, .val (.int wh), .val (.ref ix), .val (.ref xa), .unset, .unset, .unset, .unset, .unset, .unset, .unset, .unset, .unset, .unset, .unset, .unset, .unset] [(.ref xb)])) st185 ?_
          refine own_st (T' := T185) (g' := (mkF m 102 #[.val (.long f1), .second, .val (.long f2), .second, .val (.long f3), .second, .val (.long f4), .second, .val (.int p4), .val (.long (-9223372036854775808 : Int64)), .second, .val (.int wh), .val (.ref ix), .val (.ref xa), .val (.ref xb), .unset, .unset, .unset, .unset, .unset, .unset, .unset, .unset, .unset, .unset, .unset, .unset] [])) (fun _ k => XS.astore X185.here hx rfl (hb hby at_100) rfl rfl (l' := #[.val (.long f1), .second, .val (.long f2), .second, .val (.long f3), .second, .val (.long f4), .second, .val (.int p4), .val (.long (-9223372036854775808 : Int64)), .second, .val (.int wh), .val (.ref ix), .val (.ref xa), .val (.ref xb), .unset, .unset, .unset, .unset, .unset, .unset, .unset, .unset, .unset, .unset, .unset, .unset]) rfl k) ?_
          obtain ⟨T186, h186, X186, e186, E186, A186, D186, -, st186⟩ := newO X185 hx hZ hown (hw _ (List.mem_of_getElem? (i := 14) rfl)) (hw _ (List.mem_of_getElem? (i := 15) rfl)) (hw _ (List.mem_of_getElem? (i := 16) rfl)) rfl (g := (mkF m 102 #[.val (.long f1), .second, .val (.long f2), .second, .val (.long f3), .second, .val (.long f4), .second, .val (.int p4), .val (.long (-9223372036854775808 : Int64)), .second, .val (.int wh), .val (.ref ix), .val (.ref xa), .val (.ref xb), .unset, .unset, .unset, .unset, .unset, .unset, .unset, .unset, .unset, .unset, .unset, .unset] [])) rfl (hb hby at_102) (by decide) (by decide)
          obtain ⟨xc, gxc⟩ : ∃ z, z = T185.heap.size := ⟨_, rfl⟩
          rw [← gxc] at A186 D186 st186
          have ne_ix_xc : ix ≠ xc := own_ne E_ix.lt gxc
          have ne_t_xc : t ≠ xc := own_ne V_t.lt gxc
          have ne_xa_xc : xa ≠ xc := own_ne E_xa.lt gxc
          have ne_xb_xc : xb ≠ xc := own_ne E_xb.lt gxc
          have ge_xc : n0 ≤ xc := own_ge Z0'''''' gxc
          have E_ix := E_ix.ext E186
          have Fz := Fz.ext E186
          have Fh := Fh.ext E186
          have V_t := V_t.ext E186
          have E_xa := E_xa.ext E186
          have Fd_xa := Fd_xa.ext E186
          have Fp_xa := Fp_xa.ext E186
          have E_xb := E_xb.ext E186
          have Fd_xb := Fd_xb.ext E186
          have Fp_xb := Fp_xb.ext E186
          have Z0''''''' := Nat.le_trans Z0'''''' E186.1
          have E_xc := A186
          have F_deadline_xc : Fld Z h186 xc "com/example/ovrdue/ovrdue/keyspace/Entry" "deadline" "J" (.long (0 : Int64)) := D186 (Or.inl (hw _ (List.mem_of_getElem? (i := 23) rfl))) (ty := .long) (by decide)
          have F_key_xc : Fld Z h186 xc "com/example/ovrdue/ovrdue/keyspace/Entry" "key" "Lcom/example/ovrdue/ovrdue/keyspace/Key;" .null := D186 (Or.inr (hw _ (List.mem_of_getElem? (i := 25) rfl))) (ty := (.object "com/example/ovrdue/ovrdue/keyspace/Key")) (by decide)
          have F_value_xc : Fld Z h186 xc "com/example/ovrdue/ovrdue/keyspace/Entry" "value" "Lcom/example/ovrdue/ovrdue/keyspace/Value;" .null := D186 (Or.inl (hw _ (List.mem_of_getElem? (i := 27) rfl))) (ty := (.object "com/example/ovrdue/ovrdue/keyspace/Value")) (by decide)
          have F_place_xc : Fld Z h186 xc "com/example/ovrdue/ovrdue/keyspace/Entry" "place" "I" (.int (0 : Int32)) := D186 (Or.inl (hw _ (List.mem_of_getElem? (i := 56) rfl))) (ty := .int) (by decide)
          refine own_st (T' := T186) (g' := (mkF m 105 #[.val (.long f1), .second, .val (.long f2), .second, .val (.long f3), .second, .val (.long f4), .second, .val (.int p4), .val (.long (-9223372036854775808 : Int64)), .second, .val (.int wh), .val (.ref ix), .val (.ref xa), .val (.ref xb), .unset, .unset, .unset, .unset, .unset, .unset, .unset, .unset, .unset, .unset, .unset, .unset] [(.ref xc)])) st186 ?_
          refine own_st (T' := T186) (g' := (mkF m 106 #[.val (.long f1), .second, .val (.long f2), .second, .val (.long f3), .second, .val (.long f4), .second, .val (.int p4), .val (.long (-9223372036854775808 : Int64)), .second, .val (.int wh), .val (.ref ix), .val (.ref xa), .val (.ref xb), .unset, .unset, .unset, .unset, .unset, .unset, .unset, .unset, .unset, .unset, .unset, .unset] [(.ref xc), (.ref xc)])) (fun _ k => XS.dup X186.here hx rfl (hb hby at_105) rfl rfl k) ?_
          refine own_st (T' := T186) (g' := (mkF m 107 #[.val (.long f1), .second, .val (.long f2), .second, .val (.long f3), .second, .val (.long f4), .second, .val (.int p4), .val (.long (-9223372036854775808 : Int64)), .second, .val (.int wh), .val (.ref ix), .val (.ref xa), .val (.ref xb), .unset, .unset, .unset, .unset, .unset, .unset, .unset, .unset, .unset, .unset, .unset, .unset] [.null, (.ref xc), (.ref xc)])) (fun _ k => XS.aconstNull X186.here hx rfl (hb hby at_106) k) ?_
          refine own_st (T' := T186) (g' := (mkF m 108 #[.val (.long f1), .second, .val (.long f2), .second, .val (.long f3), .second, .val (.long f4), .second, .val (.int p4), .val (.long (-9223372036854775808 : Int64)), .second, .val (.int wh), .val (.ref ix), .val (.ref xa), .val (.ref xb), .unset, .unset, .unset, .unset, .unset, .unset, .unset, .unset, .unset, .unset, .unset, .unset] [.null, .null, (.ref xc), (.ref xc)])) (fun _ k => XS.aconstNull X186.here hx rfl (hb hby at_107) k) ?_
          obtain ⟨_, _, ⟨T187, L187, k187, n187⟩, -, X187, ⟨Lc187, hQ187, l187, y187, z187⟩, st187⟩ := X186.specialBack hx (y := (⟨"com/example/ovrdue/ovrdue/keyspace/Entry", "<init>", "(Lcom/example/ovrdue/ovrdue/keyspace/Key;Lcom/example/ovrdue/ovrdue/keyspace/Value;)V"⟩ : MethodName)) rfl hown (mvT hZ (hw _ (List.mem_of_getElem? (i := 17) rfl))) (mvT hZ (hw _ (List.mem_of_getElem? (i := 18) rfl))) (mvT hZ (hw _ (List.mem_of_getElem? (i := 19) rfl))) (by decide) (backOf (W := 1) (own_ein l Z a0 hw [] xc h186 n0 Z0''''''' F_deadline_xc F_key_xc F_value_xc F_place_xc E_xc ge_xc) hZ (hw _ (List.mem_of_getElem? (i := 19) rfl)) (hw _ (List.mem_of_getElem? (i := 16) rfl)) (by decide) (by decide)) (g := (mkF m 108 #[.val (.long f1), .second, .val (.long f2), .second, .val (.long f3), .second, .val (.long f4), .second, .val (.int p4), .val (.long (-9223372036854775808 : Int64)), .second, .val (.int wh), .val (.ref ix), .val (.ref xa), .val (.ref xb), .unset, .unset, .unset, .unset, .unset, .unset, .unset, .unset, .unset, .unset, .unset, .unset] [.null, .null, (.ref xc), (.ref xc)])) rfl (by rw [hml]; rfl) (Steps.refl _) (a := xc) (argsL := [.null, .null]) (rest := [(.ref xc)]) (lenOf own_pd5 rfl) rfl (by show 2 * 0 + _ ≤ _; exact Nat.le_of_eq rfl) (hb hby at_108) (fun _ _ => ⟨rfl, e186, (by decide : (((((((0 + 1) + 1) + 1) + 0) + 1) + 0) + 1) + 0 ≤ _), (by decide : (((((((0 + 2) + 16) + 7) + 0) + 7) + 0) + 7) + 0 ≤ _)⟩)
          dsimp only [Pt.U, Pt.locs, Pt.cells, Pt.slots] at X187 l187 y187 z187 st187 hQ187
          subst l187 y187 z187
          obtain ⟨rfl, N187q, K187, -, Fd_xc, Fp_xc⟩ := hQ187
          have N0'''' := Fr.app N0''' N187q
          have E_ix := E_ix.keep K187
          have Fz := Fz.keep K187 (ninS ne_ix_xc nin0)
          have Fh := Fh.keep K187 (ninS ne_ix_xc nin0)
          have V_t := V_t.keep K187 (ninS ne_t_xc nin0)
          have E_xa := E_xa.keep K187
          have Fd_xa := Fd_xa.keep K187 (ninS ne_xa_xc nin0)
          have Fp_xa := Fp_xa.keep K187 (ninS ne_xa_xc nin0)
          have E_xb := E_xb.keep K187
          have Fd_xb := Fd_xb.keep K187 (ninS ne_xb_xc nin0)
          have Fp_xb := Fp_xb.keep K187 (ninS ne_xb_xc nin0)
          have E_xc := E_xc.keep K187
          have Z0'''''''' := Nat.le_trans Z0''''''' K187.1
          refine own_tr (T' := T187) (g' := (mkF m 111 #[.val (.long f1), .second, .val (.long f2), .second, .val (.long f3), .second, .val (.long f4), .second, .val (.int p4), .val (.long (-9223372036854775808 : Int64)), .second, .val (.int wh), .val (.ref ix), .val (.ref xa), .val (.ref xb), .unset, .unset, .unset, .unset, .unset, .unset, .unset, .unset, .unset, .unset, .unset, .unset] [(.ref xc)])) st187 ?_
          refine own_st (T' := T187) (g' := (mkF m 113 #[.val (.long f1), .second, .val (.long f2), .second, .val (.long f3), .second, .val (.long f4), .second, .val (.int p4), .val (.long (-9223372036854775808 : Int64)), .second, .val (.int wh), .val (.ref ix), .val (.ref xa), .val (.ref xb), .val (.ref xc), .unset, .unset, .unset, .unset, .unset, .unset, .unset, .unset, .unset, .unset, .unset] [])) (fun _ k => XS.astore X187.here hx rfl (hb hby at_111) rfl rfl (l' := #[.val (.long f1), .second, .val (.long f2), .second, .val (.long f3), .second, .val (.long f4), .second, .val (.int p4), .val (.long (-9223372036854775808 : Int64)), .second, .val (.int wh), .val (.ref ix), .val (.ref xa), .val (.ref xb), .val (.ref xc), .unset, .unset, .unset, .unset, .unset, .unset, .unset, .unset, .unset, .unset, .unset]) rfl k) ?_
          refine own_st (T' := T187) (g' := (mkF m 115 #[.val (.long f1), .second, .val (.long f2), .second, .val (.long f3), .second, .val (.long f4), .second, .val (.int p4), .val (.long (-9223372036854775808 : Int64)), .second, .val (.int wh), .val (.ref ix), .val (.ref xa), .val (.ref xb), .val (.ref xc), .unset, .unset, .unset, .unset, .unset, .unset, .unset, .unset, .unset, .unset, .unset] [(.ref ix)])) (fun _ k => XS.aload X187.here hx rfl (hb hby at_113) rfl rfl k) ?_
          refine own_st (T' := T187) (g' := (mkF m 117 #[.val (.long f1), .second, .val (.long f2), .second, .val (.long f3), .second, .val (.long f4), .second, .val (.int p4), .val (.long (-9223372036854775808 : Int64)), .second, .val (.int wh), .val (.ref ix), .val (.ref xa), .val (.ref xb), .val (.ref xc), .unset, .unset, .unset, .unset, .unset, .unset, .unset, .unset, .unset, .unset, .unset] [(.ref xa), (.ref ix)])) (fun _ k => XS.aload X187.here hx rfl (hb hby at_115) rfl rfl k) ?_
          refine own_st (T' := T187) (g' := (mkF m 118 #[.val (.long f1), .second, .val (.long f2), .second, .val (.long f3), .second, .val (.long f4), .second, .val (.int p4), .val (.long (-9223372036854775808 : Int64)), .second, .val (.int wh), .val (.ref ix), .val (.ref xa), .val (.ref xb), .val (.ref xc), .unset, .unset, .unset, .unset, .unset, .unset, .unset, .unset, .unset, .unset, .unset] [(.long f1), (.ref xa), (.ref ix)])) (fun _ k => XS.lloadN X187.here hx rfl (hb hby at_117) rfl k) ?_
          have hD : own_Ds Z n0 ix t k [xa, xb, xc] := ⟨ne_ix_t, ge_ix, ge_t, Ov, fun x hx => by
            simp only [List.mem_cons, List.not_mem_nil, or_false] at hx
            rcases hx with rfl | rfl | rfl
            · exact ⟨Ne.symm ne_ix_xa, Ne.symm ne_t_xa, ge_xa⟩
            · exact ⟨Ne.symm ne_ix_xb, Ne.symm ne_t_xb, ge_xb⟩
            · exact ⟨Ne.symm ne_ix_xc, Ne.symm ne_t_xc, ge_xc⟩,
            slot_ne (Or.inl (hw _ (List.mem_of_getElem? (i := 13) rfl))) (Or.inl (hw _ (List.mem_of_getElem? (i := 44) rfl))) (by decide) (t := (.array (.object "com/example/ovrdue/ovrdue/keyspace/Entry"))) (t' := .int) (by decide) (by decide), slot_ne (Or.inl (hw _ (List.mem_of_getElem? (i := 23) rfl))) (Or.inl (hw _ (List.mem_of_getElem? (i := 56) rfl))) (by decide) (t := .long) (t' := .int) (by decide) (by decide)⟩
          have hD3 : own_D3 [xa, xb, xc] := own_d3 xa xb xc
          have Ix : own_Ix Z T187.heap ix t k [xa, xb, xc] (fun _ => (-9223372036854775808 : Int64)) := ⟨[], _, (fun _ => 0), 0, ⟨E_ix, Fh, Fz, V_t, fun x hx => by
            simp only [List.mem_cons, List.not_mem_nil, or_false] at hx
            rcases hx with rfl | rfl | rfl
            · exact ⟨E_xa, Fd_xa, Fp_xa⟩
            · exact ⟨E_xb, Fd_xb, Fp_xb⟩
            · exact ⟨E_xc, Fd_xc, Fp_xc⟩⟩, Or.inl ⟨rfl, rfl⟩, fun x hx => by simp at hx, fun x hx => by simp⟩
          obtain ⟨cq188, kq188, q188a, q188b, q188c⟩ := isOf hZ rfl Ix.ex
          obtain ⟨_, _, ⟨T188, L188, k188, n188⟩, -, X188, ⟨Lc188, hQ188, l188, y188, z188⟩, st188⟩ := X187.virtualBack hx (y := (⟨"com/example/ovrdue/ovrdue/keyspace/DeadlineIndex", "set", "(Lcom/example/ovrdue/ovrdue/keyspace/Entry;J)V"⟩ : MethodName)) (z := (⟨"com/example/ovrdue/ovrdue/keyspace/DeadlineIndex", "set", "(Lcom/example/ovrdue/ovrdue/keyspace/Entry;J)V"⟩ : MethodName)) hown (mvT hZ (hw _ (List.mem_of_getElem? (i := 28) rfl))) (mvT hZ (hw _ (List.mem_of_getElem? (i := 29) rfl))) (notFace_of_selects (args := #[]) (mvT hZ (hw _ (List.mem_of_getElem? (i := 31) rfl)))) (mvT hZ (hw _ (List.mem_of_getElem? (i := 31) rfl))) (mvT hZ (hw _ (List.mem_of_getElem? (i := 30) rfl))) (by decide) (backOf (W := 0) (own_set l Z a0 hw [] ix xa f1 t k [xa, xb, xc] (fun _ => (-9223372036854775808 : Int64)) T187.heap n0 Z0'''''''' hD hD3 Ix (by simp)) hZ (hw _ (List.mem_of_getElem? (i := 32) rfl)) (hw _ (List.mem_of_getElem? (i := 3) rfl)) (by decide) (by decide)) q188a q188c (g := (mkF m 118 #[.val (.long f1), .second, .val (.long f2), .second, .val (.long f3), .second, .val (.long f4), .second, .val (.int p4), .val (.long (-9223372036854775808 : Int64)), .second, .val (.int wh), .val (.ref ix), .val (.ref xa), .val (.ref xb), .val (.ref xc), .unset, .unset, .unset, .unset, .unset, .unset, .unset, .unset, .unset, .unset, .unset] [(.long f1), (.ref xa), (.ref ix)])) rfl (by rw [hml]; rfl) (Steps.refl _) (argsL := [(.ref xa), (.long f1)]) (rest := []) (lenOf own_pd3 rfl) rfl (by show 2 * 0 + _ ≤ _; exact Nat.le_of_eq rfl) (hb hby at_118) (fun _ _ => ⟨rfl, rfl, (by decide : ((((((((0 + 1) + 1) + 1) + 0) + 1) + 0) + 1) + 0) + 0 ≤ _), (by decide : ((((((((0 + 2) + 16) + 7) + 0) + 7) + 0) + 7) + 0) + 0 ≤ _)⟩)
          dsimp only [Pt.U, Pt.locs, Pt.cells, Pt.slots] at X188 l188 y188 z188 st188 hQ188
          subst l188 y188 z188
          obtain ⟨rfl, N188q, K188, Ix⟩ := hQ188
          have N0''''' := Fr.app N0'''' N188q
          have Z0''''''''' := Nat.le_trans Z0'''''''' K188
          refine own_tr (T' := T188) (g' := (mkF m 121 #[.val (.long f1), .second, .val (.long f2), .second, .val (.long f3), .second, .val (.long f4), .second, .val (.int p4), .val (.long (-9223372036854775808 : Int64)), .second, .val (.int wh), .val (.ref ix), .val (.ref xa), .val (.ref xb), .val (.ref xc), .unset, .unset, .unset, .unset, .unset, .unset, .unset, .unset, .unset, .unset, .unset] [])) st188 ?_
          refine own_st (T' := T188) (g' := (mkF m 123 #[.val (.long f1), .second, .val (.long f2), .second, .val (.long f3), .second, .val (.long f4), .second, .val (.int p4), .val (.long (-9223372036854775808 : Int64)), .second, .val (.int wh), .val (.ref ix), .val (.ref xa), .val (.ref xb), .val (.ref xc), .unset, .unset, .unset, .unset, .unset, .unset, .unset, .unset, .unset, .unset, .unset] [(.ref ix)])) (fun _ k => XS.aload X188.here hx rfl (hb hby at_121) rfl rfl k) ?_
          refine own_st (T' := T188) (g' := (mkF m 125 #[.val (.long f1), .second, .val (.long f2), .second, .val (.long f3), .second, .val (.long f4), .second, .val (.int p4), .val (.long (-9223372036854775808 : Int64)), .second, .val (.int wh), .val (.ref ix), .val (.ref xa), .val (.ref xb), .val (.ref xc), .unset, .unset, .unset, .unset, .unset, .unset, .unset, .unset, .unset, .unset, .unset] [(.ref xb), (.ref ix)])) (fun _ k => XS.aload X188.here hx rfl (hb hby at_123) rfl rfl k) ?_
          refine own_st (T' := T188) (g' := (mkF m 126 #[.val (.long f1), .second, .val (.long f2), .second, .val (.long f3), .second, .val (.long f4), .second, .val (.int p4), .val (.long (-9223372036854775808 : Int64)), .second, .val (.int wh), .val (.ref ix), .val (.ref xa), .val (.ref xb), .val (.ref xc), .unset, .unset, .unset, .unset, .unset, .unset, .unset, .unset, .unset, .unset, .unset] [(.long f2), (.ref xb), (.ref ix)])) (fun _ k => XS.lloadN X188.here hx rfl (hb hby at_125) rfl k) ?_
          obtain ⟨cq189, kq189, q189a, q189b, q189c⟩ := isOf hZ rfl Ix.ex
          obtain ⟨_, _, ⟨T189, L189, k189, n189⟩, -, X189, ⟨Lc189, hQ189, l189, y189, z189⟩, st189⟩ := X188.virtualBack hx (y := (⟨"com/example/ovrdue/ovrdue/keyspace/DeadlineIndex", "set", "(Lcom/example/ovrdue/ovrdue/keyspace/Entry;J)V"⟩ : MethodName)) (z := (⟨"com/example/ovrdue/ovrdue/keyspace/DeadlineIndex", "set", "(Lcom/example/ovrdue/ovrdue/keyspace/Entry;J)V"⟩ : MethodName)) hown (mvT hZ (hw _ (List.mem_of_getElem? (i := 28) rfl))) (mvT hZ (hw _ (List.mem_of_getElem? (i := 29) rfl))) (notFace_of_selects (args := #[]) (mvT hZ (hw _ (List.mem_of_getElem? (i := 31) rfl)))) (mvT hZ (hw _ (List.mem_of_getElem? (i := 31) rfl))) (mvT hZ (hw _ (List.mem_of_getElem? (i := 30) rfl))) (by decide) (backOf (W := 0) (own_set l Z a0 hw [] ix xb f2 t k [xa, xb, xc] (own_upd (fun _ => (-9223372036854775808 : Int64)) xa f1) T188.heap n0 Z0''''''''' hD hD3 Ix (by simp)) hZ (hw _ (List.mem_of_getElem? (i := 32) rfl)) (hw _ (List.mem_of_getElem? (i := 3) rfl)) (by decide) (by decide)) q189a q189c (g := (mkF m 126 #[.val (.long f1), .second, .val (.long f2), .second, .val (.long f3), .second, .val (.long f4), .second, .val (.int p4), .val (.long (-9223372036854775808 : Int64)), .second, .val (.int wh), .val (.ref ix), .val (.ref xa), .val (.ref xb), .val (.ref xc), .unset, .unset, .unset, .unset, .unset, .unset, .unset, .unset, .unset, .unset, .unset] [(.long f2), (.ref xb), (.ref ix)])) rfl (by rw [hml]; rfl) (Steps.refl _) (argsL := [(.ref xb), (.long f2)]) (rest := []) (lenOf own_pd3 rfl) rfl (by show 2 * 0 + _ ≤ _; exact Nat.le_of_eq rfl) (hb hby at_126) (fun _ _ => ⟨rfl, rfl, (by decide : (((((((((0 + 1) + 1) + 1) + 0) + 1) + 0) + 1) + 0) + 0) + 0 ≤ _), (by decide : (((((((((0 + 2) + 16) + 7) + 0) + 7) + 0) + 7) + 0) + 0) + 0 ≤ _)⟩)
          dsimp only [Pt.U, Pt.locs, Pt.cells, Pt.slots] at X189 l189 y189 z189 st189 hQ189
          subst l189 y189 z189
          obtain ⟨rfl, N189q, K189, Ix⟩ := hQ189
          have N0'''''' := Fr.app N0''''' N189q
          have Z0'''''''''' := Nat.le_trans Z0''''''''' K189
          refine own_tr (T' := T189) (g' := (mkF m 129 #[.val (.long f1), .second, .val (.long f2), .second, .val (.long f3), .second, .val (.long f4), .second, .val (.int p4), .val (.long (-9223372036854775808 : Int64)), .second, .val (.int wh), .val (.ref ix), .val (.ref xa), .val (.ref xb), .val (.ref xc), .unset, .unset, .unset, .unset, .unset, .unset, .unset, .unset, .unset, .unset, .unset] [])) st189 ?_
          refine own_st (T' := T189) (g' := (mkF m 131 #[.val (.long f1), .second, .val (.long f2), .second, .val (.long f3), .second, .val (.long f4), .second, .val (.int p4), .val (.long (-9223372036854775808 : Int64)), .second, .val (.int wh), .val (.ref ix), .val (.ref xa), .val (.ref xb), .val (.ref xc), .unset, .unset, .unset, .unset, .unset, .unset, .unset, .unset, .unset, .unset, .unset] [(.ref ix)])) (fun _ k => XS.aload X189.here hx rfl (hb hby at_129) rfl rfl k) ?_
          refine own_st (T' := T189) (g' := (mkF m 133 #[.val (.long f1), .second, .val (.long f2), .second, .val (.long f3), .second, .val (.long f4), .second, .val (.int p4), .val (.long (-9223372036854775808 : Int64)), .second, .val (.int wh), .val (.ref ix), .val (.ref xa), .val (.ref xb), .val (.ref xc), .unset, .unset, .unset, .unset, .unset, .unset, .unset, .unset, .unset, .unset, .unset] [(.ref xc), (.ref ix)])) (fun _ k => XS.aload X189.here hx rfl (hb hby at_131) rfl rfl k) ?_
          refine own_st (T' := T189) (g' := (mkF m 135 #[.val (.long f1), .second, .val (.long f2), .second, .val (.long f3), .second, .val (.long f4), .second, .val (.int p4), .val (.long (-9223372036854775808 : Int64)), .second, .val (.int wh), .val (.ref ix), .val (.ref xa), .val (.ref xb), .val (.ref xc), .unset, .unset, .unset, .unset, .unset, .unset, .unset, .unset, .unset, .unset, .unset] [(.long f3), (.ref xc), (.ref ix)])) (fun _ k => XS.lload X189.here hx rfl (hb hby at_133) rfl k) ?_
          obtain ⟨cq190, kq190, q190a, q190b, q190c⟩ := isOf hZ rfl Ix.ex
          obtain ⟨_, _, ⟨T190, L190, k190, n190⟩, -, X190, ⟨Lc190, hQ190, l190, y190, z190⟩, st190⟩ := X189.virtualBack hx (y := (⟨"com/example/ovrdue/ovrdue/keyspace/DeadlineIndex", "set", "(Lcom/example/ovrdue/ovrdue/keyspace/Entry;J)V"⟩ : MethodName)) (z := (⟨"com/example/ovrdue/ovrdue/keyspace/DeadlineIndex", "set", "(Lcom/example/ovrdue/ovrdue/keyspace/Entry;J)V"⟩ : MethodName)) hown (mvT hZ (hw _ (List.mem_of_getElem? (i := 28) rfl))) (mvT hZ (hw _ (List.mem_of_getElem? (i := 29) rfl))) (notFace_of_selects (args := #[]) (mvT hZ (hw _ (List.mem_of_getElem? (i := 31) rfl)))) (mvT hZ (hw _ (List.mem_of_getElem? (i := 31) rfl))) (mvT hZ (hw _ (List.mem_of_getElem? (i := 30) rfl))) (by decide) (backOf (W := 0) (own_set l Z a0 hw [] ix xc f3 t k [xa, xb, xc] (own_upd (own_upd (fun _ => (-9223372036854775808 : Int64)) xa f1) xb f2) T189.heap n0 Z0'''''''''' hD hD3 Ix (by simp)) hZ (hw _ (List.mem_of_getElem? (i := 32) rfl)) (hw _ (List.mem_of_getElem? (i := 3) rfl)) (by decide) (by decide)) q190a q190c (g := (mkF m 135 #[.val (.long f1), .second, .val (.long f2), .second, .val (.long f3), .second, .val (.long f4), .second, .val (.int p4), .val (.long (-9223372036854775808 : Int64)), .second, .val (.int wh), .val (.ref ix), .val (.ref xa), .val (.ref xb), .val (.ref xc), .unset, .unset, .unset, .unset, .unset, .unset, .unset, .unset, .unset, .unset, .unset] [(.long f3), (.ref xc), (.ref ix)])) rfl (by rw [hml]; rfl) (Steps.refl _) (argsL := [(.ref xc), (.long f3)]) (rest := []) (lenOf own_pd3 rfl) rfl (by show 2 * 0 + _ ≤ _; exact Nat.le_of_eq rfl) (hb hby at_135) (fun _ _ => ⟨rfl, rfl, (by decide : ((((((((((0 + 1) + 1) + 1) + 0) + 1) + 0) + 1) + 0) + 0) + 0) + 0 ≤ _), (by decide : ((((((((((0 + 2) + 16) + 7) + 0) + 7) + 0) + 7) + 0) + 0) + 0) + 0 ≤ _)⟩)
          dsimp only [Pt.U, Pt.locs, Pt.cells, Pt.slots] at X190 l190 y190 z190 st190 hQ190
          subst l190 y190 z190
          obtain ⟨rfl, N190q, K190, Ix⟩ := hQ190
          have N0''''''' := Fr.app N0'''''' N190q
          have Z0''''''''''' := Nat.le_trans Z0'''''''''' K190
          refine own_tr (T' := T190) (g' := (mkF m 138 #[.val (.long f1), .second, .val (.long f2), .second, .val (.long f3), .second, .val (.long f4), .second, .val (.int p4), .val (.long (-9223372036854775808 : Int64)), .second, .val (.int wh), .val (.ref ix), .val (.ref xa), .val (.ref xb), .val (.ref xc), .unset, .unset, .unset, .unset, .unset, .unset, .unset, .unset, .unset, .unset, .unset] [])) st190 ?_
          refine own_st (T' := T190) (g' := (mkF m 140 #[.val (.long f1), .second, .val (.long f2), .second, .val (.long f3), .second, .val (.long f4), .second, .val (.int p4), .val (.long (-9223372036854775808 : Int64)), .second, .val (.int wh), .val (.ref ix), .val (.ref xa), .val (.ref xb), .val (.ref xc), .unset, .unset, .unset, .unset, .unset, .unset, .unset, .unset, .unset, .unset, .unset] [(.int wh)])) (fun _ k => XS.iload X190.here hx rfl (hb hby at_138) rfl k) ?_
          have J161 : ∀ (mv : Addr) (hmv : mv ∈ ([xa, xb, xc] : List Addr)) (hmw : (wh = 0 ∧ mv = xa) ∨ (wh = 1 ∧ mv = xb) ∨ (wh = 2 ∧ mv = xc)), own_Go p e below s (own_law_Q Z p0 p1 p2 p3 p4 h0 n0) 24 192 T190 (mkF m 161 #[.val (.long f1), .second, .val (.long f2), .second, .val (.long f3), .second, .val (.long f4), .second, .val (.int p4), .val (.long (-9223372036854775808 : Int64)), .second, .val (.int wh), .val (.ref ix), .val (.ref xa), .val (.ref xb), .val (.ref xc), .unset, .unset, .unset, .unset, .unset, .unset, .unset, .unset, .unset, .unset, .unset] [(.ref mv)]) := by
            intro mv hmv hmw
            refine own_st (T' := T190) (g' := (mkF m 163 #[.val (.long f1), .second, .val (.long f2), .second, .val (.long f3), .second, .val (.long f4), .second, .val (.int p4), .val (.long (-9223372036854775808 : Int64)), .second, .val (.int wh), .val (.ref ix), .val (.ref xa), .val (.ref xb), .val (.ref xc), .val (.ref mv), .unset, .unset, .unset, .unset, .unset, .unset, .unset, .unset, .unset, .unset] [])) (fun _ k => XS.astore X190.here hx rfl (hb hby at_161) rfl rfl (l' := #[.val (.long f1), .second, .val (.long f2), .second, .val (.long f3), .second, .val (.long f4), .second, .val (.int p4), .val (.long (-9223372036854775808 : Int64)), .second, .val (.int wh), .val (.ref ix), .val (.ref xa), .val (.ref xb), .val (.ref xc), .val (.ref mv), .unset, .unset, .unset, .unset, .unset, .unset, .unset, .unset, .unset, .unset]) rfl k) ?_
            refine own_st (T' := T190) (g' := (mkF m 165 #[.val (.long f1), .second, .val (.long f2), .second, .val (.long f3), .second, .val (.long f4), .second, .val (.int p4), .val (.long (-9223372036854775808 : Int64)), .second, .val (.int wh), .val (.ref ix), .val (.ref xa), .val (.ref xb), .val (.ref xc), .val (.ref mv), .unset, .unset, .unset, .unset, .unset, .unset, .unset, .unset, .unset, .unset] [(.ref ix)])) (fun _ k => XS.aload X190.here hx rfl (hb hby at_163) rfl rfl k) ?_
            refine own_st (T' := T190) (g' := (mkF m 167 #[.val (.long f1), .second, .val (.long f2), .second, .val (.long f3), .second, .val (.long f4), .second, .val (.int p4), .val (.long (-9223372036854775808 : Int64)), .second, .val (.int wh), .val (.ref ix), .val (.ref xa), .val (.ref xb), .val (.ref xc), .val (.ref mv), .unset, .unset, .unset, .unset, .unset, .unset, .unset, .unset, .unset, .unset] [(.ref mv), (.ref ix)])) (fun _ k => XS.aload X190.here hx rfl (hb hby at_165) rfl rfl k) ?_
            refine own_st (T' := T190) (g' := (mkF m 169 #[.val (.long f1), .second, .val (.long f2), .second, .val (.long f3), .second, .val (.long f4), .second, .val (.int p4), .val (.long (-9223372036854775808 : Int64)), .second, .val (.int wh), .val (.ref ix), .val (.ref xa), .val (.ref xb), .val (.ref xc), .val (.ref mv), .unset, .unset, .unset, .unset, .unset, .unset, .unset, .unset, .unset, .unset] [(.long f4), (.ref mv), (.ref ix)])) (fun _ k => XS.lload X190.here hx rfl (hb hby at_167) rfl k) ?_
            obtain ⟨cq191, kq191, q191a, q191b, q191c⟩ := isOf hZ rfl Ix.ex
            obtain ⟨_, _, ⟨T191, L191, k191, n191⟩, -, X191, ⟨Lc191, hQ191, l191, y191, z191⟩, st191⟩ := X190.virtualBack hx (y := (⟨"com/example/ovrdue/ovrdue/keyspace/DeadlineIndex", "set", "(Lcom/example/ovrdue/ovrdue/keyspace/Entry;J)V"⟩ : MethodName)) (z := (⟨"com/example/ovrdue/ovrdue/keyspace/DeadlineIndex", "set", "(Lcom/example/ovrdue/ovrdue/keyspace/Entry;J)V"⟩ : MethodName)) hown (mvT hZ (hw _ (List.mem_of_getElem? (i := 28) rfl))) (mvT hZ (hw _ (List.mem_of_getElem? (i := 29) rfl))) (notFace_of_selects (args := #[]) (mvT hZ (hw _ (List.mem_of_getElem? (i := 31) rfl)))) (mvT hZ (hw _ (List.mem_of_getElem? (i := 31) rfl))) (mvT hZ (hw _ (List.mem_of_getElem? (i := 30) rfl))) (by decide) (backOf (W := 0) (own_set l Z a0 hw [] ix mv f4 t k [xa, xb, xc] (own_upd (own_upd (own_upd (fun _ => (-9223372036854775808 : Int64)) xa f1) xb f2) xc f3) T190.heap n0 Z0''''''''''' hD hD3 Ix hmv) hZ (hw _ (List.mem_of_getElem? (i := 32) rfl)) (hw _ (List.mem_of_getElem? (i := 3) rfl)) (by decide) (by decide)) q191a q191c (g := (mkF m 169 #[.val (.long f1), .second, .val (.long f2), .second, .val (.long f3), .second, .val (.long f4), .second, .val (.int p4), .val (.long (-9223372036854775808 : Int64)), .second, .val (.int wh), .val (.ref ix), .val (.ref xa), .val (.ref xb), .val (.ref xc), .val (.ref mv), .unset, .unset, .unset, .unset, .unset, .unset, .unset, .unset, .unset, .unset] [(.long f4), (.ref mv), (.ref ix)])) rfl (by rw [hml]; rfl) (Steps.refl _) (argsL := [(.ref mv), (.long f4)]) (rest := []) (lenOf own_pd3 rfl) rfl (by show 2 * 0 + _ ≤ _; exact Nat.le_of_eq rfl) (hb hby at_169) (fun _ _ => ⟨rfl, rfl, (by decide : (((((((((((0 + 1) + 1) + 1) + 0) + 1) + 0) + 1) + 0) + 0) + 0) + 0) + 0 ≤ _), (by decide : (((((((((((0 + 2) + 16) + 7) + 0) + 7) + 0) + 7) + 0) + 0) + 0) + 0) + 0 ≤ _)⟩)
            dsimp only [Pt.U, Pt.locs, Pt.cells, Pt.slots] at X191 l191 y191 z191 st191 hQ191
            subst l191 y191 z191
            obtain ⟨rfl, N191q, K191, Ix⟩ := hQ191
            have N0'''''''' := Fr.app N0''''''' N191q
            have Z0'''''''''''' := Nat.le_trans Z0''''''''''' K191
            refine own_tr (T' := T191) (g' := (mkF m 172 #[.val (.long f1), .second, .val (.long f2), .second, .val (.long f3), .second, .val (.long f4), .second, .val (.int p4), .val (.long (-9223372036854775808 : Int64)), .second, .val (.int wh), .val (.ref ix), .val (.ref xa), .val (.ref xb), .val (.ref xc), .val (.ref mv), .unset, .unset, .unset, .unset, .unset, .unset, .unset, .unset, .unset, .unset] [])) st191 ?_
            obtain ⟨dl, hdl⟩ : ∃ dl, dl = (own_upd (own_upd (own_upd (own_upd (fun _ => (-9223372036854775808 : Int64)) xa f1) xb f2) xc f3) mv f4) := ⟨_, rfl⟩
            rw [← hdl] at Ix
            have da : dl xa = if wh = 0 then f4 else f1 := by rw [hdl]; rcases hmw with ⟨rfl, rfl⟩ | ⟨rfl, rfl⟩ | ⟨rfl, rfl⟩ <;> simp [own_upd, ne_xa_xb, ne_xa_xc, ne_xb_xc]
            have db : dl xb = if wh = 1 then f4 else f2 := by rw [hdl]; rcases hmw with ⟨rfl, rfl⟩ | ⟨rfl, rfl⟩ | ⟨rfl, rfl⟩ <;> simp [own_upd, ne_xa_xb, ne_xa_xc, ne_xb_xc, Ne.symm ne_xa_xb, Ne.symm ne_xa_xc, Ne.symm ne_xb_xc]
            have dc : dl xc = if wh = 2 then f4 else f3 := by rw [hdl]; rcases hmw with ⟨rfl, rfl⟩ | ⟨rfl, rfl⟩ | ⟨rfl, rfl⟩ <;> simp [own_upd, ne_xa_xb, ne_xa_xc, ne_xb_xc, Ne.symm ne_xa_xb, Ne.symm ne_xa_xc, Ne.symm ne_xb_xc]
            clear hdl
            refine own_st (T' := T191) (g' := (mkF m 174 #[.val (.long f1), .second, .val (.long f2), .second, .val (.long f3), .second, .val (.long f4), .second, .val (.int p4), .val (.long (-9223372036854775808 : Int64)), .second, .val (.int wh), .val (.ref ix), .val (.ref xa), .val (.ref xb), .val (.ref xc), .val (.ref mv), .unset, .unset, .unset, .unset, .unset, .unset, .unset, .unset, .unset, .unset] [(.int wh)])) (fun _ k => XS.iload X191.here hx rfl (hb hby at_172) rfl k) ?_
            have J183 : ∀ (ea : Int64) (hea : ea = dl xa), own_Go p e below s (own_law_Q Z p0 p1 p2 p3 p4 h0 n0) 24 192 T191 (mkF m 183 #[.val (.long f1), .second, .val (.long f2), .second, .val (.long f3), .second, .val (.long f4), .second, .val (.int p4), .val (.long (-9223372036854775808 : Int64)), .second, .val (.int wh), .val (.ref ix), .val (.ref xa), .val (.ref xb), .val (.ref xc), .val (.ref mv), .unset, .unset, .unset, .unset, .unset, .unset, .unset, .unset, .unset, .unset] [(.long ea)]) := by
              intro ea hea
              refine own_st (T' := T191) (g' := (mkF m 185 #[.val (.long f1), .second, .val (.long f2), .second, .val (.long f3), .second, .val (.long f4), .second, .val (.int p4), .val (.long (-9223372036854775808 : Int64)), .second, .val (.int wh), .val (.ref ix), .val (.ref xa), .val (.ref xb), .val (.ref xc), .val (.ref mv), .val (.long ea), .second, .unset, .unset, .unset, .unset, .unset, .unset, .unset, .unset] [])) (fun _ k => XS.lstore X191.here hx rfl (hb hby at_183) rfl (l' := #[.val (.long f1), .second, .val (.long f2), .second, .val (.long f3), .second, .val (.long f4), .second, .val (.int p4), .val (.long (-9223372036854775808 : Int64)), .second, .val (.int wh), .val (.ref ix), .val (.ref xa), .val (.ref xb), .val (.ref xc), .val (.ref mv), .val (.long ea), .second, .unset, .unset, .unset, .unset, .unset, .unset, .unset, .unset]) rfl k) ?_
              refine own_st (T' := T191) (g' := (mkF m 187 #[.val (.long f1), .second, .val (.long f2), .second, .val (.long f3), .second, .val (.long f4), .second, .val (.int p4), .val (.long (-9223372036854775808 : Int64)), .second, .val (.int wh), .val (.ref ix), .val (.ref xa), .val (.ref xb), .val (.ref xc), .val (.ref mv), .val (.long ea), .second, .unset, .unset, .unset, .unset, .unset, .unset, .unset, .unset] [(.int wh)])) (fun _ k => XS.iload X191.here hx rfl (hb hby at_185) rfl k) ?_
              refine own_st (T' := T191) (g' := (mkF m 188 #[.val (.long f1), .second, .val (.long f2), .second, .val (.long f3), .second, .val (.long f4), .second, .val (.int p4), .val (.long (-9223372036854775808 : Int64)), .second, .val (.int wh), .val (.ref ix), .val (.ref xa), .val (.ref xb), .val (.ref xc), .val (.ref mv), .val (.long ea), .second, .unset, .unset, .unset, .unset, .unset, .unset, .unset, .unset] [(.int (1 : Int32)), (.int wh)])) (fun _ k => XS.iconst X191.here hx rfl (hb hby at_187) k) ?_
              have J197 : ∀ (eb : Int64) (heb : eb = dl xb), own_Go p e below s (own_law_Q Z p0 p1 p2 p3 p4 h0 n0) 24 192 T191 (mkF m 197 #[.val (.long f1), .second, .val (.long f2), .second, .val (.long f3), .second, .val (.long f4), .second, .val (.int p4), .val (.long (-9223372036854775808 : Int64)), .second, .val (.int wh), .val (.ref ix), .val (.ref xa), .val (.ref xb), .val (.ref xc), .val (.ref mv), .val (.long ea), .second, .unset, .unset, .unset, .unset, .unset, .unset, .unset, .unset] [(.long eb)]) := by
                intro eb heb
                refine own_st (T' := T191) (g' := (mkF m 199 #[.val (.long f1), .second, .val (.long f2), .second, .val (.long f3), .second, .val (.long f4), .second, .val (.int p4), .val (.long (-9223372036854775808 : Int64)), .second, .val (.int wh), .val (.ref ix), .val (.ref xa), .val (.ref xb), .val (.ref xc), .val (.ref mv), .val (.long ea), .second, .val (.long eb), .second, .unset, .unset, .unset, .unset, .unset, .unset] [])) (fun _ k => XS.lstore X191.here hx rfl (hb hby at_197) rfl (l' := #[.val (.long f1), .second, .val (.long f2), .second, .val (.long f3), .second, .val (.long f4), .second, .val (.int p4), .val (.long (-9223372036854775808 : Int64)), .second, .val (.int wh), .val (.ref ix), .val (.ref xa), .val (.ref xb), .val (.ref xc), .val (.ref mv), .val (.long ea), .second, .val (.long eb), .second, .unset, .unset, .unset, .unset, .unset, .unset]) rfl k) ?_
                refine own_st (T' := T191) (g' := (mkF m 201 #[.val (.long f1), .second, .val (.long f2), .second, .val (.long f3), .second, .val (.long f4), .second, .val (.int p4), .val (.long (-9223372036854775808 : Int64)), .second, .val (.int wh), .val (.ref ix), .val (.ref xa), .val (.ref xb), .val (.ref xc), .val (.ref mv), .val (.long ea), .second, .val (.long eb), .second, .unset, .unset, .unset, .unset, .unset, .unset] [(.int wh)])) (fun _ k => XS.iload X191.here hx rfl (hb hby at_199) rfl k) ?_
                refine own_st (T' := T191) (g' := (mkF m 202 #[.val (.long f1), .second, .val (.long f2), .second, .val (.long f3), .second, .val (.long f4), .second, .val (.int p4), .val (.long (-9223372036854775808 : Int64)), .second, .val (.int wh), .val (.ref ix), .val (.ref xa), .val (.ref xb), .val (.ref xc), .val (.ref mv), .val (.long ea), .second, .val (.long eb), .second, .unset, .unset, .unset, .unset, .unset, .unset] [(.int (2 : Int32)), (.int wh)])) (fun _ k => XS.iconst X191.here hx rfl (hb hby at_201) k) ?_
                have J212 : ∀ (ec : Int64) (hec : ec = dl xc), own_Go p e below s (own_law_Q Z p0 p1 p2 p3 p4 h0 n0) 24 192 T191 (mkF m 212 #[.val (.long f1), .second, .val (.long f2), .second, .val (.long f3), .second, .val (.long f4), .second, .val (.int p4), .val (.long (-9223372036854775808 : Int64)), .second, .val (.int wh), .val (.ref ix), .val (.ref xa), .val (.ref xb), .val (.ref xc), .val (.ref mv), .val (.long ea), .second, .val (.long eb), .second, .unset, .unset, .unset, .unset, .unset, .unset] [(.long ec)]) := by
                  intro ec hec
                  refine own_st (T' := T191) (g' := (mkF m 214 #[.val (.long f1), .second, .val (.long f2), .second, .val (.long f3), .second, .val (.long f4), .second, .val (.int p4), .val (.long (-9223372036854775808 : Int64)), .second, .val (.int wh), .val (.ref ix), .val (.ref xa), .val (.ref xb), .val (.ref xc), .val (.ref mv), .val (.long ea), .second, .val (.long eb), .second, .val (.long ec), .second, .unset, .unset, .unset, .unset] [])) (fun _ k => XS.lstore X191.here hx rfl (hb hby at_212) rfl (l' := #[.val (.long f1), .second, .val (.long f2), .second, .val (.long f3), .second, .val (.long f4), .second, .val (.int p4), .val (.long (-9223372036854775808 : Int64)), .second, .val (.int wh), .val (.ref ix), .val (.ref xa), .val (.ref xb), .val (.ref xc), .val (.ref mv), .val (.long ea), .second, .val (.long eb), .second, .val (.long ec), .second, .unset, .unset, .unset, .unset]) rfl k) ?_
                  refine own_st (T' := T191) (g' := (mkF m 216 #[.val (.long f1), .second, .val (.long f2), .second, .val (.long f3), .second, .val (.long f4), .second, .val (.int p4), .val (.long (-9223372036854775808 : Int64)), .second, .val (.int wh), .val (.ref ix), .val (.ref xa), .val (.ref xb), .val (.ref xc), .val (.ref mv), .val (.long ea), .second, .val (.long eb), .second, .val (.long ec), .second, .unset, .unset, .unset, .unset] [(.ref ix)])) (fun _ k => XS.aload X191.here hx rfl (hb hby at_214) rfl rfl k) ?_
                  obtain ⟨cq192, kq192, q192a, q192b, q192c⟩ := isOf hZ rfl Ix.ex
                  obtain ⟨_, _, ⟨T192, L192, k192, n192⟩, -, X192, ⟨Lc192, hQ192, l192, y192, z192⟩, st192⟩ := X191.virtualBack hx (y := (⟨"com/example/ovrdue/ovrdue/keyspace/DeadlineIndex", "first", "()Lcom/example/ovrdue/ovrdue/keyspace/Entry;"⟩ : MethodName)) (z := (⟨"com/example/ovrdue/ovrdue/keyspace/DeadlineIndex", "first", "()Lcom/example/ovrdue/ovrdue/keyspace/Entry;"⟩ : MethodName)) hown (mvT hZ (hw _ (List.mem_of_getElem? (i := 61) rfl))) (mvT hZ (hw _ (List.mem_of_getElem? (i := 62) rfl))) (notFace_of_selects (args := #[]) (mvT hZ (hw _ (List.mem_of_getElem? (i := 64) rfl)))) (mvT hZ (hw _ (List.mem_of_getElem? (i := 64) rfl))) (mvT hZ (hw _ (List.mem_of_getElem? (i := 63) rfl))) (by decide) (backOf (W := 0) (own_first l Z a0 hw [] ix t k [xa, xb, xc] dl T191.heap n0 Z0'''''''''''' Ix) hZ (hw _ (List.mem_of_getElem? (i := 65) rfl)) (hw _ (List.mem_of_getElem? (i := 3) rfl)) (by decide) (by decide)) q192a q192c (g := (mkF m 216 #[.val (.long f1), .second, .val (.long f2), .second, .val (.long f3), .second, .val (.long f4), .second, .val (.int p4), .val (.long (-9223372036854775808 : Int64)), .second, .val (.int wh), .val (.ref ix), .val (.ref xa), .val (.ref xb), .val (.ref xc), .val (.ref mv), .val (.long ea), .second, .val (.long eb), .second, .val (.long ec), .second, .unset, .unset, .unset, .unset] [(.ref ix)])) rfl (by rw [hml]; rfl) (Steps.refl _) (argsL := []) (rest := []) (lenOf own_pd6 rfl) rfl (by show 2 * 0 + _ ≤ _; exact Nat.le_of_eq rfl) (hb hby at_216) (fun _ _ => ⟨rfl, rfl, (by decide : ((((((((((((0 + 1) + 1) + 1) + 0) + 1) + 0) + 1) + 0) + 0) + 0) + 0) + 0) + 0 ≤ _), (by decide : ((((((((((((0 + 2) + 16) + 7) + 0) + 7) + 0) + 7) + 0) + 0) + 0) + 0) + 0) + 0 ≤ _)⟩)
                  dsimp only [Pt.U, Pt.locs, Pt.cells, Pt.slots] at X192 l192 y192 z192 st192 hQ192
                  subst l192 y192 z192
                  obtain ⟨r, rfl, N192q, e192, hr, hsp⟩ := hQ192
                  have N0''''''''' := Fr.app N0'''''''' N192q
                  refine own_tr (T' := T192) (g' := (mkF m 219 #[.val (.long f1), .second, .val (.long f2), .second, .val (.long f3), .second, .val (.long f4), .second, .val (.int p4), .val (.long (-9223372036854775808 : Int64)), .second, .val (.int wh), .val (.ref ix), .val (.ref xa), .val (.ref xb), .val (.ref xc), .val (.ref mv), .val (.long ea), .second, .val (.long eb), .second, .val (.long ec), .second, .unset, .unset, .unset, .unset] [r])) st192 ?_
                  have ma : xa ∈ ([xa, xb, xc] : List Addr) := by simp
                  have mb : xb ∈ ([xa, xb, xc] : List Addr) := by simp
                  have mc : xc ∈ ([xa, xb, xc] : List Addr) := by simp
                  refine own_st (T' := T192) (g' := (mkF m 221 #[.val (.long f1), .second, .val (.long f2), .second, .val (.long f3), .second, .val (.long f4), .second, .val (.int p4), .val (.long (-9223372036854775808 : Int64)), .second, .val (.int wh), .val (.ref ix), .val (.ref xa), .val (.ref xb), .val (.ref xc), .val (.ref mv), .val (.long ea), .second, .val (.long eb), .second, .val (.long ec), .second, .val r, .unset, .unset, .unset] [])) (fun _ k => XS.astore X192.here hx rfl (hb hby at_219) rfl hr (l' := #[.val (.long f1), .second, .val (.long f2), .second, .val (.long f3), .second, .val (.long f4), .second, .val (.int p4), .val (.long (-9223372036854775808 : Int64)), .second, .val (.int wh), .val (.ref ix), .val (.ref xa), .val (.ref xb), .val (.ref xc), .val (.ref mv), .val (.long ea), .second, .val (.long eb), .second, .val (.long ec), .second, .val r, .unset, .unset, .unset]) (own_store1 hr rfl (Or.inl rfl)) k) ?_
                  refine own_st (T' := T192) (g' := (mkF m 223 #[.val (.long f1), .second, .val (.long f2), .second, .val (.long f3), .second, .val (.long f4), .second, .val (.int p4), .val (.long (-9223372036854775808 : Int64)), .second, .val (.int wh), .val (.ref ix), .val (.ref xa), .val (.ref xb), .val (.ref xc), .val (.ref mv), .val (.long ea), .second, .val (.long eb), .second, .val (.long ec), .second, .val r, .unset, .unset, .unset] [(.long ea)])) (fun _ k => XS.lload X192.here hx rfl (hb hby at_221) rfl k) ?_
                  refine own_st (T' := T192) (g' := (mkF m 225 #[.val (.long f1), .second, .val (.long f2), .second, .val (.long f3), .second, .val (.long f4), .second, .val (.int p4), .val (.long (-9223372036854775808 : Int64)), .second, .val (.int wh), .val (.ref ix), .val (.ref xa), .val (.ref xb), .val (.ref xc), .val (.ref mv), .val (.long ea), .second, .val (.long eb), .second, .val (.long ec), .second, .val r, .unset, .unset, .unset] [(.long (-9223372036854775808 : Int64)), (.long ea)])) (fun _ k => XS.lload X192.here hx rfl (hb hby at_223) rfl k) ?_
                  refine own_st (T' := T192) (g' := (mkF m 226 #[.val (.long f1), .second, .val (.long f2), .second, .val (.long f3), .second, .val (.long f4), .second, .val (.int p4), .val (.long (-9223372036854775808 : Int64)), .second, .val (.int wh), .val (.ref ix), .val (.ref xa), .val (.ref xb), .val (.ref xc), .val (.ref mv), .val (.long ea), .second, .val (.long eb), .second, .val (.long ec), .second, .val r, .unset, .unset, .unset] [(.int (lcmpW ea (-9223372036854775808 : Int64)))])) (fun _ k => XS.lcmp X192.here hx rfl (hb hby at_225) rfl k) ?_
                  have J250 : ∀ (an : Int32) (hany : (an = 0 ∧ ea = (-9223372036854775808 : Int64) ∧ eb = (-9223372036854775808 : Int64) ∧ ec = (-9223372036854775808 : Int64)) ∨ (an = 1 ∧ (ea ≠ (-9223372036854775808 : Int64) ∨ eb ≠ (-9223372036854775808 : Int64) ∨ ec ≠ (-9223372036854775808 : Int64)))), own_Go p e below s (own_law_Q Z p0 p1 p2 p3 p4 h0 n0) 24 192 T192 (mkF m 250 #[.val (.long f1), .second, .val (.long f2), .second, .val (.long f3), .second, .val (.long f4), .second, .val (.int p4), .val (.long (-9223372036854775808 : Int64)), .second, .val (.int wh), .val (.ref ix), .val (.ref xa), .val (.ref xb), .val (.ref xc), .val (.ref mv), .val (.long ea), .second, .val (.long eb), .second, .val (.long ec), .second, .val r, .unset, .unset, .unset] [(.int an)]) := by
                    intro an hany
                    refine own_st (T' := T192) (g' := (mkF m 252 #[.val (.long f1), .second, .val (.long f2), .second, .val (.long f3), .second, .val (.long f4), .second, .val (.int p4), .val (.long (-9223372036854775808 : Int64)), .second, .val (.int wh), .val (.ref ix), .val (.ref xa), .val (.ref xb), .val (.ref xc), .val (.ref mv), .val (.long ea), .second, .val (.long eb), .second, .val (.long ec), .second, .val r, .val (.int an), .unset, .unset] [])) (fun _ k => XS.istore X192.here hx rfl (hb hby at_250) rfl (l' := #[.val (.long f1), .second, .val (.long f2), .second, .val (.long f3), .second, .val (.long f4), .second, .val (.int p4), .val (.long (-9223372036854775808 : Int64)), .second, .val (.int wh), .val (.ref ix), .val (.ref xa), .val (.ref xb), .val (.ref xc), .val (.ref mv), .val (.long ea), .second, .val (.long eb), .second, .val (.long ec), .second, .val r, .val (.int an), .unset, .unset]) rfl k) ?_
                    refine own_st (T' := T192) (g' := (mkF m 254 #[.val (.long f1), .second, .val (.long f2), .second, .val (.long f3), .second, .val (.long f4), .second, .val (.int p4), .val (.long (-9223372036854775808 : Int64)), .second, .val (.int wh), .val (.ref ix), .val (.ref xa), .val (.ref xb), .val (.ref xc), .val (.ref mv), .val (.long ea), .second, .val (.long eb), .second, .val (.long ec), .second, .val r, .val (.int an), .unset, .unset] [(.int an)])) (fun _ k => XS.iload X192.here hx rfl (hb hby at_252) rfl k) ?_
                    by_cases q0 : an = (0 : Int32)
                    · refine own_st (T' := T192) (g' := (mkF m 257 #[.val (.long f1), .second, .val (.long f2), .second, .val (.long f3), .second, .val (.long f4), .second, .val (.int p4), .val (.long (-9223372036854775808 : Int64)), .second, .val (.int wh), .val (.ref ix), .val (.ref xa), .val (.ref xb), .val (.ref xc), .val (.ref mv), .val (.long ea), .second, .val (.long eb), .second, .val (.long ec), .second, .val r, .val (.int an), .unset, .unset] [])) (fun _ k => XS.ifNo X192.here hx rfl (hb hby at_254) rfl (Jvm.Free.XT.i0_ne_f q0) k) ?_
                      refine own_st (T' := T192) (g' := (mkF m 259 #[.val (.long f1), .second, .val (.long f2), .second, .val (.long f3), .second, .val (.long f4), .second, .val (.int p4), .val (.long (-9223372036854775808 : Int64)), .second, .val (.int wh), .val (.ref ix), .val (.ref xa), .val (.ref xb), .val (.ref xc), .val (.ref mv), .val (.long ea), .second, .val (.long eb), .second, .val (.long ec), .second, .val r, .val (.int an), .unset, .unset] [r])) (fun _ k => XS.aload X192.here hx rfl (hb hby at_257) rfl hr k) ?_
                      have hrn : r = .null := by
                        rcases hany with ⟨-, u1, u2, u3⟩ | ⟨u, -⟩
                        · rcases hsp with ⟨h, -⟩ | ⟨x0, hm, -, hd, -⟩
                          · exact h
                          · exfalso; simp only [List.mem_cons, List.not_mem_nil, or_false] at hm; rcases hm with rfl | rfl | rfl <;> simp_all
                        · rw [u] at q0; exact absurd q0 (by decide)
                      refine own_st (T' := T192) (g' := (mkF m 262 #[.val (.long f1), .second, .val (.long f2), .second, .val (.long f3), .second, .val (.long f4), .second, .val (.int p4), .val (.long (-9223372036854775808 : Int64)), .second, .val (.int wh), .val (.ref ix), .val (.ref xa), .val (.ref xb), .val (.ref xc), .val (.ref mv), .val (.long ea), .second, .val (.long eb), .second, .val (.long ec), .second, .val r, .val (.int an), .unset, .unset] [])) (fun _ k => Jvm.Free.XT.nonnullNo X192.here hx rfl (hb hby at_259) rfl hrn k) ?_
                      refine own_st (T' := T192) (g' := (mkF m 263 #[.val (.long f1), .second, .val (.long f2), .second, .val (.long f3), .second, .val (.long f4), .second, .val (.int p4), .val (.long (-9223372036854775808 : Int64)), .second, .val (.int wh), .val (.ref ix), .val (.ref xa), .val (.ref xb), .val (.ref xc), .val (.ref mv), .val (.long ea), .second, .val (.long eb), .second, .val (.long ec), .second, .val r, .val (.int an), .unset, .unset] [(.int (1 : Int32))])) (fun _ k => XS.iconst X192.here hx rfl (hb hby at_262) k) ?_
                      refine own_st (T' := T192) (g' := (mkF m 267 #[.val (.long f1), .second, .val (.long f2), .second, .val (.long f3), .second, .val (.long f4), .second, .val (.int p4), .val (.long (-9223372036854775808 : Int64)), .second, .val (.int wh), .val (.ref ix), .val (.ref xa), .val (.ref xb), .val (.ref xc), .val (.ref mv), .val (.long ea), .second, .val (.long eb), .second, .val (.long ec), .second, .val r, .val (.int an), .unset, .unset] [(.int (1 : Int32))])) (fun _ k => XS.goto X192.here hx rfl (pc0 := 263) (pc' := 267) rfl (hb hby at_263) (by decide) (by decide) k) ?_
                      exact own_retN X192 hx Bd.returns Bd.notSynchronized e192 (by simp) (hb hby at_267) ⟨rfl, N0'''''''''⟩ (by decide) (by decide)
                    · refine own_st (T' := T192) (g' := (mkF m 268 #[.val (.long f1), .second, .val (.long f2), .second, .val (.long f3), .second, .val (.long f4), .second, .val (.int p4), .val (.long (-9223372036854775808 : Int64)), .second, .val (.int wh), .val (.ref ix), .val (.ref xa), .val (.ref xb), .val (.ref xc), .val (.ref mv), .val (.long ea), .second, .val (.long eb), .second, .val (.long ec), .second, .val r, .val (.int an), .unset, .unset] [])) (fun _ k => XS.ifYes X192.here hx rfl (pc0 := 254) (pc' := 268) rfl (hb hby at_254) rfl (Jvm.Free.XT.i0_ne_t q0) (by decide) (by decide) k) ?_
                      obtain ⟨x0, hm, hrx, hdx, hmn⟩ : ∃ x0, x0 ∈ ([xa, xb, xc] : List Addr) ∧ r = .ref x0 ∧ dl x0 ≠ (-9223372036854775808 : Int64) ∧ ∀ y, y ∈ ([xa, xb, xc] : List Addr) → dl y ≠ (-9223372036854775808 : Int64) → dl x0 ≤ dl y := by
                        rcases hsp with ⟨-, h⟩ | h
                        · exfalso; rcases hany with ⟨u, -⟩ | ⟨-, u⟩
                          · exact q0 u
                          · rw [hea, heb, hec, h xa ma, h xb mb, h xc mc] at u; simp at u
                        · exact h
                      refine own_st (T' := T192) (g' := (mkF m 271 #[.val (.long f1), .second, .val (.long f2), .second, .val (.long f3), .second, .val (.long f4), .second, .val (.int p4), .val (.long (-9223372036854775808 : Int64)), .second, .val (.int wh), .val (.ref ix), .val (.ref xa), .val (.ref xb), .val (.ref xc), .val (.ref mv), .val (.long ea), .second, .val (.long eb), .second, .val (.long ec), .second, .val r, .val (.int an), .unset, .unset] [(.long (9223372036854775807 : Int64))])) (X192.ldc2Long hx hown (mvT hZ (hw _ (List.mem_of_getElem? (i := 66) rfl))) (g := (mkF m 268 #[.val (.long f1), .second, .val (.long f2), .second, .val (.long f3), .second, .val (.long f4), .second, .val (.int p4), .val (.long (-9223372036854775808 : Int64)), .second, .val (.int wh), .val (.ref ix), .val (.ref xa), .val (.ref xb), .val (.ref xc), .val (.ref mv), .val (.long ea), .second, .val (.long eb), .second, .val (.long ec), .second, .val r, .val (.int an), .unset, .unset] [])) rfl (hb hby at_268)) ?_
                      refine own_st (T' := T192) (g' := (mkF m 273 #[.val (.long f1), .second, .val (.long f2), .second, .val (.long f3), .second, .val (.long f4), .second, .val (.int p4), .val (.long (-9223372036854775808 : Int64)), .second, .val (.int wh), .val (.ref ix), .val (.ref xa), .val (.ref xb), .val (.ref xc), .val (.ref mv), .val (.long ea), .second, .val (.long eb), .second, .val (.long ec), .second, .val r, .val (.int an), .val (.long (9223372036854775807 : Int64)), .second] [])) (fun _ k => XS.lstore X192.here hx rfl (hb hby at_271) rfl (l' := #[.val (.long f1), .second, .val (.long f2), .second, .val (.long f3), .second, .val (.long f4), .second, .val (.int p4), .val (.long (-9223372036854775808 : Int64)), .second, .val (.int wh), .val (.ref ix), .val (.ref xa), .val (.ref xb), .val (.ref xc), .val (.ref mv), .val (.long ea), .second, .val (.long eb), .second, .val (.long ec), .second, .val r, .val (.int an), .val (.long (9223372036854775807 : Int64)), .second]) rfl k) ?_
                      refine own_st (T' := T192) (g' := (mkF m 275 #[.val (.long f1), .second, .val (.long f2), .second, .val (.long f3), .second, .val (.long f4), .second, .val (.int p4), .val (.long (-9223372036854775808 : Int64)), .second, .val (.int wh), .val (.ref ix), .val (.ref xa), .val (.ref xb), .val (.ref xc), .val (.ref mv), .val (.long ea), .second, .val (.long eb), .second, .val (.long ec), .second, .val r, .val (.int an), .val (.long (9223372036854775807 : Int64)), .second] [(.long ea)])) (fun _ k => XS.lload X192.here hx rfl (hb hby at_273) rfl k) ?_
                      refine own_st (T' := T192) (g' := (mkF m 277 #[.val (.long f1), .second, .val (.long f2), .second, .val (.long f3), .second, .val (.long f4), .second, .val (.int p4), .val (.long (-9223372036854775808 : Int64)), .second, .val (.int wh), .val (.ref ix), .val (.ref xa), .val (.ref xb), .val (.ref xc), .val (.ref mv), .val (.long ea), .second, .val (.long eb), .second, .val (.long ec), .second, .val r, .val (.int an), .val (.long (9223372036854775807 : Int64)), .second] [(.long (-9223372036854775808 : Int64)), (.long ea)])) (fun _ k => XS.lload X192.here hx rfl (hb hby at_275) rfl k) ?_
                      refine own_st (T' := T192) (g' := (mkF m 278 #[.val (.long f1), .second, .val (.long f2), .second, .val (.long f3), .second, .val (.long f4), .second, .val (.int p4), .val (.long (-9223372036854775808 : Int64)), .second, .val (.int wh), .val (.ref ix), .val (.ref xa), .val (.ref xb), .val (.ref xc), .val (.ref mv), .val (.long ea), .second, .val (.long eb), .second, .val (.long ec), .second, .val r, .val (.int an), .val (.long (9223372036854775807 : Int64)), .second] [(.int (lcmpW ea (-9223372036854775808 : Int64)))])) (fun _ k => XS.lcmp X192.here hx rfl (hb hby at_277) rfl k) ?_
                      have J290 : ∀ (T193 : State) (l193 : List Loc) (X193 : Stand p l e room_1 s m #[(.long p0), (.long p1), (.long p2), (.long p3), (.int p4)] below meth c T193 l193 (((((((((((((0 + 1) + 1) + 1) + 0) + 1) + 0) + 1) + 0) + 0) + 0) + 0) + 0) + 0) (((((((((((((0 + 2) + 16) + 7) + 0) + 7) + 0) + 7) + 0) + 0) + 0) + 0) + 0) + 0)) (e193 : T193.heap = T191.heap) (N193 : Fr n0 l193) (mn1 : Int64) (hmn1 : (ea ≠ (-9223372036854775808 : Int64) → mn1 ≤ ea) ∧ (mn1 = (9223372036854775807 : Int64) ∨ (ea ≠ (-9223372036854775808 : Int64) ∧ mn1 = ea))), own_Go p e below s (own_law_Q Z p0 p1 p2 p3 p4 h0 n0) 24 192 T193 (mkF m 290 #[.val (.long f1), .second, .val (.long f2), .second, .val (.long f3), .second, .val (.long f4), .second, .val (.int p4), .val (.long (-9223372036854775808 : Int64)), .second, .val (.int wh), .val (.ref ix), .val (.ref xa), .val (.ref xb), .val (.ref xc), .val (.ref mv), .val (.long ea), .second, .val (.long eb), .second, .val (.long ec), .second, .val r, .val (.int an), .val (.long mn1), .second] []) := by
                        intro T193 l193 X193 e193 N193 mn1 hmn1
                        refine own_st (T' := T193) (g' := (mkF m 292 #[.val (.long f1), .second, .val (.long f2), .second, .val (.long f3), .second, .val (.long f4), .second, .val (.int p4), .val (.long (-9223372036854775808 : Int64)), .second, .val (.int wh), .val (.ref ix), .val (.ref xa), .val (.ref xb), .val (.ref xc), .val (.ref mv), .val (.long ea), .second, .val (.long eb), .second, .val (.long ec), .second, .val r, .val (.int an), .val (.long mn1), .second] [(.long eb)])) (fun _ k => XS.lload X193.here hx rfl (hb hby at_290) rfl k) ?_
                        refine own_st (T' := T193) (g' := (mkF m 294 #[.val (.long f1), .second, .val (.long f2), .second, .val (.long f3), .second, .val (.long f4), .second, .val (.int p4), .val (.long (-9223372036854775808 : Int64)), .second, .val (.int wh), .val (.ref ix), .val (.ref xa), .val (.ref xb), .val (.ref xc), .val (.ref mv), .val (.long ea), .second, .val (.long eb), .second, .val (.long ec), .second, .val r, .val (.int an), .val (.long mn1), .second] [(.long (-9223372036854775808 : Int64)), (.long eb)])) (fun _ k => XS.lload X193.here hx rfl (hb hby at_292) rfl k) ?_
                        refine own_st (T' := T193) (g' := (mkF m 295 #[.val (.long f1), .second, .val (.long f2), .second, .val (.long f3), .second, .val (.long f4), .second, .val (.int p4), .val (.long (-9223372036854775808 : Int64)), .second, .val (.int wh), .val (.ref ix), .val (.ref xa), .val (.ref xb), .val (.ref xc), .val (.ref mv), .val (.long ea), .second, .val (.long eb), .second, .val (.long ec), .second, .val r, .val (.int an), .val (.long mn1), .second] [(.int (lcmpW eb (-9223372036854775808 : Int64)))])) (fun _ k => XS.lcmp X193.here hx rfl (hb hby at_294) rfl k) ?_
                        have J307 : ∀ (T194 : State) (l194 : List Loc) (X194 : Stand p l e room_1 s m #[(.long p0), (.long p1), (.long p2), (.long p3), (.int p4)] below meth c T194 l194 (((((((((((((0 + 1) + 1) + 1) + 0) + 1) + 0) + 1) + 0) + 0) + 0) + 0) + 0) + 0) (((((((((((((0 + 2) + 16) + 7) + 0) + 7) + 0) + 7) + 0) + 0) + 0) + 0) + 0) + 0)) (e194 : T194.heap = T191.heap) (N194 : Fr n0 l194) (mn2 : Int64) (hmn2 : (ea ≠ (-9223372036854775808 : Int64) → mn2 ≤ ea) ∧ (eb ≠ (-9223372036854775808 : Int64) → mn2 ≤ eb) ∧ (mn2 = (9223372036854775807 : Int64) ∨ (ea ≠ (-9223372036854775808 : Int64) ∧ mn2 = ea) ∨ (eb ≠ (-9223372036854775808 : Int64) ∧ mn2 = eb))), own_Go p e below s (own_law_Q Z p0 p1 p2 p3 p4 h0 n0) 24 192 T194 (mkF m 307 #[.val (.long f1), .second, .val (.long f2), .second, .val (.long f3), .second, .val (.long f4), .second, .val (.int p4), .val (.long (-9223372036854775808 : Int64)), .second, .val (.int wh), .val (.ref ix), .val (.ref xa), .val (.ref xb), .val (.ref xc), .val (.ref mv), .val (.long ea), .second, .val (.long eb), .second, .val (.long ec), .second, .val r, .val (.int an), .val (.long mn2), .second] []) := by
                          intro T194 l194 X194 e194 N194 mn2 hmn2
                          refine own_st (T' := T194) (g' := (mkF m 309 #[.val (.long f1), .second, .val (.long f2), .second, .val (.long f3), .second, .val (.long f4), .second, .val (.int p4), .val (.long (-9223372036854775808 : Int64)), .second, .val (.int wh), .val (.ref ix), .val (.ref xa), .val (.ref xb), .val (.ref xc), .val (.ref mv), .val (.long ea), .second, .val (.long eb), .second, .val (.long ec), .second, .val r, .val (.int an), .val (.long mn2), .second] [(.long ec)])) (fun _ k => XS.lload X194.here hx rfl (hb hby at_307) rfl k) ?_
                          refine own_st (T' := T194) (g' := (mkF m 311 #[.val (.long f1), .second, .val (.long f2), .second, .val (.long f3), .second, .val (.long f4), .second, .val (.int p4), .val (.long (-9223372036854775808 : Int64)), .second, .val (.int wh), .val (.ref ix), .val (.ref xa), .val (.ref xb), .val (.ref xc), .val (.ref mv), .val (.long ea), .second, .val (.long eb), .second, .val (.long ec), .second, .val r, .val (.int an), .val (.long mn2), .second] [(.long (-9223372036854775808 : Int64)), (.long ec)])) (fun _ k => XS.lload X194.here hx rfl (hb hby at_309) rfl k) ?_
                          refine own_st (T' := T194) (g' := (mkF m 312 #[.val (.long f1), .second, .val (.long f2), .second, .val (.long f3), .second, .val (.long f4), .second, .val (.int p4), .val (.long (-9223372036854775808 : Int64)), .second, .val (.int wh), .val (.ref ix), .val (.ref xa), .val (.ref xb), .val (.ref xc), .val (.ref mv), .val (.long ea), .second, .val (.long eb), .second, .val (.long ec), .second, .val r, .val (.int an), .val (.long mn2), .second] [(.int (lcmpW ec (-9223372036854775808 : Int64)))])) (fun _ k => XS.lcmp X194.here hx rfl (hb hby at_311) rfl k) ?_
                          have J324 : ∀ (T195 : State) (l195 : List Loc) (X195 : Stand p l e room_1 s m #[(.long p0), (.long p1), (.long p2), (.long p3), (.int p4)] below meth c T195 l195 (((((((((((((0 + 1) + 1) + 1) + 0) + 1) + 0) + 1) + 0) + 0) + 0) + 0) + 0) + 0) (((((((((((((0 + 2) + 16) + 7) + 0) + 7) + 0) + 7) + 0) + 0) + 0) + 0) + 0) + 0)) (e195 : T195.heap = T191.heap) (N195 : Fr n0 l195) (mn3 : Int64) (hmn3 : (ea ≠ (-9223372036854775808 : Int64) → mn3 ≤ ea) ∧ (eb ≠ (-9223372036854775808 : Int64) → mn3 ≤ eb) ∧ (ec ≠ (-9223372036854775808 : Int64) → mn3 ≤ ec) ∧ (mn3 = (9223372036854775807 : Int64) ∨ (ea ≠ (-9223372036854775808 : Int64) ∧ mn3 = ea) ∨ (eb ≠ (-9223372036854775808 : Int64) ∧ mn3 = eb) ∨ (ec ≠ (-9223372036854775808 : Int64) ∧ mn3 = ec))), own_Go p e below s (own_law_Q Z p0 p1 p2 p3 p4 h0 n0) 24 192 T195 (mkF m 324 #[.val (.long f1), .second, .val (.long f2), .second, .val (.long f3), .second, .val (.long f4), .second, .val (.int p4), .val (.long (-9223372036854775808 : Int64)), .second, .val (.int wh), .val (.ref ix), .val (.ref xa), .val (.ref xb), .val (.ref xc), .val (.ref mv), .val (.long ea), .second, .val (.long eb), .second, .val (.long ec), .second, .val r, .val (.int an), .val (.long mn3), .second] []) := by
                            intro T195 l195 X195 e195 N195 mn3 hmn3
                            refine own_st (T' := T195) (g' := (mkF m 326 #[.val (.long f1), .second, .val (.long f2), .second, .val (.long f3), .second, .val (.long f4), .second, .val (.int p4), .val (.long (-9223372036854775808 : Int64)), .second, .val (.int wh), .val (.ref ix), .val (.ref xa), .val (.ref xb), .val (.ref xc), .val (.ref mv), .val (.long ea), .second, .val (.long eb), .second, .val (.long ec), .second, .val r, .val (.int an), .val (.long mn3), .second] [r])) (fun _ k => XS.aload X195.here hx rfl (hb hby at_324) rfl hr k) ?_
                            refine own_st (T' := T195) (g' := (mkF m 328 #[.val (.long f1), .second, .val (.long f2), .second, .val (.long f3), .second, .val (.long f4), .second, .val (.int p4), .val (.long (-9223372036854775808 : Int64)), .second, .val (.int wh), .val (.ref ix), .val (.ref xa), .val (.ref xb), .val (.ref xc), .val (.ref mv), .val (.long ea), .second, .val (.long eb), .second, .val (.long ec), .second, .val r, .val (.int an), .val (.long mn3), .second] [(.ref xa), r])) (fun _ k => XS.aload X195.here hx rfl (hb hby at_326) rfl rfl k) ?_
                            have hall : ∀ z : Int64, z = dl x0 → z ≠ (-9223372036854775808 : Int64) ∧ z = mn3 := fun z hz => by
                              have la := hmn xa ma; have lb := hmn xb mb; have lc := hmn xc mc
                              rw [← hea] at la; rw [← heb] at lb; rw [← hec] at lc
                              rw [← hz] at la lb lc hdx
                              obtain ⟨k1, k2, k3, k4⟩ := hmn3
                              have kz : mn3 ≤ z := by simp only [List.mem_cons, List.not_mem_nil, or_false] at hm; rcases hm with rfl | rfl | rfl
                                                      · rw [← hea] at hz; subst hz; exact k1 hdx
                                                      · rw [← heb] at hz; subst hz; exact k2 hdx
                                                      · rw [← hec] at hz; subst hz; exact k3 hdx
                              refine ⟨hdx, Int64.toInt_inj.mp ?_⟩
                              rw [Int64.le_iff_toInt_le] at kz
                              have zb := z.toInt_lt
                              rcases k4 with u | ⟨u, v⟩ | ⟨u, v⟩ | ⟨u, v⟩
                              · have : mn3.toInt = 9223372036854775807 := by rw [u]; rfl
                                omega
                              · have := la u; rw [v] at kz ⊢; rw [Int64.le_iff_toInt_le] at this; omega
                              · have := lb u; rw [v] at kz ⊢; rw [Int64.le_iff_toInt_le] at this; omega
                              · have := lc u; rw [v] at kz ⊢; rw [Int64.le_iff_toInt_le] at this; omega
                            by_cases qa : (r : Value) = (.ref xa)
                            · refine own_st (T' := T195) (g' := (mkF m 331 #[.val (.long f1), .second, .val (.long f2), .second, .val (.long f3), .second, .val (.long f4), .second, .val (.int p4), .val (.long (-9223372036854775808 : Int64)), .second, .val (.int wh), .val (.ref ix), .val (.ref xa), .val (.ref xb), .val (.ref xc), .val (.ref mv), .val (.long ea), .second, .val (.long eb), .second, .val (.long ec), .second, .val r, .val (.int an), .val (.long mn3), .second] [])) (fun _ k => Jvm.Free.XT.acmpNo X195.here hx rfl (hb hby at_328) rfl hr rfl (Jvm.Free.XT.aa_ne_f qa) k) ?_
                              have hx0 : xa = x0 := by rw [hrx] at qa; exact (Value.ref.inj qa).symm
                              subst hx0
                              have hz := hall ea hea
                              refine own_st (T' := T195) (g' := (mkF m 333 #[.val (.long f1), .second, .val (.long f2), .second, .val (.long f3), .second, .val (.long f4), .second, .val (.int p4), .val (.long (-9223372036854775808 : Int64)), .second, .val (.int wh), .val (.ref ix), .val (.ref xa), .val (.ref xb), .val (.ref xc), .val (.ref mv), .val (.long ea), .second, .val (.long eb), .second, .val (.long ec), .second, .val r, .val (.int an), .val (.long mn3), .second] [(.long ea)])) (fun _ k => XS.lload X195.here hx rfl (hb hby at_331) rfl k) ?_
                              refine own_st (T' := T195) (g' := (mkF m 335 #[.val (.long f1), .second, .val (.long f2), .second, .val (.long f3), .second, .val (.long f4), .second, .val (.int p4), .val (.long (-9223372036854775808 : Int64)), .second, .val (.int wh), .val (.ref ix), .val (.ref xa), .val (.ref xb), .val (.ref xc), .val (.ref mv), .val (.long ea), .second, .val (.long eb), .second, .val (.long ec), .second, .val r, .val (.int an), .val (.long mn3), .second] [(.long (-9223372036854775808 : Int64)), (.long ea)])) (fun _ k => XS.lload X195.here hx rfl (hb hby at_333) rfl k) ?_
                              refine own_st (T' := T195) (g' := (mkF m 336 #[.val (.long f1), .second, .val (.long f2), .second, .val (.long f3), .second, .val (.long f4), .second, .val (.int p4), .val (.long (-9223372036854775808 : Int64)), .second, .val (.int wh), .val (.ref ix), .val (.ref xa), .val (.ref xb), .val (.ref xc), .val (.ref mv), .val (.long ea), .second, .val (.long eb), .second, .val (.long ec), .second, .val r, .val (.int an), .val (.long mn3), .second] [(.int (lcmpW ea (-9223372036854775808 : Int64)))])) (fun _ k => XS.lcmp X195.here hx rfl (hb hby at_335) rfl k) ?_
                              refine own_st (T' := T195) (g' := (mkF m 339 #[.val (.long f1), .second, .val (.long f2), .second, .val (.long f3), .second, .val (.long f4), .second, .val (.int p4), .val (.long (-9223372036854775808 : Int64)), .second, .val (.int wh), .val (.ref ix), .val (.ref xa), .val (.ref xb), .val (.ref xc), .val (.ref mv), .val (.long ea), .second, .val (.long eb), .second, .val (.long ec), .second, .val r, .val (.int an), .val (.long mn3), .second] [])) (fun _ k => XS.ifNo X195.here hx rfl (hb hby at_336) rfl (Jvm.Free.XT.i0_eq_f (mt (lw_eq ea (-9223372036854775808 : Int64)).mp hz.1)) k) ?_
                              refine own_st (T' := T195) (g' := (mkF m 341 #[.val (.long f1), .second, .val (.long f2), .second, .val (.long f3), .second, .val (.long f4), .second, .val (.int p4), .val (.long (-9223372036854775808 : Int64)), .second, .val (.int wh), .val (.ref ix), .val (.ref xa), .val (.ref xb), .val (.ref xc), .val (.ref mv), .val (.long ea), .second, .val (.long eb), .second, .val (.long ec), .second, .val r, .val (.int an), .val (.long mn3), .second] [(.long ea)])) (fun _ k => XS.lload X195.here hx rfl (hb hby at_339) rfl k) ?_
                              refine own_st (T' := T195) (g' := (mkF m 343 #[.val (.long f1), .second, .val (.long f2), .second, .val (.long f3), .second, .val (.long f4), .second, .val (.int p4), .val (.long (-9223372036854775808 : Int64)), .second, .val (.int wh), .val (.ref ix), .val (.ref xa), .val (.ref xb), .val (.ref xc), .val (.ref mv), .val (.long ea), .second, .val (.long eb), .second, .val (.long ec), .second, .val r, .val (.int an), .val (.long mn3), .second] [(.long mn3), (.long ea)])) (fun _ k => XS.lload X195.here hx rfl (hb hby at_341) rfl k) ?_
                              refine own_st (T' := T195) (g' := (mkF m 344 #[.val (.long f1), .second, .val (.long f2), .second, .val (.long f3), .second, .val (.long f4), .second, .val (.int p4), .val (.long (-9223372036854775808 : Int64)), .second, .val (.int wh), .val (.ref ix), .val (.ref xa), .val (.ref xb), .val (.ref xc), .val (.ref mv), .val (.long ea), .second, .val (.long eb), .second, .val (.long ec), .second, .val r, .val (.int an), .val (.long mn3), .second] [(.int (lcmpW ea mn3))])) (fun _ k => XS.lcmp X195.here hx rfl (hb hby at_343) rfl k) ?_
                              refine own_st (T' := T195) (g' := (mkF m 347 #[.val (.long f1), .second, .val (.long f2), .second, .val (.long f3), .second, .val (.long f4), .second, .val (.int p4), .val (.long (-9223372036854775808 : Int64)), .second, .val (.int wh), .val (.ref ix), .val (.ref xa), .val (.ref xb), .val (.ref xc), .val (.ref mv), .val (.long ea), .second, .val (.long eb), .second, .val (.long ec), .second, .val r, .val (.int an), .val (.long mn3), .second] [])) (fun _ k => XS.ifNo X195.here hx rfl (hb hby at_344) rfl (Jvm.Free.XT.i0_ne_f ((lw_eq ea mn3).mpr hz.2)) k) ?_
                              refine own_st (T' := T195) (g' := (mkF m 348 #[.val (.long f1), .second, .val (.long f2), .second, .val (.long f3), .second, .val (.long f4), .second, .val (.int p4), .val (.long (-9223372036854775808 : Int64)), .second, .val (.int wh), .val (.ref ix), .val (.ref xa), .val (.ref xb), .val (.ref xc), .val (.ref mv), .val (.long ea), .second, .val (.long eb), .second, .val (.long ec), .second, .val r, .val (.int an), .val (.long mn3), .second] [(.int (1 : Int32))])) (fun _ k => XS.iconst X195.here hx rfl (hb hby at_347) k) ?_
                              refine own_st (T' := T195) (g' := (mkF m 352 #[.val (.long f1), .second, .val (.long f2), .second, .val (.long f3), .second, .val (.long f4), .second, .val (.int p4), .val (.long (-9223372036854775808 : Int64)), .second, .val (.int wh), .val (.ref ix), .val (.ref xa), .val (.ref xb), .val (.ref xc), .val (.ref mv), .val (.long ea), .second, .val (.long eb), .second, .val (.long ec), .second, .val r, .val (.int an), .val (.long mn3), .second] [(.int (1 : Int32))])) (fun _ k => XS.goto X195.here hx rfl (pc0 := 348) (pc' := 352) rfl (hb hby at_348) (by decide) (by decide) k) ?_
                              exact own_retN X195 hx Bd.returns Bd.notSynchronized e195 (by simp) (hb hby at_352) ⟨rfl, N195⟩ (by decide) (by decide)
                            · refine own_st (T' := T195) (g' := (mkF m 353 #[.val (.long f1), .second, .val (.long f2), .second, .val (.long f3), .second, .val (.long f4), .second, .val (.int p4), .val (.long (-9223372036854775808 : Int64)), .second, .val (.int wh), .val (.ref ix), .val (.ref xa), .val (.ref xb), .val (.ref xc), .val (.ref mv), .val (.long ea), .second, .val (.long eb), .second, .val (.long ec), .second, .val r, .val (.int an), .val (.long mn3), .second] [])) (fun _ k => Jvm.Free.XT.acmpYes X195.here hx rfl (pc0 := 328) (pc' := 353) rfl (hb hby at_328) rfl hr rfl (Jvm.Free.XT.aa_ne_t qa) (by decide) (by decide) k) ?_
                              refine own_st (T' := T195) (g' := (mkF m 355 #[.val (.long f1), .second, .val (.long f2), .second, .val (.long f3), .second, .val (.long f4), .second, .val (.int p4), .val (.long (-9223372036854775808 : Int64)), .second, .val (.int wh), .val (.ref ix), .val (.ref xa), .val (.ref xb), .val (.ref xc), .val (.ref mv), .val (.long ea), .second, .val (.long eb), .second, .val (.long ec), .second, .val r, .val (.int an), .val (.long mn3), .second] [r])) (fun _ k => XS.aload X195.here hx rfl (hb hby at_353) rfl hr k) ?_
                              refine own_st (T' := T195) (g' := (mkF m 357 #[.val (.long f1), .second, .val (.long f2), .second, .val (.long f3), .second, .val (.long f4), .second, .val (.int p4), .val (.long (-9223372036854775808 : Int64)), .second, .val (.int wh), .val (.ref ix), .val (.ref xa), .val (.ref xb), .val (.ref xc), .val (.ref mv), .val (.long ea), .second, .val (.long eb), .second, .val (.long ec), .second, .val r, .val (.int an), .val (.long mn3), .second] [(.ref xb), r])) (fun _ k => XS.aload X195.here hx rfl (hb hby at_355) rfl rfl k) ?_
                              by_cases qb : (r : Value) = (.ref xb)
                              · refine own_st (T' := T195) (g' := (mkF m 360 #[.val (.long f1), .second, .val (.long f2), .second, .val (.long f3), .second, .val (.long f4), .second, .val (.int p4), .val (.long (-9223372036854775808 : Int64)), .second, .val (.int wh), .val (.ref ix), .val (.ref xa), .val (.ref xb), .val (.ref xc), .val (.ref mv), .val (.long ea), .second, .val (.long eb), .second, .val (.long ec), .second, .val r, .val (.int an), .val (.long mn3), .second] [])) (fun _ k => Jvm.Free.XT.acmpNo X195.here hx rfl (hb hby at_357) rfl hr rfl (Jvm.Free.XT.aa_ne_f qb) k) ?_
                                have hx0 : xb = x0 := by rw [hrx] at qb; exact (Value.ref.inj qb).symm
                                subst hx0
                                have hz := hall eb heb
                                refine own_st (T' := T195) (g' := (mkF m 362 #[.val (.long f1), .second, .val (.long f2), .second, .val (.long f3), .second, .val (.long f4), .second, .val (.int p4), .val (.long (-9223372036854775808 : Int64)), .second, .val (.int wh), .val (.ref ix), .val (.ref xa), .val (.ref xb), .val (.ref xc), .val (.ref mv), .val (.long ea), .second, .val (.long eb), .second, .val (.long ec), .second, .val r, .val (.int an), .val (.long mn3), .second] [(.long eb)])) (fun _ k => XS.lload X195.here hx rfl (hb hby at_360) rfl k) ?_
                                refine own_st (T' := T195) (g' := (mkF m 364 #[.val (.long f1), .second, .val (.long f2), .second, .val (.long f3), .second, .val (.long f4), .second, .val (.int p4), .val (.long (-9223372036854775808 : Int64)), .second, .val (.int wh), .val (.ref ix), .val (.ref xa), .val (.ref xb), .val (.ref xc), .val (.ref mv), .val (.long ea), .second, .val (.long eb), .second, .val (.long ec), .second, .val r, .val (.int an), .val (.long mn3), .second] [(.long (-9223372036854775808 : Int64)), (.long eb)])) (fun _ k => XS.lload X195.here hx rfl (hb hby at_362) rfl k) ?_
                                refine own_st (T' := T195) (g' := (mkF m 365 #[.val (.long f1), .second, .val (.long f2), .second, .val (.long f3), .second, .val (.long f4), .second, .val (.int p4), .val (.long (-9223372036854775808 : Int64)), .second, .val (.int wh), .val (.ref ix), .val (.ref xa), .val (.ref xb), .val (.ref xc), .val (.ref mv), .val (.long ea), .second, .val (.long eb), .second, .val (.long ec), .second, .val r, .val (.int an), .val (.long mn3), .second] [(.int (lcmpW eb (-9223372036854775808 : Int64)))])) (fun _ k => XS.lcmp X195.here hx rfl (hb hby at_364) rfl k) ?_
                                refine own_st (T' := T195) (g' := (mkF m 368 #[.val (.long f1), .second, .val (.long f2), .second, .val (.long f3), .second, .val (.long f4), .second, .val (.int p4), .val (.long (-9223372036854775808 : Int64)), .second, .val (.int wh), .val (.ref ix), .val (.ref xa), .val (.ref xb), .val (.ref xc), .val (.ref mv), .val (.long ea), .second, .val (.long eb), .second, .val (.long ec), .second, .val r, .val (.int an), .val (.long mn3), .second] [])) (fun _ k => XS.ifNo X195.here hx rfl (hb hby at_365) rfl (Jvm.Free.XT.i0_eq_f (mt (lw_eq eb (-9223372036854775808 : Int64)).mp hz.1)) k) ?_
                                refine own_st (T' := T195) (g' := (mkF m 370 #[.val (.long f1), .second, .val (.long f2), .second, .val (.long f3), .second, .val (.long f4), .second, .val (.int p4), .val (.long (-9223372036854775808 : Int64)), .second, .val (.int wh), .val (.ref ix), .val (.ref xa), .val (.ref xb), .val (.ref xc), .val (.ref mv), .val (.long ea), .second, .val (.long eb), .second, .val (.long ec), .second, .val r, .val (.int an), .val (.long mn3), .second] [(.long eb)])) (fun _ k => XS.lload X195.here hx rfl (hb hby at_368) rfl k) ?_
                                refine own_st (T' := T195) (g' := (mkF m 372 #[.val (.long f1), .second, .val (.long f2), .second, .val (.long f3), .second, .val (.long f4), .second, .val (.int p4), .val (.long (-9223372036854775808 : Int64)), .second, .val (.int wh), .val (.ref ix), .val (.ref xa), .val (.ref xb), .val (.ref xc), .val (.ref mv), .val (.long ea), .second, .val (.long eb), .second, .val (.long ec), .second, .val r, .val (.int an), .val (.long mn3), .second] [(.long mn3), (.long eb)])) (fun _ k => XS.lload X195.here hx rfl (hb hby at_370) rfl k) ?_
                                refine own_st (T' := T195) (g' := (mkF m 373 #[.val (.long f1), .second, .val (.long f2), .second, .val (.long f3), .second, .val (.long f4), .second, .val (.int p4), .val (.long (-9223372036854775808 : Int64)), .second, .val (.int wh), .val (.ref ix), .val (.ref xa), .val (.ref xb), .val (.ref xc), .val (.ref mv), .val (.long ea), .second, .val (.long eb), .second, .val (.long ec), .second, .val r, .val (.int an), .val (.long mn3), .second] [(.int (lcmpW eb mn3))])) (fun _ k => XS.lcmp X195.here hx rfl (hb hby at_372) rfl k) ?_
                                refine own_st (T' := T195) (g' := (mkF m 376 #[.val (.long f1), .second, .val (.long f2), .second, .val (.long f3), .second, .val (.long f4), .second, .val (.int p4), .val (.long (-9223372036854775808 : Int64)), .second, .val (.int wh), .val (.ref ix), .val (.ref xa), .val (.ref xb), .val (.ref xc), .val (.ref mv), .val (.long ea), .second, .val (.long eb), .second, .val (.long ec), .second, .val r, .val (.int an), .val (.long mn3), .second] [])) (fun _ k => XS.ifNo X195.here hx rfl (hb hby at_373) rfl (Jvm.Free.XT.i0_ne_f ((lw_eq eb mn3).mpr hz.2)) k) ?_
                                refine own_st (T' := T195) (g' := (mkF m 377 #[.val (.long f1), .second, .val (.long f2), .second, .val (.long f3), .second, .val (.long f4), .second, .val (.int p4), .val (.long (-9223372036854775808 : Int64)), .second, .val (.int wh), .val (.ref ix), .val (.ref xa), .val (.ref xb), .val (.ref xc), .val (.ref mv), .val (.long ea), .second, .val (.long eb), .second, .val (.long ec), .second, .val r, .val (.int an), .val (.long mn3), .second] [(.int (1 : Int32))])) (fun _ k => XS.iconst X195.here hx rfl (hb hby at_376) k) ?_
                                refine own_st (T' := T195) (g' := (mkF m 381 #[.val (.long f1), .second, .val (.long f2), .second, .val (.long f3), .second, .val (.long f4), .second, .val (.int p4), .val (.long (-9223372036854775808 : Int64)), .second, .val (.int wh), .val (.ref ix), .val (.ref xa), .val (.ref xb), .val (.ref xc), .val (.ref mv), .val (.long ea), .second, .val (.long eb), .second, .val (.long ec), .second, .val r, .val (.int an), .val (.long mn3), .second] [(.int (1 : Int32))])) (fun _ k => XS.goto X195.here hx rfl (pc0 := 377) (pc' := 381) rfl (hb hby at_377) (by decide) (by decide) k) ?_
                                exact own_retN X195 hx Bd.returns Bd.notSynchronized e195 (by simp) (hb hby at_381) ⟨rfl, N195⟩ (by decide) (by decide)
                              · refine own_st (T' := T195) (g' := (mkF m 382 #[.val (.long f1), .second, .val (.long f2), .second, .val (.long f3), .second, .val (.long f4), .second, .val (.int p4), .val (.long (-9223372036854775808 : Int64)), .second, .val (.int wh), .val (.ref ix), .val (.ref xa), .val (.ref xb), .val (.ref xc), .val (.ref mv), .val (.long ea), .second, .val (.long eb), .second, .val (.long ec), .second, .val r, .val (.int an), .val (.long mn3), .second] [])) (fun _ k => Jvm.Free.XT.acmpYes X195.here hx rfl (pc0 := 357) (pc' := 382) rfl (hb hby at_357) rfl hr rfl (Jvm.Free.XT.aa_ne_t qb) (by decide) (by decide) k) ?_
                                refine own_st (T' := T195) (g' := (mkF m 384 #[.val (.long f1), .second, .val (.long f2), .second, .val (.long f3), .second, .val (.long f4), .second, .val (.int p4), .val (.long (-9223372036854775808 : Int64)), .second, .val (.int wh), .val (.ref ix), .val (.ref xa), .val (.ref xb), .val (.ref xc), .val (.ref mv), .val (.long ea), .second, .val (.long eb), .second, .val (.long ec), .second, .val r, .val (.int an), .val (.long mn3), .second] [r])) (fun _ k => XS.aload X195.here hx rfl (hb hby at_382) rfl hr k) ?_
                                refine own_st (T' := T195) (g' := (mkF m 386 #[.val (.long f1), .second, .val (.long f2), .second, .val (.long f3), .second, .val (.long f4), .second, .val (.int p4), .val (.long (-9223372036854775808 : Int64)), .second, .val (.int wh), .val (.ref ix), .val (.ref xa), .val (.ref xb), .val (.ref xc), .val (.ref mv), .val (.long ea), .second, .val (.long eb), .second, .val (.long ec), .second, .val r, .val (.int an), .val (.long mn3), .second] [(.ref xc), r])) (fun _ k => XS.aload X195.here hx rfl (hb hby at_384) rfl rfl k) ?_
                                by_cases qc : (r : Value) = (.ref xc)
                                · refine own_st (T' := T195) (g' := (mkF m 389 #[.val (.long f1), .second, .val (.long f2), .second, .val (.long f3), .second, .val (.long f4), .second, .val (.int p4), .val (.long (-9223372036854775808 : Int64)), .second, .val (.int wh), .val (.ref ix), .val (.ref xa), .val (.ref xb), .val (.ref xc), .val (.ref mv), .val (.long ea), .second, .val (.long eb), .second, .val (.long ec), .second, .val r, .val (.int an), .val (.long mn3), .second] [])) (fun _ k => Jvm.Free.XT.acmpNo X195.here hx rfl (hb hby at_386) rfl hr rfl (Jvm.Free.XT.aa_ne_f qc) k) ?_
                                  have hx0 : xc = x0 := by rw [hrx] at qc; exact (Value.ref.inj qc).symm
                                  subst hx0
                                  have hz := hall ec hec
                                  refine own_st (T' := T195) (g' := (mkF m 391 #[.val (.long f1), .second, .val (.long f2), .second, .val (.long f3), .second, .val (.long f4), .second, .val (.int p4), .val (.long (-9223372036854775808 : Int64)), .second, .val (.int wh), .val (.ref ix), .val (.ref xa), .val (.ref xb), .val (.ref xc), .val (.ref mv), .val (.long ea), .second, .val (.long eb), .second, .val (.long ec), .second, .val r, .val (.int an), .val (.long mn3), .second] [(.long ec)])) (fun _ k => XS.lload X195.here hx rfl (hb hby at_389) rfl k) ?_
                                  refine own_st (T' := T195) (g' := (mkF m 393 #[.val (.long f1), .second, .val (.long f2), .second, .val (.long f3), .second, .val (.long f4), .second, .val (.int p4), .val (.long (-9223372036854775808 : Int64)), .second, .val (.int wh), .val (.ref ix), .val (.ref xa), .val (.ref xb), .val (.ref xc), .val (.ref mv), .val (.long ea), .second, .val (.long eb), .second, .val (.long ec), .second, .val r, .val (.int an), .val (.long mn3), .second] [(.long (-9223372036854775808 : Int64)), (.long ec)])) (fun _ k => XS.lload X195.here hx rfl (hb hby at_391) rfl k) ?_
                                  refine own_st (T' := T195) (g' := (mkF m 394 #[.val (.long f1), .second, .val (.long f2), .second, .val (.long f3), .second, .val (.long f4), .second, .val (.int p4), .val (.long (-9223372036854775808 : Int64)), .second, .val (.int wh), .val (.ref ix), .val (.ref xa), .val (.ref xb), .val (.ref xc), .val (.ref mv), .val (.long ea), .second, .val (.long eb), .second, .val (.long ec), .second, .val r, .val (.int an), .val (.long mn3), .second] [(.int (lcmpW ec (-9223372036854775808 : Int64)))])) (fun _ k => XS.lcmp X195.here hx rfl (hb hby at_393) rfl k) ?_
                                  refine own_st (T' := T195) (g' := (mkF m 397 #[.val (.long f1), .second, .val (.long f2), .second, .val (.long f3), .second, .val (.long f4), .second, .val (.int p4), .val (.long (-9223372036854775808 : Int64)), .second, .val (.int wh), .val (.ref ix), .val (.ref xa), .val (.ref xb), .val (.ref xc), .val (.ref mv), .val (.long ea), .second, .val (.long eb), .second, .val (.long ec), .second, .val r, .val (.int an), .val (.long mn3), .second] [])) (fun _ k => XS.ifNo X195.here hx rfl (hb hby at_394) rfl (Jvm.Free.XT.i0_eq_f (mt (lw_eq ec (-9223372036854775808 : Int64)).mp hz.1)) k) ?_
                                  refine own_st (T' := T195) (g' := (mkF m 399 #[.val (.long f1), .second, .val (.long f2), .second, .val (.long f3), .second, .val (.long f4), .second, .val (.int p4), .val (.long (-9223372036854775808 : Int64)), .second, .val (.int wh), .val (.ref ix), .val (.ref xa), .val (.ref xb), .val (.ref xc), .val (.ref mv), .val (.long ea), .second, .val (.long eb), .second, .val (.long ec), .second, .val r, .val (.int an), .val (.long mn3), .second] [(.long ec)])) (fun _ k => XS.lload X195.here hx rfl (hb hby at_397) rfl k) ?_
                                  refine own_st (T' := T195) (g' := (mkF m 401 #[.val (.long f1), .second, .val (.long f2), .second, .val (.long f3), .second, .val (.long f4), .second, .val (.int p4), .val (.long (-9223372036854775808 : Int64)), .second, .val (.int wh), .val (.ref ix), .val (.ref xa), .val (.ref xb), .val (.ref xc), .val (.ref mv), .val (.long ea), .second, .val (.long eb), .second, .val (.long ec), .second, .val r, .val (.int an), .val (.long mn3), .second] [(.long mn3), (.long ec)])) (fun _ k => XS.lload X195.here hx rfl (hb hby at_399) rfl k) ?_
                                  refine own_st (T' := T195) (g' := (mkF m 402 #[.val (.long f1), .second, .val (.long f2), .second, .val (.long f3), .second, .val (.long f4), .second, .val (.int p4), .val (.long (-9223372036854775808 : Int64)), .second, .val (.int wh), .val (.ref ix), .val (.ref xa), .val (.ref xb), .val (.ref xc), .val (.ref mv), .val (.long ea), .second, .val (.long eb), .second, .val (.long ec), .second, .val r, .val (.int an), .val (.long mn3), .second] [(.int (lcmpW ec mn3))])) (fun _ k => XS.lcmp X195.here hx rfl (hb hby at_401) rfl k) ?_
                                  refine own_st (T' := T195) (g' := (mkF m 405 #[.val (.long f1), .second, .val (.long f2), .second, .val (.long f3), .second, .val (.long f4), .second, .val (.int p4), .val (.long (-9223372036854775808 : Int64)), .second, .val (.int wh), .val (.ref ix), .val (.ref xa), .val (.ref xb), .val (.ref xc), .val (.ref mv), .val (.long ea), .second, .val (.long eb), .second, .val (.long ec), .second, .val r, .val (.int an), .val (.long mn3), .second] [])) (fun _ k => XS.ifNo X195.here hx rfl (hb hby at_402) rfl (Jvm.Free.XT.i0_ne_f ((lw_eq ec mn3).mpr hz.2)) k) ?_
                                  refine own_st (T' := T195) (g' := (mkF m 406 #[.val (.long f1), .second, .val (.long f2), .second, .val (.long f3), .second, .val (.long f4), .second, .val (.int p4), .val (.long (-9223372036854775808 : Int64)), .second, .val (.int wh), .val (.ref ix), .val (.ref xa), .val (.ref xb), .val (.ref xc), .val (.ref mv), .val (.long ea), .second, .val (.long eb), .second, .val (.long ec), .second, .val r, .val (.int an), .val (.long mn3), .second] [(.int (1 : Int32))])) (fun _ k => XS.iconst X195.here hx rfl (hb hby at_405) k) ?_
                                  refine own_st (T' := T195) (g' := (mkF m 410 #[.val (.long f1), .second, .val (.long f2), .second, .val (.long f3), .second, .val (.long f4), .second, .val (.int p4), .val (.long (-9223372036854775808 : Int64)), .second, .val (.int wh), .val (.ref ix), .val (.ref xa), .val (.ref xb), .val (.ref xc), .val (.ref mv), .val (.long ea), .second, .val (.long eb), .second, .val (.long ec), .second, .val r, .val (.int an), .val (.long mn3), .second] [(.int (1 : Int32))])) (fun _ k => XS.goto X195.here hx rfl (pc0 := 406) (pc' := 410) rfl (hb hby at_406) (by decide) (by decide) k) ?_
                                  exact own_retN X195 hx Bd.returns Bd.notSynchronized e195 (by simp) (hb hby at_410) ⟨rfl, N195⟩ (by decide) (by decide)
                                · refine own_st (T' := T195) (g' := (mkF m 411 #[.val (.long f1), .second, .val (.long f2), .second, .val (.long f3), .second, .val (.long f4), .second, .val (.int p4), .val (.long (-9223372036854775808 : Int64)), .second, .val (.int wh), .val (.ref ix), .val (.ref xa), .val (.ref xb), .val (.ref xc), .val (.ref mv), .val (.long ea), .second, .val (.long eb), .second, .val (.long ec), .second, .val r, .val (.int an), .val (.long mn3), .second] [])) (fun _ k => Jvm.Free.XT.acmpYes X195.here hx rfl (pc0 := 386) (pc' := 411) rfl (hb hby at_386) rfl hr rfl (Jvm.Free.XT.aa_ne_t qc) (by decide) (by decide) k) ?_
                                  exfalso; rw [hrx] at qa qb qc; simp only [List.mem_cons, List.not_mem_nil, or_false] at hm; rcases hm with rfl | rfl | rfl <;> simp_all
                          by_cases qm : ec = (-9223372036854775808 : Int64)
                          · refine own_st (T' := T194) (g' := (mkF m 324 #[.val (.long f1), .second, .val (.long f2), .second, .val (.long f3), .second, .val (.long f4), .second, .val (.int p4), .val (.long (-9223372036854775808 : Int64)), .second, .val (.int wh), .val (.ref ix), .val (.ref xa), .val (.ref xb), .val (.ref xc), .val (.ref mv), .val (.long ea), .second, .val (.long eb), .second, .val (.long ec), .second, .val r, .val (.int an), .val (.long mn2), .second] [])) (fun _ k => XS.ifYes X194.here hx rfl (pc0 := 312) (pc' := 324) rfl (hb hby at_312) rfl (Jvm.Free.XT.i0_eq_t ((lw_eq ec (-9223372036854775808 : Int64)).mpr qm)) (by decide) (by decide) k) ?_
                            exact J324 _ _ X194 e194 N194 _ (own_mnS2 hmn2 qm)
                          · refine own_st (T' := T194) (g' := (mkF m 315 #[.val (.long f1), .second, .val (.long f2), .second, .val (.long f3), .second, .val (.long f4), .second, .val (.int p4), .val (.long (-9223372036854775808 : Int64)), .second, .val (.int wh), .val (.ref ix), .val (.ref xa), .val (.ref xb), .val (.ref xc), .val (.ref mv), .val (.long ea), .second, .val (.long eb), .second, .val (.long ec), .second, .val r, .val (.int an), .val (.long mn2), .second] [])) (fun _ k => XS.ifNo X194.here hx rfl (hb hby at_312) rfl (Jvm.Free.XT.i0_eq_f (mt (lw_eq ec (-9223372036854775808 : Int64)).mp qm)) k) ?_
                            refine own_st (T' := T194) (g' := (mkF m 317 #[.val (.long f1), .second, .val (.long f2), .second, .val (.long f3), .second, .val (.long f4), .second, .val (.int p4), .val (.long (-9223372036854775808 : Int64)), .second, .val (.int wh), .val (.ref ix), .val (.ref xa), .val (.ref xb), .val (.ref xc), .val (.ref mv), .val (.long ea), .second, .val (.long eb), .second, .val (.long ec), .second, .val r, .val (.int an), .val (.long mn2), .second] [(.long mn2)])) (fun _ k => XS.lload X194.here hx rfl (hb hby at_315) rfl k) ?_
                            refine own_st (T' := T194) (g' := (mkF m 319 #[.val (.long f1), .second, .val (.long f2), .second, .val (.long f3), .second, .val (.long f4), .second, .val (.int p4), .val (.long (-9223372036854775808 : Int64)), .second, .val (.int wh), .val (.ref ix), .val (.ref xa), .val (.ref xb), .val (.ref xc), .val (.ref mv), .val (.long ea), .second, .val (.long eb), .second, .val (.long ec), .second, .val r, .val (.int an), .val (.long mn2), .second] [(.long ec), (.long mn2)])) (fun _ k => XS.lload X194.here hx rfl (hb hby at_317) rfl k) ?_
                            obtain ⟨_, _, ⟨T196, L196, k196, n196⟩, -, X196, ⟨Lc196, hQ196, l196, y196, z196⟩, st196⟩ := Jvm.LawKit.callS X194 hx (y := (⟨"java/lang/Math", "min", "(JJ)J"⟩ : MethodName)) hown (mvT hZ (hw _ (List.mem_of_getElem? (i := 67) rfl))) (mvT hZ (hw _ (List.mem_of_getElem? (i := 68) rfl))) (mvT hZ (hw _ (List.mem_of_getElem? (i := 69) rfl))) (mvT hZ (hw _ (List.mem_of_getElem? (i := 70) rfl))) (by decide) (backOf (W := 0) (own_min l Z a0 hw [] mn2 ec T191.heap n0 Z0'''''''''''' ) hZ (hw _ (List.mem_of_getElem? (i := 70) rfl)) (hw _ (List.mem_of_getElem? (i := 69) rfl)) (by decide) (by decide)) (g := (mkF m 319 #[.val (.long f1), .second, .val (.long f2), .second, .val (.long f3), .second, .val (.long f4), .second, .val (.int p4), .val (.long (-9223372036854775808 : Int64)), .second, .val (.int wh), .val (.ref ix), .val (.ref xa), .val (.ref xb), .val (.ref xc), .val (.ref mv), .val (.long ea), .second, .val (.long eb), .second, .val (.long ec), .second, .val r, .val (.int an), .val (.long mn2), .second] [(.long ec), (.long mn2)])) rfl (by rw [hml]; rfl) (argsL := [(.long mn2), (.long ec)]) (rest := []) (lenOf own_pd7 rfl) rfl (by show 2 * 0 + _ ≤ _; exact Nat.le_of_eq rfl) (hb hby at_319) (fun _ _ => ⟨rfl, e194, (by decide : (((((((((((((0 + 1) + 1) + 1) + 0) + 1) + 0) + 1) + 0) + 0) + 0) + 0) + 0) + 0) + 0 ≤ _), (by decide : (((((((((((((0 + 2) + 16) + 7) + 0) + 7) + 0) + 7) + 0) + 0) + 0) + 0) + 0) + 0) + 0 ≤ _)⟩)
                            dsimp only [Pt.U, Pt.locs, Pt.cells, Pt.slots] at X196 l196 y196 z196 st196 hQ196
                            subst l196 y196 z196
                            obtain ⟨rfl, N196q, e196⟩ := hQ196
                            have N194' := Fr.app N194 N196q
                            refine own_st (T' := T196) (g' := (mkF m 322 #[.val (.long f1), .second, .val (.long f2), .second, .val (.long f3), .second, .val (.long f4), .second, .val (.int p4), .val (.long (-9223372036854775808 : Int64)), .second, .val (.int wh), .val (.ref ix), .val (.ref xa), .val (.ref xb), .val (.ref xc), .val (.ref mv), .val (.long ea), .second, .val (.long eb), .second, .val (.long ec), .second, .val r, .val (.int an), .val (.long mn2), .second] [(.long (if ec < mn2 then ec else mn2))])) st196 ?_
                            refine own_st (T' := T196) (g' := (mkF m 324 #[.val (.long f1), .second, .val (.long f2), .second, .val (.long f3), .second, .val (.long f4), .second, .val (.int p4), .val (.long (-9223372036854775808 : Int64)), .second, .val (.int wh), .val (.ref ix), .val (.ref xa), .val (.ref xb), .val (.ref xc), .val (.ref mv), .val (.long ea), .second, .val (.long eb), .second, .val (.long ec), .second, .val r, .val (.int an), .val (.long (if ec < mn2 then ec else mn2)), .second] [])) (fun _ k => XS.lstore X196.here hx rfl (hb hby at_322) rfl (l' := #[.val (.long f1), .second, .val (.long f2), .second, .val (.long f3), .second, .val (.long f4), .second, .val (.int p4), .val (.long (-9223372036854775808 : Int64)), .second, .val (.int wh), .val (.ref ix), .val (.ref xa), .val (.ref xb), .val (.ref xc), .val (.ref mv), .val (.long ea), .second, .val (.long eb), .second, .val (.long ec), .second, .val r, .val (.int an), .val (.long (if ec < mn2 then ec else mn2)), .second]) rfl k) ?_
                            exact J324 _ _ X196 e196 N194' _ (own_mnL2 hmn2 qm)
                        by_cases qm : eb = (-9223372036854775808 : Int64)
                        · refine own_st (T' := T193) (g' := (mkF m 307 #[.val (.long f1), .second, .val (.long f2), .second, .val (.long f3), .second, .val (.long f4), .second, .val (.int p4), .val (.long (-9223372036854775808 : Int64)), .second, .val (.int wh), .val (.ref ix), .val (.ref xa), .val (.ref xb), .val (.ref xc), .val (.ref mv), .val (.long ea), .second, .val (.long eb), .second, .val (.long ec), .second, .val r, .val (.int an), .val (.long mn1), .second] [])) (fun _ k => XS.ifYes X193.here hx rfl (pc0 := 295) (pc' := 307) rfl (hb hby at_295) rfl (Jvm.Free.XT.i0_eq_t ((lw_eq eb (-9223372036854775808 : Int64)).mpr qm)) (by decide) (by decide) k) ?_
                          exact J307 _ _ X193 e193 N193 _ (own_mnS1 hmn1 qm)
                        · refine own_st (T' := T193) (g' := (mkF m 298 #[.val (.long f1), .second, .val (.long f2), .second, .val (.long f3), .second, .val (.long f4), .second, .val (.int p4), .val (.long (-9223372036854775808 : Int64)), .second, .val (.int wh), .val (.ref ix), .val (.ref xa), .val (.ref xb), .val (.ref xc), .val (.ref mv), .val (.long ea), .second, .val (.long eb), .second, .val (.long ec), .second, .val r, .val (.int an), .val (.long mn1), .second] [])) (fun _ k => XS.ifNo X193.here hx rfl (hb hby at_295) rfl (Jvm.Free.XT.i0_eq_f (mt (lw_eq eb (-9223372036854775808 : Int64)).mp qm)) k) ?_
                          refine own_st (T' := T193) (g' := (mkF m 300 #[.val (.long f1), .second, .val (.long f2), .second, .val (.long f3), .second, .val (.long f4), .second, .val (.int p4), .val (.long (-9223372036854775808 : Int64)), .second, .val (.int wh), .val (.ref ix), .val (.ref xa), .val (.ref xb), .val (.ref xc), .val (.ref mv), .val (.long ea), .second, .val (.long eb), .second, .val (.long ec), .second, .val r, .val (.int an), .val (.long mn1), .second] [(.long mn1)])) (fun _ k => XS.lload X193.here hx rfl (hb hby at_298) rfl k) ?_
                          refine own_st (T' := T193) (g' := (mkF m 302 #[.val (.long f1), .second, .val (.long f2), .second, .val (.long f3), .second, .val (.long f4), .second, .val (.int p4), .val (.long (-9223372036854775808 : Int64)), .second, .val (.int wh), .val (.ref ix), .val (.ref xa), .val (.ref xb), .val (.ref xc), .val (.ref mv), .val (.long ea), .second, .val (.long eb), .second, .val (.long ec), .second, .val r, .val (.int an), .val (.long mn1), .second] [(.long eb), (.long mn1)])) (fun _ k => XS.lload X193.here hx rfl (hb hby at_300) rfl k) ?_
                          obtain ⟨_, _, ⟨T197, L197, k197, n197⟩, -, X197, ⟨Lc197, hQ197, l197, y197, z197⟩, st197⟩ := Jvm.LawKit.callS X193 hx (y := (⟨"java/lang/Math", "min", "(JJ)J"⟩ : MethodName)) hown (mvT hZ (hw _ (List.mem_of_getElem? (i := 67) rfl))) (mvT hZ (hw _ (List.mem_of_getElem? (i := 68) rfl))) (mvT hZ (hw _ (List.mem_of_getElem? (i := 69) rfl))) (mvT hZ (hw _ (List.mem_of_getElem? (i := 70) rfl))) (by decide) (backOf (W := 0) (own_min l Z a0 hw [] mn1 eb T191.heap n0 Z0'''''''''''' ) hZ (hw _ (List.mem_of_getElem? (i := 70) rfl)) (hw _ (List.mem_of_getElem? (i := 69) rfl)) (by decide) (by decide)) (g := (mkF m 302 #[.val (.long f1), .second, .val (.long f2), .second, .val (.long f3), .second, .val (.long f4), .second, .val (.int p4), .val (.long (-9223372036854775808 : Int64)), .second, .val (.int wh), .val (.ref ix), .val (.ref xa), .val (.ref xb), .val (.ref xc), .val (.ref mv), .val (.long ea), .second, .val (.long eb), .second, .val (.long ec), .second, .val r, .val (.int an), .val (.long mn1), .second] [(.long eb), (.long mn1)])) rfl (by rw [hml]; rfl) (argsL := [(.long mn1), (.long eb)]) (rest := []) (lenOf own_pd7 rfl) rfl (by show 2 * 0 + _ ≤ _; exact Nat.le_of_eq rfl) (hb hby at_302) (fun _ _ => ⟨rfl, e193, (by decide : (((((((((((((0 + 1) + 1) + 1) + 0) + 1) + 0) + 1) + 0) + 0) + 0) + 0) + 0) + 0) + 0 ≤ _), (by decide : (((((((((((((0 + 2) + 16) + 7) + 0) + 7) + 0) + 7) + 0) + 0) + 0) + 0) + 0) + 0) + 0 ≤ _)⟩)
                          dsimp only [Pt.U, Pt.locs, Pt.cells, Pt.slots] at X197 l197 y197 z197 st197 hQ197
                          subst l197 y197 z197
                          obtain ⟨rfl, N197q, e197⟩ := hQ197
                          have N193' := Fr.app N193 N197q
                          refine own_st (T' := T197) (g' := (mkF m 305 #[.val (.long f1), .second, .val (.long f2), .second, .val (.long f3), .second, .val (.long f4), .second, .val (.int p4), .val (.long (-9223372036854775808 : Int64)), .second, .val (.int wh), .val (.ref ix), .val (.ref xa), .val (.ref xb), .val (.ref xc), .val (.ref mv), .val (.long ea), .second, .val (.long eb), .second, .val (.long ec), .second, .val r, .val (.int an), .val (.long mn1), .second] [(.long (if eb < mn1 then eb else mn1))])) st197 ?_
                          refine own_st (T' := T197) (g' := (mkF m 307 #[.val (.long f1), .second, .val (.long f2), .second, .val (.long f3), .second, .val (.long f4), .second, .val (.int p4), .val (.long (-9223372036854775808 : Int64)), .second, .val (.int wh), .val (.ref ix), .val (.ref xa), .val (.ref xb), .val (.ref xc), .val (.ref mv), .val (.long ea), .second, .val (.long eb), .second, .val (.long ec), .second, .val r, .val (.int an), .val (.long (if eb < mn1 then eb else mn1)), .second] [])) (fun _ k => XS.lstore X197.here hx rfl (hb hby at_305) rfl (l' := #[.val (.long f1), .second, .val (.long f2), .second, .val (.long f3), .second, .val (.long f4), .second, .val (.int p4), .val (.long (-9223372036854775808 : Int64)), .second, .val (.int wh), .val (.ref ix), .val (.ref xa), .val (.ref xb), .val (.ref xc), .val (.ref mv), .val (.long ea), .second, .val (.long eb), .second, .val (.long ec), .second, .val r, .val (.int an), .val (.long (if eb < mn1 then eb else mn1)), .second]) rfl k) ?_
                          exact J307 _ _ X197 e197 N193' _ (own_mnL1 hmn1 qm)
                      by_cases qm : ea = (-9223372036854775808 : Int64)
                      · refine own_st (T' := T192) (g' := (mkF m 290 #[.val (.long f1), .second, .val (.long f2), .second, .val (.long f3), .second, .val (.long f4), .second, .val (.int p4), .val (.long (-9223372036854775808 : Int64)), .second, .val (.int wh), .val (.ref ix), .val (.ref xa), .val (.ref xb), .val (.ref xc), .val (.ref mv), .val (.long ea), .second, .val (.long eb), .second, .val (.long ec), .second, .val r, .val (.int an), .val (.long (9223372036854775807 : Int64)), .second] [])) (fun _ k => XS.ifYes X192.here hx rfl (pc0 := 278) (pc' := 290) rfl (hb hby at_278) rfl (Jvm.Free.XT.i0_eq_t ((lw_eq ea (-9223372036854775808 : Int64)).mpr qm)) (by decide) (by decide) k) ?_
                        exact J290 _ _ X192 e192 N0''''''''' _ (own_mnS0 trivial qm)
                      · refine own_st (T' := T192) (g' := (mkF m 281 #[.val (.long f1), .second, .val (.long f2), .second, .val (.long f3), .second, .val (.long f4), .second, .val (.int p4), .val (.long (-9223372036854775808 : Int64)), .second, .val (.int wh), .val (.ref ix), .val (.ref xa), .val (.ref xb), .val (.ref xc), .val (.ref mv), .val (.long ea), .second, .val (.long eb), .second, .val (.long ec), .second, .val r, .val (.int an), .val (.long (9223372036854775807 : Int64)), .second] [])) (fun _ k => XS.ifNo X192.here hx rfl (hb hby at_278) rfl (Jvm.Free.XT.i0_eq_f (mt (lw_eq ea (-9223372036854775808 : Int64)).mp qm)) k) ?_
                        refine own_st (T' := T192) (g' := (mkF m 283 #[.val (.long f1), .second, .val (.long f2), .second, .val (.long f3), .second, .val (.long f4), .second, .val (.int p4), .val (.long (-9223372036854775808 : Int64)), .second, .val (.int wh), .val (.ref ix), .val (.ref xa), .val (.ref xb), .val (.ref xc), .val (.ref mv), .val (.long ea), .second, .val (.long eb), .second, .val (.long ec), .second, .val r, .val (.int an), .val (.long (9223372036854775807 : Int64)), .second] [(.long (9223372036854775807 : Int64))])) (fun _ k => XS.lload X192.here hx rfl (hb hby at_281) rfl k) ?_
                        refine own_st (T' := T192) (g' := (mkF m 285 #[.val (.long f1), .second, .val (.long f2), .second, .val (.long f3), .second, .val (.long f4), .second, .val (.int p4), .val (.long (-9223372036854775808 : Int64)), .second, .val (.int wh), .val (.ref ix), .val (.ref xa), .val (.ref xb), .val (.ref xc), .val (.ref mv), .val (.long ea), .second, .val (.long eb), .second, .val (.long ec), .second, .val r, .val (.int an), .val (.long (9223372036854775807 : Int64)), .second] [(.long ea), (.long (9223372036854775807 : Int64))])) (fun _ k => XS.lload X192.here hx rfl (hb hby at_283) rfl k) ?_
                        obtain ⟨_, _, ⟨T198, L198, k198, n198⟩, -, X198, ⟨Lc198, hQ198, l198, y198, z198⟩, st198⟩ := Jvm.LawKit.callS X192 hx (y := (⟨"java/lang/Math", "min", "(JJ)J"⟩ : MethodName)) hown (mvT hZ (hw _ (List.mem_of_getElem? (i := 67) rfl))) (mvT hZ (hw _ (List.mem_of_getElem? (i := 68) rfl))) (mvT hZ (hw _ (List.mem_of_getElem? (i := 69) rfl))) (mvT hZ (hw _ (List.mem_of_getElem? (i := 70) rfl))) (by decide) (backOf (W := 0) (own_min l Z a0 hw [] (9223372036854775807 : Int64) ea T191.heap n0 Z0'''''''''''' ) hZ (hw _ (List.mem_of_getElem? (i := 70) rfl)) (hw _ (List.mem_of_getElem? (i := 69) rfl)) (by decide) (by decide)) (g := (mkF m 285 #[.val (.long f1), .second, .val (.long f2), .second, .val (.long f3), .second, .val (.long f4), .second, .val (.int p4), .val (.long (-9223372036854775808 : Int64)), .second, .val (.int wh), .val (.ref ix), .val (.ref xa), .val (.ref xb), .val (.ref xc), .val (.ref mv), .val (.long ea), .second, .val (.long eb), .second, .val (.long ec), .second, .val r, .val (.int an), .val (.long (9223372036854775807 : Int64)), .second] [(.long ea), (.long (9223372036854775807 : Int64))])) rfl (by rw [hml]; rfl) (argsL := [(.long (9223372036854775807 : Int64)), (.long ea)]) (rest := []) (lenOf own_pd7 rfl) rfl (by show 2 * 0 + _ ≤ _; exact Nat.le_of_eq rfl) (hb hby at_285) (fun _ _ => ⟨rfl, e192, (by decide : (((((((((((((0 + 1) + 1) + 1) + 0) + 1) + 0) + 1) + 0) + 0) + 0) + 0) + 0) + 0) + 0 ≤ _), (by decide : (((((((((((((0 + 2) + 16) + 7) + 0) + 7) + 0) + 7) + 0) + 0) + 0) + 0) + 0) + 0) + 0 ≤ _)⟩)
                        dsimp only [Pt.U, Pt.locs, Pt.cells, Pt.slots] at X198 l198 y198 z198 st198 hQ198
                        subst l198 y198 z198
                        obtain ⟨rfl, N198q, e198⟩ := hQ198
                        have N0'''''''''' := Fr.app N0''''''''' N198q
                        refine own_st (T' := T198) (g' := (mkF m 288 #[.val (.long f1), .second, .val (.long f2), .second, .val (.long f3), .second, .val (.long f4), .second, .val (.int p4), .val (.long (-9223372036854775808 : Int64)), .second, .val (.int wh), .val (.ref ix), .val (.ref xa), .val (.ref xb), .val (.ref xc), .val (.ref mv), .val (.long ea), .second, .val (.long eb), .second, .val (.long ec), .second, .val r, .val (.int an), .val (.long (9223372036854775807 : Int64)), .second] [(.long (if ea < (9223372036854775807 : Int64) then ea else (9223372036854775807 : Int64)))])) st198 ?_
                        refine own_st (T' := T198) (g' := (mkF m 290 #[.val (.long f1), .second, .val (.long f2), .second, .val (.long f3), .second, .val (.long f4), .second, .val (.int p4), .val (.long (-9223372036854775808 : Int64)), .second, .val (.int wh), .val (.ref ix), .val (.ref xa), .val (.ref xb), .val (.ref xc), .val (.ref mv), .val (.long ea), .second, .val (.long eb), .second, .val (.long ec), .second, .val r, .val (.int an), .val (.long (if ea < (9223372036854775807 : Int64) then ea else (9223372036854775807 : Int64))), .second] [])) (fun _ k => XS.lstore X198.here hx rfl (hb hby at_288) rfl (l' := #[.val (.long f1), .second, .val (.long f2), .second, .val (.long f3), .second, .val (.long f4), .second, .val (.int p4), .val (.long (-9223372036854775808 : Int64)), .second, .val (.int wh), .val (.ref ix), .val (.ref xa), .val (.ref xb), .val (.ref xc), .val (.ref mv), .val (.long ea), .second, .val (.long eb), .second, .val (.long ec), .second, .val r, .val (.int an), .val (.long (if ea < (9223372036854775807 : Int64) then ea else (9223372036854775807 : Int64))), .second]) rfl k) ?_
                        exact J290 _ _ X198 e198 N0'''''''''' _ (own_mnL0 trivial qm)
                  by_cases u1 : ea = (-9223372036854775808 : Int64)
                  · refine own_st (T' := T192) (g' := (mkF m 229 #[.val (.long f1), .second, .val (.long f2), .second, .val (.long f3), .second, .val (.long f4), .second, .val (.int p4), .val (.long (-9223372036854775808 : Int64)), .second, .val (.int wh), .val (.ref ix), .val (.ref xa), .val (.ref xb), .val (.ref xc), .val (.ref mv), .val (.long ea), .second, .val (.long eb), .second, .val (.long ec), .second, .val r, .unset, .unset, .unset] [])) (fun _ k => XS.ifNo X192.here hx rfl (hb hby at_226) rfl (Jvm.Free.XT.i0_ne_f ((lw_eq ea (-9223372036854775808 : Int64)).mpr u1)) k) ?_
                    refine own_st (T' := T192) (g' := (mkF m 231 #[.val (.long f1), .second, .val (.long f2), .second, .val (.long f3), .second, .val (.long f4), .second, .val (.int p4), .val (.long (-9223372036854775808 : Int64)), .second, .val (.int wh), .val (.ref ix), .val (.ref xa), .val (.ref xb), .val (.ref xc), .val (.ref mv), .val (.long ea), .second, .val (.long eb), .second, .val (.long ec), .second, .val r, .unset, .unset, .unset] [(.long eb)])) (fun _ k => XS.lload X192.here hx rfl (hb hby at_229) rfl k) ?_
                    refine own_st (T' := T192) (g' := (mkF m 233 #[.val (.long f1), .second, .val (.long f2), .second, .val (.long f3), .second, .val (.long f4), .second, .val (.int p4), .val (.long (-9223372036854775808 : Int64)), .second, .val (.int wh), .val (.ref ix), .val (.ref xa), .val (.ref xb), .val (.ref xc), .val (.ref mv), .val (.long ea), .second, .val (.long eb), .second, .val (.long ec), .second, .val r, .unset, .unset, .unset] [(.long (-9223372036854775808 : Int64)), (.long eb)])) (fun _ k => XS.lload X192.here hx rfl (hb hby at_231) rfl k) ?_
                    refine own_st (T' := T192) (g' := (mkF m 234 #[.val (.long f1), .second, .val (.long f2), .second, .val (.long f3), .second, .val (.long f4), .second, .val (.int p4), .val (.long (-9223372036854775808 : Int64)), .second, .val (.int wh), .val (.ref ix), .val (.ref xa), .val (.ref xb), .val (.ref xc), .val (.ref mv), .val (.long ea), .second, .val (.long eb), .second, .val (.long ec), .second, .val r, .unset, .unset, .unset] [(.int (lcmpW eb (-9223372036854775808 : Int64)))])) (fun _ k => XS.lcmp X192.here hx rfl (hb hby at_233) rfl k) ?_
                    by_cases u2 : eb = (-9223372036854775808 : Int64)
                    · refine own_st (T' := T192) (g' := (mkF m 237 #[.val (.long f1), .second, .val (.long f2), .second, .val (.long f3), .second, .val (.long f4), .second, .val (.int p4), .val (.long (-9223372036854775808 : Int64)), .second, .val (.int wh), .val (.ref ix), .val (.ref xa), .val (.ref xb), .val (.ref xc), .val (.ref mv), .val (.long ea), .second, .val (.long eb), .second, .val (.long ec), .second, .val r, .unset, .unset, .unset] [])) (fun _ k => XS.ifNo X192.here hx rfl (hb hby at_234) rfl (Jvm.Free.XT.i0_ne_f ((lw_eq eb (-9223372036854775808 : Int64)).mpr u2)) k) ?_
                      refine own_st (T' := T192) (g' := (mkF m 239 #[.val (.long f1), .second, .val (.long f2), .second, .val (.long f3), .second, .val (.long f4), .second, .val (.int p4), .val (.long (-9223372036854775808 : Int64)), .second, .val (.int wh), .val (.ref ix), .val (.ref xa), .val (.ref xb), .val (.ref xc), .val (.ref mv), .val (.long ea), .second, .val (.long eb), .second, .val (.long ec), .second, .val r, .unset, .unset, .unset] [(.long ec)])) (fun _ k => XS.lload X192.here hx rfl (hb hby at_237) rfl k) ?_
                      refine own_st (T' := T192) (g' := (mkF m 241 #[.val (.long f1), .second, .val (.long f2), .second, .val (.long f3), .second, .val (.long f4), .second, .val (.int p4), .val (.long (-9223372036854775808 : Int64)), .second, .val (.int wh), .val (.ref ix), .val (.ref xa), .val (.ref xb), .val (.ref xc), .val (.ref mv), .val (.long ea), .second, .val (.long eb), .second, .val (.long ec), .second, .val r, .unset, .unset, .unset] [(.long (-9223372036854775808 : Int64)), (.long ec)])) (fun _ k => XS.lload X192.here hx rfl (hb hby at_239) rfl k) ?_
                      refine own_st (T' := T192) (g' := (mkF m 242 #[.val (.long f1), .second, .val (.long f2), .second, .val (.long f3), .second, .val (.long f4), .second, .val (.int p4), .val (.long (-9223372036854775808 : Int64)), .second, .val (.int wh), .val (.ref ix), .val (.ref xa), .val (.ref xb), .val (.ref xc), .val (.ref mv), .val (.long ea), .second, .val (.long eb), .second, .val (.long ec), .second, .val r, .unset, .unset, .unset] [(.int (lcmpW ec (-9223372036854775808 : Int64)))])) (fun _ k => XS.lcmp X192.here hx rfl (hb hby at_241) rfl k) ?_
                      by_cases u3 : ec = (-9223372036854775808 : Int64)
                      · refine own_st (T' := T192) (g' := (mkF m 249 #[.val (.long f1), .second, .val (.long f2), .second, .val (.long f3), .second, .val (.long f4), .second, .val (.int p4), .val (.long (-9223372036854775808 : Int64)), .second, .val (.int wh), .val (.ref ix), .val (.ref xa), .val (.ref xb), .val (.ref xc), .val (.ref mv), .val (.long ea), .second, .val (.long eb), .second, .val (.long ec), .second, .val r, .unset, .unset, .unset] [])) (fun _ k => XS.ifYes X192.here hx rfl (pc0 := 242) (pc' := 249) rfl (hb hby at_242) rfl (Jvm.Free.XT.i0_eq_t ((lw_eq ec (-9223372036854775808 : Int64)).mpr u3)) (by decide) (by decide) k) ?_
                        refine own_st (T' := T192) (g' := (mkF m 250 #[.val (.long f1), .second, .val (.long f2), .second, .val (.long f3), .second, .val (.long f4), .second, .val (.int p4), .val (.long (-9223372036854775808 : Int64)), .second, .val (.int wh), .val (.ref ix), .val (.ref xa), .val (.ref xb), .val (.ref xc), .val (.ref mv), .val (.long ea), .second, .val (.long eb), .second, .val (.long ec), .second, .val r, .unset, .unset, .unset] [(.int (0 : Int32))])) (fun _ k => XS.iconst X192.here hx rfl (hb hby at_249) k) ?_
                        exact J250 _ (Or.inl ⟨rfl, u1, u2, u3⟩)
                      · refine own_st (T' := T192) (g' := (mkF m 245 #[.val (.long f1), .second, .val (.long f2), .second, .val (.long f3), .second, .val (.long f4), .second, .val (.int p4), .val (.long (-9223372036854775808 : Int64)), .second, .val (.int wh), .val (.ref ix), .val (.ref xa), .val (.ref xb), .val (.ref xc), .val (.ref mv), .val (.long ea), .second, .val (.long eb), .second, .val (.long ec), .second, .val r, .unset, .unset, .unset] [])) (fun _ k => XS.ifNo X192.here hx rfl (hb hby at_242) rfl (Jvm.Free.XT.i0_eq_f (mt (lw_eq ec (-9223372036854775808 : Int64)).mp u3)) k) ?_
                        refine own_st (T' := T192) (g' := (mkF m 246 #[.val (.long f1), .second, .val (.long f2), .second, .val (.long f3), .second, .val (.long f4), .second, .val (.int p4), .val (.long (-9223372036854775808 : Int64)), .second, .val (.int wh), .val (.ref ix), .val (.ref xa), .val (.ref xb), .val (.ref xc), .val (.ref mv), .val (.long ea), .second, .val (.long eb), .second, .val (.long ec), .second, .val r, .unset, .unset, .unset] [(.int (1 : Int32))])) (fun _ k => XS.iconst X192.here hx rfl (hb hby at_245) k) ?_
                        refine own_st (T' := T192) (g' := (mkF m 250 #[.val (.long f1), .second, .val (.long f2), .second, .val (.long f3), .second, .val (.long f4), .second, .val (.int p4), .val (.long (-9223372036854775808 : Int64)), .second, .val (.int wh), .val (.ref ix), .val (.ref xa), .val (.ref xb), .val (.ref xc), .val (.ref mv), .val (.long ea), .second, .val (.long eb), .second, .val (.long ec), .second, .val r, .unset, .unset, .unset] [(.int (1 : Int32))])) (fun _ k => XS.goto X192.here hx rfl (pc0 := 246) (pc' := 250) rfl (hb hby at_246) (by decide) (by decide) k) ?_
                        exact J250 _ (Or.inr ⟨rfl, Or.inr (Or.inr u3)⟩)
                    · refine own_st (T' := T192) (g' := (mkF m 245 #[.val (.long f1), .second, .val (.long f2), .second, .val (.long f3), .second, .val (.long f4), .second, .val (.int p4), .val (.long (-9223372036854775808 : Int64)), .second, .val (.int wh), .val (.ref ix), .val (.ref xa), .val (.ref xb), .val (.ref xc), .val (.ref mv), .val (.long ea), .second, .val (.long eb), .second, .val (.long ec), .second, .val r, .unset, .unset, .unset] [])) (fun _ k => XS.ifYes X192.here hx rfl (pc0 := 234) (pc' := 245) rfl (hb hby at_234) rfl (Jvm.Free.XT.i0_ne_t (mt (lw_eq eb (-9223372036854775808 : Int64)).mp u2)) (by decide) (by decide) k) ?_
                      refine own_st (T' := T192) (g' := (mkF m 246 #[.val (.long f1), .second, .val (.long f2), .second, .val (.long f3), .second, .val (.long f4), .second, .val (.int p4), .val (.long (-9223372036854775808 : Int64)), .second, .val (.int wh), .val (.ref ix), .val (.ref xa), .val (.ref xb), .val (.ref xc), .val (.ref mv), .val (.long ea), .second, .val (.long eb), .second, .val (.long ec), .second, .val r, .unset, .unset, .unset] [(.int (1 : Int32))])) (fun _ k => XS.iconst X192.here hx rfl (hb hby at_245) k) ?_
                      refine own_st (T' := T192) (g' := (mkF m 250 #[.val (.long f1), .second, .val (.long f2), .second, .val (.long f3), .second, .val (.long f4), .second, .val (.int p4), .val (.long (-9223372036854775808 : Int64)), .second, .val (.int wh), .val (.ref ix), .val (.ref xa), .val (.ref xb), .val (.ref xc), .val (.ref mv), .val (.long ea), .second, .val (.long eb), .second, .val (.long ec), .second, .val r, .unset, .unset, .unset] [(.int (1 : Int32))])) (fun _ k => XS.goto X192.here hx rfl (pc0 := 246) (pc' := 250) rfl (hb hby at_246) (by decide) (by decide) k) ?_
                      exact J250 _ (Or.inr ⟨rfl, Or.inr (Or.inl u2)⟩)
                  · refine own_st (T' := T192) (g' := (mkF m 245 #[.val (.long f1), .second, .val (.long f2), .second, .val (.long f3), .second, .val (.long f4), .second, .val (.int p4), .val (.long (-9223372036854775808 : Int64)), .second, .val (.int wh), .val (.ref ix), .val (.ref xa), .val (.ref xb), .val (.ref xc), .val (.ref mv), .val (.long ea), .second, .val (.long eb), .second, .val (.long ec), .second, .val r, .unset, .unset, .unset] [])) (fun _ k => XS.ifYes X192.here hx rfl (pc0 := 226) (pc' := 245) rfl (hb hby at_226) rfl (Jvm.Free.XT.i0_ne_t (mt (lw_eq ea (-9223372036854775808 : Int64)).mp u1)) (by decide) (by decide) k) ?_
                    refine own_st (T' := T192) (g' := (mkF m 246 #[.val (.long f1), .second, .val (.long f2), .second, .val (.long f3), .second, .val (.long f4), .second, .val (.int p4), .val (.long (-9223372036854775808 : Int64)), .second, .val (.int wh), .val (.ref ix), .val (.ref xa), .val (.ref xb), .val (.ref xc), .val (.ref mv), .val (.long ea), .second, .val (.long eb), .second, .val (.long ec), .second, .val r, .unset, .unset, .unset] [(.int (1 : Int32))])) (fun _ k => XS.iconst X192.here hx rfl (hb hby at_245) k) ?_
                    refine own_st (T' := T192) (g' := (mkF m 250 #[.val (.long f1), .second, .val (.long f2), .second, .val (.long f3), .second, .val (.long f4), .second, .val (.int p4), .val (.long (-9223372036854775808 : Int64)), .second, .val (.int wh), .val (.ref ix), .val (.ref xa), .val (.ref xb), .val (.ref xc), .val (.ref mv), .val (.long ea), .second, .val (.long eb), .second, .val (.long ec), .second, .val r, .unset, .unset, .unset] [(.int (1 : Int32))])) (fun _ k => XS.goto X192.here hx rfl (pc0 := 246) (pc' := 250) rfl (hb hby at_246) (by decide) (by decide) k) ?_
                    exact J250 _ (Or.inr ⟨rfl, Or.inl u1⟩)
                by_cases qw : wh = (2 : Int32)
                · refine own_st (T' := T191) (g' := (mkF m 205 #[.val (.long f1), .second, .val (.long f2), .second, .val (.long f3), .second, .val (.long f4), .second, .val (.int p4), .val (.long (-9223372036854775808 : Int64)), .second, .val (.int wh), .val (.ref ix), .val (.ref xa), .val (.ref xb), .val (.ref xc), .val (.ref mv), .val (.long ea), .second, .val (.long eb), .second, .unset, .unset, .unset, .unset, .unset, .unset] [])) (fun _ k => XS.icmpNo X191.here hx rfl (hb hby at_202) rfl (Jvm.Free.XT.ii_ne_f qw) k) ?_
                  refine own_st (T' := T191) (g' := (mkF m 207 #[.val (.long f1), .second, .val (.long f2), .second, .val (.long f3), .second, .val (.long f4), .second, .val (.int p4), .val (.long (-9223372036854775808 : Int64)), .second, .val (.int wh), .val (.ref ix), .val (.ref xa), .val (.ref xb), .val (.ref xc), .val (.ref mv), .val (.long ea), .second, .val (.long eb), .second, .unset, .unset, .unset, .unset, .unset, .unset] [(.long f4)])) (fun _ k => XS.lload X191.here hx rfl (hb hby at_205) rfl k) ?_
                  refine own_st (T' := T191) (g' := (mkF m 212 #[.val (.long f1), .second, .val (.long f2), .second, .val (.long f3), .second, .val (.long f4), .second, .val (.int p4), .val (.long (-9223372036854775808 : Int64)), .second, .val (.int wh), .val (.ref ix), .val (.ref xa), .val (.ref xb), .val (.ref xc), .val (.ref mv), .val (.long ea), .second, .val (.long eb), .second, .unset, .unset, .unset, .unset, .unset, .unset] [(.long f4)])) (fun _ k => XS.goto X191.here hx rfl (pc0 := 207) (pc' := 212) rfl (hb hby at_207) (by decide) (by decide) k) ?_
                  exact J212 _ (by rw [dc]; simp [qw])
                · refine own_st (T' := T191) (g' := (mkF m 210 #[.val (.long f1), .second, .val (.long f2), .second, .val (.long f3), .second, .val (.long f4), .second, .val (.int p4), .val (.long (-9223372036854775808 : Int64)), .second, .val (.int wh), .val (.ref ix), .val (.ref xa), .val (.ref xb), .val (.ref xc), .val (.ref mv), .val (.long ea), .second, .val (.long eb), .second, .unset, .unset, .unset, .unset, .unset, .unset] [])) (fun _ k => XS.icmpYes X191.here hx rfl (pc0 := 202) (pc' := 210) rfl (hb hby at_202) rfl (Jvm.Free.XT.ii_ne_t qw) (by decide) (by decide) k) ?_
                  refine own_st (T' := T191) (g' := (mkF m 212 #[.val (.long f1), .second, .val (.long f2), .second, .val (.long f3), .second, .val (.long f4), .second, .val (.int p4), .val (.long (-9223372036854775808 : Int64)), .second, .val (.int wh), .val (.ref ix), .val (.ref xa), .val (.ref xb), .val (.ref xc), .val (.ref mv), .val (.long ea), .second, .val (.long eb), .second, .unset, .unset, .unset, .unset, .unset, .unset] [(.long f3)])) (fun _ k => XS.lload X191.here hx rfl (hb hby at_210) rfl k) ?_
                  exact J212 _ (by rw [dc]; simp [qw])
              by_cases qw : wh = (1 : Int32)
              · refine own_st (T' := T191) (g' := (mkF m 191 #[.val (.long f1), .second, .val (.long f2), .second, .val (.long f3), .second, .val (.long f4), .second, .val (.int p4), .val (.long (-9223372036854775808 : Int64)), .second, .val (.int wh), .val (.ref ix), .val (.ref xa), .val (.ref xb), .val (.ref xc), .val (.ref mv), .val (.long ea), .second, .unset, .unset, .unset, .unset, .unset, .unset, .unset, .unset] [])) (fun _ k => XS.icmpNo X191.here hx rfl (hb hby at_188) rfl (Jvm.Free.XT.ii_ne_f qw) k) ?_
                refine own_st (T' := T191) (g' := (mkF m 193 #[.val (.long f1), .second, .val (.long f2), .second, .val (.long f3), .second, .val (.long f4), .second, .val (.int p4), .val (.long (-9223372036854775808 : Int64)), .second, .val (.int wh), .val (.ref ix), .val (.ref xa), .val (.ref xb), .val (.ref xc), .val (.ref mv), .val (.long ea), .second, .unset, .unset, .unset, .unset, .unset, .unset, .unset, .unset] [(.long f4)])) (fun _ k => XS.lload X191.here hx rfl (hb hby at_191) rfl k) ?_
                refine own_st (T' := T191) (g' := (mkF m 197 #[.val (.long f1), .second, .val (.long f2), .second, .val (.long f3), .second, .val (.long f4), .second, .val (.int p4), .val (.long (-9223372036854775808 : Int64)), .second, .val (.int wh), .val (.ref ix), .val (.ref xa), .val (.ref xb), .val (.ref xc), .val (.ref mv), .val (.long ea), .second, .unset, .unset, .unset, .unset, .unset, .unset, .unset, .unset] [(.long f4)])) (fun _ k => XS.goto X191.here hx rfl (pc0 := 193) (pc' := 197) rfl (hb hby at_193) (by decide) (by decide) k) ?_
                exact J197 _ (by rw [db]; simp [qw])
              · refine own_st (T' := T191) (g' := (mkF m 196 #[.val (.long f1), .second, .val (.long f2), .second, .val (.long f3), .second, .val (.long f4), .second, .val (.int p4), .val (.long (-9223372036854775808 : Int64)), .second, .val (.int wh), .val (.ref ix), .val (.ref xa), .val (.ref xb), .val (.ref xc), .val (.ref mv), .val (.long ea), .second, .unset, .unset, .unset, .unset, .unset, .unset, .unset, .unset] [])) (fun _ k => XS.icmpYes X191.here hx rfl (pc0 := 188) (pc' := 196) rfl (hb hby at_188) rfl (Jvm.Free.XT.ii_ne_t qw) (by decide) (by decide) k) ?_
                refine own_st (T' := T191) (g' := (mkF m 197 #[.val (.long f1), .second, .val (.long f2), .second, .val (.long f3), .second, .val (.long f4), .second, .val (.int p4), .val (.long (-9223372036854775808 : Int64)), .second, .val (.int wh), .val (.ref ix), .val (.ref xa), .val (.ref xb), .val (.ref xc), .val (.ref mv), .val (.long ea), .second, .unset, .unset, .unset, .unset, .unset, .unset, .unset, .unset] [(.long f2)])) (fun _ k => XS.lloadN X191.here hx rfl (hb hby at_196) rfl k) ?_
                exact J197 _ (by rw [db]; simp [qw])
            by_cases qw : wh = (0 : Int32)
            · refine own_st (T' := T191) (g' := (mkF m 177 #[.val (.long f1), .second, .val (.long f2), .second, .val (.long f3), .second, .val (.long f4), .second, .val (.int p4), .val (.long (-9223372036854775808 : Int64)), .second, .val (.int wh), .val (.ref ix), .val (.ref xa), .val (.ref xb), .val (.ref xc), .val (.ref mv), .unset, .unset, .unset, .unset, .unset, .unset, .unset, .unset, .unset, .unset] [])) (fun _ k => XS.ifNo X191.here hx rfl (hb hby at_174) rfl (Jvm.Free.XT.i0_ne_f qw) k) ?_
              refine own_st (T' := T191) (g' := (mkF m 179 #[.val (.long f1), .second, .val (.long f2), .second, .val (.long f3), .second, .val (.long f4), .second, .val (.int p4), .val (.long (-9223372036854775808 : Int64)), .second, .val (.int wh), .val (.ref ix), .val (.ref xa), .val (.ref xb), .val (.ref xc), .val (.ref mv), .unset, .unset, .unset, .unset, .unset, .unset, .unset, .unset, .unset, .unset] [(.long f4)])) (fun _ k => XS.lload X191.here hx rfl (hb hby at_177) rfl k) ?_
              refine own_st (T' := T191) (g' := (mkF m 183 #[.val (.long f1), .second, .val (.long f2), .second, .val (.long f3), .second, .val (.long f4), .second, .val (.int p4), .val (.long (-9223372036854775808 : Int64)), .second, .val (.int wh), .val (.ref ix), .val (.ref xa), .val (.ref xb), .val (.ref xc), .val (.ref mv), .unset, .unset, .unset, .unset, .unset, .unset, .unset, .unset, .unset, .unset] [(.long f4)])) (fun _ k => XS.goto X191.here hx rfl (pc0 := 179) (pc' := 183) rfl (hb hby at_179) (by decide) (by decide) k) ?_
              exact J183 _ (by rw [da]; simp [qw])
            · refine own_st (T' := T191) (g' := (mkF m 182 #[.val (.long f1), .second, .val (.long f2), .second, .val (.long f3), .second, .val (.long f4), .second, .val (.int p4), .val (.long (-9223372036854775808 : Int64)), .second, .val (.int wh), .val (.ref ix), .val (.ref xa), .val (.ref xb), .val (.ref xc), .val (.ref mv), .unset, .unset, .unset, .unset, .unset, .unset, .unset, .unset, .unset, .unset] [])) (fun _ k => XS.ifYes X191.here hx rfl (pc0 := 174) (pc' := 182) rfl (hb hby at_174) rfl (Jvm.Free.XT.i0_ne_t qw) (by decide) (by decide) k) ?_
              refine own_st (T' := T191) (g' := (mkF m 183 #[.val (.long f1), .second, .val (.long f2), .second, .val (.long f3), .second, .val (.long f4), .second, .val (.int p4), .val (.long (-9223372036854775808 : Int64)), .second, .val (.int wh), .val (.ref ix), .val (.ref xa), .val (.ref xb), .val (.ref xc), .val (.ref mv), .unset, .unset, .unset, .unset, .unset, .unset, .unset, .unset, .unset, .unset] [(.long f1)])) (fun _ k => XS.lloadN X191.here hx rfl (hb hby at_182) rfl k) ?_
              exact J183 _ (by rw [da]; simp [qw])
          by_cases qa : wh = (0 : Int32)
          · refine own_st (T' := T190) (g' := (mkF m 143 #[.val (.long f1), .second, .val (.long f2), .second, .val (.long f3), .second, .val (.long f4), .second, .val (.int p4), .val (.long (-9223372036854775808 : Int64)), .second, .val (.int wh), .val (.ref ix), .val (.ref xa), .val (.ref xb), .val (.ref xc), .unset, .unset, .unset, .unset, .unset, .unset, .unset, .unset, .unset, .unset, .unset] [])) (fun _ k => XS.ifNo X190.here hx rfl (hb hby at_140) rfl (Jvm.Free.XT.i0_ne_f qa) k) ?_
            refine own_st (T' := T190) (g' := (mkF m 145 #[.val (.long f1), .second, .val (.long f2), .second, .val (.long f3), .second, .val (.long f4), .second, .val (.int p4), .val (.long (-9223372036854775808 : Int64)), .second, .val (.int wh), .val (.ref ix), .val (.ref xa), .val (.ref xb), .val (.ref xc), .unset, .unset, .unset, .unset, .unset, .unset, .unset, .unset, .unset, .unset, .unset] [(.ref xa)])) (fun _ k => XS.aload X190.here hx rfl (hb hby at_143) rfl rfl k) ?_
            refine own_st (T' := T190) (g' := (mkF m 161 #[.val (.long f1), .second, .val (.long f2), .second, .val (.long f3), .second, .val (.long f4), .second, .val (.int p4), .val (.long (-9223372036854775808 : Int64)), .second, .val (.int wh), .val (.ref ix), .val (.ref xa), .val (.ref xb), .val (.ref xc), .unset, .unset, .unset, .unset, .unset, .unset, .unset, .unset, .unset, .unset, .unset] [(.ref xa)])) (fun _ k => XS.goto X190.here hx rfl (pc0 := 145) (pc' := 161) rfl (hb hby at_145) (by decide) (by decide) k) ?_
            exact J161 xa (by simp) (Or.inl ⟨qa, rfl⟩)
          · refine own_st (T' := T190) (g' := (mkF m 148 #[.val (.long f1), .second, .val (.long f2), .second, .val (.long f3), .second, .val (.long f4), .second, .val (.int p4), .val (.long (-9223372036854775808 : Int64)), .second, .val (.int wh), .val (.ref ix), .val (.ref xa), .val (.ref xb), .val (.ref xc), .unset, .unset, .unset, .unset, .unset, .unset, .unset, .unset, .unset, .unset, .unset] [])) (fun _ k => XS.ifYes X190.here hx rfl (pc0 := 140) (pc' := 148) rfl (hb hby at_140) rfl (Jvm.Free.XT.i0_ne_t qa) (by decide) (by decide) k) ?_
            refine own_st (T' := T190) (g' := (mkF m 150 #[.val (.long f1), .second, .val (.long f2), .second, .val (.long f3), .second, .val (.long f4), .second, .val (.int p4), .val (.long (-9223372036854775808 : Int64)), .second, .val (.int wh), .val (.ref ix), .val (.ref xa), .val (.ref xb), .val (.ref xc), .unset, .unset, .unset, .unset, .unset, .unset, .unset, .unset, .unset, .unset, .unset] [(.int wh)])) (fun _ k => XS.iload X190.here hx rfl (hb hby at_148) rfl k) ?_
            refine own_st (T' := T190) (g' := (mkF m 151 #[.val (.long f1), .second, .val (.long f2), .second, .val (.long f3), .second, .val (.long f4), .second, .val (.int p4), .val (.long (-9223372036854775808 : Int64)), .second, .val (.int wh), .val (.ref ix), .val (.ref xa), .val (.ref xb), .val (.ref xc), .unset, .unset, .unset, .unset, .unset, .unset, .unset, .unset, .unset, .unset, .unset] [(.int (1 : Int32)), (.int wh)])) (fun _ k => XS.iconst X190.here hx rfl (hb hby at_150) k) ?_
            by_cases qb : wh = (1 : Int32)
            · refine own_st (T' := T190) (g' := (mkF m 154 #[.val (.long f1), .second, .val (.long f2), .second, .val (.long f3), .second, .val (.long f4), .second, .val (.int p4), .val (.long (-9223372036854775808 : Int64)), .second, .val (.int wh), .val (.ref ix), .val (.ref xa), .val (.ref xb), .val (.ref xc), .unset, .unset, .unset, .unset, .unset, .unset, .unset, .unset, .unset, .unset, .unset] [])) (fun _ k => XS.icmpNo X190.here hx rfl (hb hby at_151) rfl (Jvm.Free.XT.ii_ne_f qb) k) ?_
              refine own_st (T' := T190) (g' := (mkF m 156 #[.val (.long f1), .second, .val (.long f2), .second, .val (.long f3), .second, .val (.long f4), .second, .val (.int p4), .val (.long (-9223372036854775808 : Int64)), .second, .val (.int wh), .val (.ref ix), .val (.ref xa), .val (.ref xb), .val (.ref xc), .unset, .unset, .unset, .unset, .unset, .unset, .unset, .unset, .unset, .unset, .unset] [(.ref xb)])) (fun _ k => XS.aload X190.here hx rfl (hb hby at_154) rfl rfl k) ?_
              refine own_st (T' := T190) (g' := (mkF m 161 #[.val (.long f1), .second, .val (.long f2), .second, .val (.long f3), .second, .val (.long f4), .second, .val (.int p4), .val (.long (-9223372036854775808 : Int64)), .second, .val (.int wh), .val (.ref ix), .val (.ref xa), .val (.ref xb), .val (.ref xc), .unset, .unset, .unset, .unset, .unset, .unset, .unset, .unset, .unset, .unset, .unset] [(.ref xb)])) (fun _ k => XS.goto X190.here hx rfl (pc0 := 156) (pc' := 161) rfl (hb hby at_156) (by decide) (by decide) k) ?_
              exact J161 xb (by simp) (Or.inr (Or.inl ⟨qb, rfl⟩))
            · refine own_st (T' := T190) (g' := (mkF m 159 #[.val (.long f1), .second, .val (.long f2), .second, .val (.long f3), .second, .val (.long f4), .second, .val (.int p4), .val (.long (-9223372036854775808 : Int64)), .second, .val (.int wh), .val (.ref ix), .val (.ref xa), .val (.ref xb), .val (.ref xc), .unset, .unset, .unset, .unset, .unset, .unset, .unset, .unset, .unset, .unset, .unset] [])) (fun _ k => XS.icmpYes X190.here hx rfl (pc0 := 151) (pc' := 159) rfl (hb hby at_151) rfl (Jvm.Free.XT.ii_ne_t qb) (by decide) (by decide) k) ?_
              refine own_st (T' := T190) (g' := (mkF m 161 #[.val (.long f1), .second, .val (.long f2), .second, .val (.long f3), .second, .val (.long f4), .second, .val (.int p4), .val (.long (-9223372036854775808 : Int64)), .second, .val (.int wh), .val (.ref ix), .val (.ref xa), .val (.ref xb), .val (.ref xc), .unset, .unset, .unset, .unset, .unset, .unset, .unset, .unset, .unset, .unset, .unset] [(.ref xc)])) (fun _ k => XS.aload X190.here hx rfl (hb hby at_159) rfl rfl k) ?_
              exact J161 xc (by simp) (Or.inr (Or.inr ⟨by rcases hwh with u | u | u; exact absurd u qa; exact absurd u qb; exact u, rfl⟩))
        exact J71 _ (own_to3 (own_modg (c_and _ (3 : Int32) (by decide)).1 (by decide)))
      by_cases q3 : (p4 &&& (8 : Int32)) = (0 : Int32)
      · refine own_st (T' := s₁) (g' := (mkF m 63 #[.val (.long e1), .second, .val (.long f2), .second, .val (.long f3), .second, .val (.long f4), .second, .val (.int p4), .val (.long (-9223372036854775808 : Int64)), .second, .unset, .unset, .unset, .unset, .unset, .unset, .unset, .unset, .unset, .unset, .unset, .unset, .unset, .unset, .unset, .unset] [])) (fun _ k => XS.ifYes X0.here hx rfl (pc0 := 57) (pc' := 63) rfl (hb hby at_57) rfl (Jvm.Free.XT.i0_eq_t q3) (by decide) (by decide) k) ?_
        exact J63 _
      · refine own_st (T' := s₁) (g' := (mkF m 60 #[.val (.long e1), .second, .val (.long f2), .second, .val (.long f3), .second, .val (.long f4), .second, .val (.int p4), .val (.long (-9223372036854775808 : Int64)), .second, .unset, .unset, .unset, .unset, .unset, .unset, .unset, .unset, .unset, .unset, .unset, .unset, .unset, .unset, .unset, .unset] [])) (fun _ k => XS.ifNo X0.here hx rfl (hb hby at_57) rfl (Jvm.Free.XT.i0_eq_f q3) k) ?_
        refine own_st (T' := s₁) (g' := (mkF m 62 #[.val (.long e1), .second, .val (.long f2), .second, .val (.long f3), .second, .val (.long f4), .second, .val (.int p4), .val (.long (-9223372036854775808 : Int64)), .second, .unset, .unset, .unset, .unset, .unset, .unset, .unset, .unset, .unset, .unset, .unset, .unset, .unset, .unset, .unset, .unset] [(.long (-9223372036854775808 : Int64))])) (fun _ k => XS.lload X0.here hx rfl (hb hby at_60) rfl k) ?_
        refine own_st (T' := s₁) (g' := (mkF m 63 #[.val (.long (-9223372036854775808 : Int64)), .second, .val (.long f2), .second, .val (.long f3), .second, .val (.long f4), .second, .val (.int p4), .val (.long (-9223372036854775808 : Int64)), .second, .unset, .unset, .unset, .unset, .unset, .unset, .unset, .unset, .unset, .unset, .unset, .unset, .unset, .unset, .unset, .unset] [])) (fun _ k => XS.lstoreN X0.here hx rfl (hb hby at_62) rfl (l' := #[.val (.long (-9223372036854775808 : Int64)), .second, .val (.long f2), .second, .val (.long f3), .second, .val (.long f4), .second, .val (.int p4), .val (.long (-9223372036854775808 : Int64)), .second, .unset, .unset, .unset, .unset, .unset, .unset, .unset, .unset, .unset, .unset, .unset, .unset, .unset, .unset, .unset, .unset]) rfl k) ?_
        exact J63 _
    by_cases q2 : (p4 &&& (4 : Int32)) = (0 : Int32)
    · refine own_st (T' := s₁) (g' := (mkF m 52 #[.val (.long e1), .second, .val (.long f2), .second, .val (.long f3), .second, .val (.long e4), .second, .val (.int p4), .val (.long (-9223372036854775808 : Int64)), .second, .unset, .unset, .unset, .unset, .unset, .unset, .unset, .unset, .unset, .unset, .unset, .unset, .unset, .unset, .unset, .unset] [])) (fun _ k => XS.ifYes X0.here hx rfl (pc0 := 45) (pc' := 52) rfl (hb hby at_45) rfl (Jvm.Free.XT.i0_eq_t q2) (by decide) (by decide) k) ?_
      exact J52 _
    · refine own_st (T' := s₁) (g' := (mkF m 48 #[.val (.long e1), .second, .val (.long f2), .second, .val (.long f3), .second, .val (.long e4), .second, .val (.int p4), .val (.long (-9223372036854775808 : Int64)), .second, .unset, .unset, .unset, .unset, .unset, .unset, .unset, .unset, .unset, .unset, .unset, .unset, .unset, .unset, .unset, .unset] [])) (fun _ k => XS.ifNo X0.here hx rfl (hb hby at_45) rfl (Jvm.Free.XT.i0_eq_f q2) k) ?_
      refine own_st (T' := s₁) (g' := (mkF m 50 #[.val (.long e1), .second, .val (.long f2), .second, .val (.long f3), .second, .val (.long e4), .second, .val (.int p4), .val (.long (-9223372036854775808 : Int64)), .second, .unset, .unset, .unset, .unset, .unset, .unset, .unset, .unset, .unset, .unset, .unset, .unset, .unset, .unset, .unset, .unset] [(.long (-9223372036854775808 : Int64))])) (fun _ k => XS.lload X0.here hx rfl (hb hby at_48) rfl k) ?_
      refine own_st (T' := s₁) (g' := (mkF m 52 #[.val (.long e1), .second, .val (.long f2), .second, .val (.long f3), .second, .val (.long (-9223372036854775808 : Int64)), .second, .val (.int p4), .val (.long (-9223372036854775808 : Int64)), .second, .unset, .unset, .unset, .unset, .unset, .unset, .unset, .unset, .unset, .unset, .unset, .unset, .unset, .unset, .unset, .unset] [])) (fun _ k => XS.lstore X0.here hx rfl (hb hby at_50) rfl (l' := #[.val (.long e1), .second, .val (.long f2), .second, .val (.long f3), .second, .val (.long (-9223372036854775808 : Int64)), .second, .val (.int p4), .val (.long (-9223372036854775808 : Int64)), .second, .unset, .unset, .unset, .unset, .unset, .unset, .unset, .unset, .unset, .unset, .unset, .unset, .unset, .unset, .unset, .unset]) rfl k) ?_
      exact J52 _
  by_cases q1 : (p4 &&& (16 : Int32)) = (0 : Int32)
  · refine own_st (T' := s₁) (g' := (mkF m 41 #[.val (.long p0), .second, .val (.long p1), .second, .val (.long p2), .second, .val (.long p3), .second, .val (.int p4), .val (.long (-9223372036854775808 : Int64)), .second, .unset, .unset, .unset, .unset, .unset, .unset, .unset, .unset, .unset, .unset, .unset, .unset, .unset, .unset, .unset, .unset] [])) (fun _ k => XS.ifYes X0.here hx rfl (pc0 := 10) (pc' := 41) rfl (hb hby at_10) rfl (Jvm.Free.XT.i0_eq_t q1) (by decide) (by decide) k) ?_
    exact J41 _ _ _ _
  · refine own_st (T' := s₁) (g' := (mkF m 13 #[.val (.long p0), .second, .val (.long p1), .second, .val (.long p2), .second, .val (.long p3), .second, .val (.int p4), .val (.long (-9223372036854775808 : Int64)), .second, .unset, .unset, .unset, .unset, .unset, .unset, .unset, .unset, .unset, .unset, .unset, .unset, .unset, .unset, .unset, .unset] [])) (fun _ k => XS.ifNo X0.here hx rfl (hb hby at_10) rfl (Jvm.Free.XT.i0_eq_f q1) k) ?_
    refine own_st (T' := s₁) (g' := (mkF m 14 #[.val (.long p0), .second, .val (.long p1), .second, .val (.long p2), .second, .val (.long p3), .second, .val (.int p4), .val (.long (-9223372036854775808 : Int64)), .second, .unset, .unset, .unset, .unset, .unset, .unset, .unset, .unset, .unset, .unset, .unset, .unset, .unset, .unset, .unset, .unset] [(.long p0)])) (fun _ k => XS.lloadN X0.here hx rfl (hb hby at_13) rfl k) ?_
    refine own_st (T' := s₁) (g' := (mkF m 17 #[.val (.long p0), .second, .val (.long p1), .second, .val (.long p2), .second, .val (.long p3), .second, .val (.int p4), .val (.long (-9223372036854775808 : Int64)), .second, .unset, .unset, .unset, .unset, .unset, .unset, .unset, .unset, .unset, .unset, .unset, .unset, .unset, .unset, .unset, .unset] [(.long (3 : Int64)), (.long p0)])) (X0.ldc2Long hx hown (mvT hZ (hw _ (List.mem_of_getElem? (i := 75) rfl))) (g := (mkF m 14 #[.val (.long p0), .second, .val (.long p1), .second, .val (.long p2), .second, .val (.long p3), .second, .val (.int p4), .val (.long (-9223372036854775808 : Int64)), .second, .unset, .unset, .unset, .unset, .unset, .unset, .unset, .unset, .unset, .unset, .unset, .unset, .unset, .unset, .unset, .unset] [(.long p0)])) rfl (hb hby at_14)) ?_
    refine own_st (T' := s₁) (g' := (mkF m 18 #[.val (.long p0), .second, .val (.long p1), .second, .val (.long p2), .second, .val (.long p3), .second, .val (.int p4), .val (.long (-9223372036854775808 : Int64)), .second, .unset, .unset, .unset, .unset, .unset, .unset, .unset, .unset, .unset, .unset, .unset, .unset, .unset, .unset, .unset, .unset] [(.long (p0 &&& (3 : Int64)))])) (fun _ k => XS.land X0.here hx rfl (hb hby at_17) rfl k) ?_
    refine own_st (T' := s₁) (g' := (mkF m 19 #[.val (.long (p0 &&& (3 : Int64))), .second, .val (.long p1), .second, .val (.long p2), .second, .val (.long p3), .second, .val (.int p4), .val (.long (-9223372036854775808 : Int64)), .second, .unset, .unset, .unset, .unset, .unset, .unset, .unset, .unset, .unset, .unset, .unset, .unset, .unset, .unset, .unset, .unset] [])) (fun _ k => XS.lstoreN X0.here hx rfl (hb hby at_18) rfl (l' := #[.val (.long (p0 &&& (3 : Int64))), .second, .val (.long p1), .second, .val (.long p2), .second, .val (.long p3), .second, .val (.int p4), .val (.long (-9223372036854775808 : Int64)), .second, .unset, .unset, .unset, .unset, .unset, .unset, .unset, .unset, .unset, .unset, .unset, .unset, .unset, .unset, .unset, .unset]) rfl k) ?_
    refine own_st (T' := s₁) (g' := (mkF m 20 #[.val (.long (p0 &&& (3 : Int64))), .second, .val (.long p1), .second, .val (.long p2), .second, .val (.long p3), .second, .val (.int p4), .val (.long (-9223372036854775808 : Int64)), .second, .unset, .unset, .unset, .unset, .unset, .unset, .unset, .unset, .unset, .unset, .unset, .unset, .unset, .unset, .unset, .unset] [(.long p1)])) (fun _ k => XS.lloadN X0.here hx rfl (hb hby at_19) rfl k) ?_
    refine own_st (T' := s₁) (g' := (mkF m 23 #[.val (.long (p0 &&& (3 : Int64))), .second, .val (.long p1), .second, .val (.long p2), .second, .val (.long p3), .second, .val (.int p4), .val (.long (-9223372036854775808 : Int64)), .second, .unset, .unset, .unset, .unset, .unset, .unset, .unset, .unset, .unset, .unset, .unset, .unset, .unset, .unset, .unset, .unset] [(.long (3 : Int64)), (.long p1)])) (X0.ldc2Long hx hown (mvT hZ (hw _ (List.mem_of_getElem? (i := 75) rfl))) (g := (mkF m 20 #[.val (.long (p0 &&& (3 : Int64))), .second, .val (.long p1), .second, .val (.long p2), .second, .val (.long p3), .second, .val (.int p4), .val (.long (-9223372036854775808 : Int64)), .second, .unset, .unset, .unset, .unset, .unset, .unset, .unset, .unset, .unset, .unset, .unset, .unset, .unset, .unset, .unset, .unset] [(.long p1)])) rfl (hb hby at_20)) ?_
    refine own_st (T' := s₁) (g' := (mkF m 24 #[.val (.long (p0 &&& (3 : Int64))), .second, .val (.long p1), .second, .val (.long p2), .second, .val (.long p3), .second, .val (.int p4), .val (.long (-9223372036854775808 : Int64)), .second, .unset, .unset, .unset, .unset, .unset, .unset, .unset, .unset, .unset, .unset, .unset, .unset, .unset, .unset, .unset, .unset] [(.long (p1 &&& (3 : Int64)))])) (fun _ k => XS.land X0.here hx rfl (hb hby at_23) rfl k) ?_
    refine own_st (T' := s₁) (g' := (mkF m 25 #[.val (.long (p0 &&& (3 : Int64))), .second, .val (.long (p1 &&& (3 : Int64))), .second, .val (.long p2), .second, .val (.long p3), .second, .val (.int p4), .val (.long (-9223372036854775808 : Int64)), .second, .unset, .unset, .unset, .unset, .unset, .unset, .unset, .unset, .unset, .unset, .unset, .unset, .unset, .unset, .unset, .unset] [])) (fun _ k => XS.lstoreN X0.here hx rfl (hb hby at_24) rfl (l' := #[.val (.long (p0 &&& (3 : Int64))), .second, .val (.long (p1 &&& (3 : Int64))), .second, .val (.long p2), .second, .val (.long p3), .second, .val (.int p4), .val (.long (-9223372036854775808 : Int64)), .second, .unset, .unset, .unset, .unset, .unset, .unset, .unset, .unset, .unset, .unset, .unset, .unset, .unset, .unset, .unset, .unset]) rfl k) ?_
    refine own_st (T' := s₁) (g' := (mkF m 27 #[.val (.long (p0 &&& (3 : Int64))), .second, .val (.long (p1 &&& (3 : Int64))), .second, .val (.long p2), .second, .val (.long p3), .second, .val (.int p4), .val (.long (-9223372036854775808 : Int64)), .second, .unset, .unset, .unset, .unset, .unset, .unset, .unset, .unset, .unset, .unset, .unset, .unset, .unset, .unset, .unset, .unset] [(.long p2)])) (fun _ k => XS.lload X0.here hx rfl (hb hby at_25) rfl k) ?_
    refine own_st (T' := s₁) (g' := (mkF m 30 #[.val (.long (p0 &&& (3 : Int64))), .second, .val (.long (p1 &&& (3 : Int64))), .second, .val (.long p2), .second, .val (.long p3), .second, .val (.int p4), .val (.long (-9223372036854775808 : Int64)), .second, .unset, .unset, .unset, .unset, .unset, .unset, .unset, .unset, .unset, .unset, .unset, .unset, .unset, .unset, .unset, .unset] [(.long (3 : Int64)), (.long p2)])) (X0.ldc2Long hx hown (mvT hZ (hw _ (List.mem_of_getElem? (i := 75) rfl))) (g := (mkF m 27 #[.val (.long (p0 &&& (3 : Int64))), .second, .val (.long (p1 &&& (3 : Int64))), .second, .val (.long p2), .second, .val (.long p3), .second, .val (.int p4), .val (.long (-9223372036854775808 : Int64)), .second, .unset, .unset, .unset, .unset, .unset, .unset, .unset, .unset, .unset, .unset, .unset, .unset, .unset, .unset, .unset, .unset] [(.long p2)])) rfl (hb hby at_27)) ?_
    refine own_st (T' := s₁) (g' := (mkF m 31 #[.val (.long (p0 &&& (3 : Int64))), .second, .val (.long (p1 &&& (3 : Int64))), .second, .val (.long p2), .second, .val (.long p3), .second, .val (.int p4), .val (.long (-9223372036854775808 : Int64)), .second, .unset, .unset, .unset, .unset, .unset, .unset, .unset, .unset, .unset, .unset, .unset, .unset, .unset, .unset, .unset, .unset] [(.long (p2 &&& (3 : Int64)))])) (fun _ k => XS.land X0.here hx rfl (hb hby at_30) rfl k) ?_
    refine own_st (T' := s₁) (g' := (mkF m 33 #[.val (.long (p0 &&& (3 : Int64))), .second, .val (.long (p1 &&& (3 : Int64))), .second, .val (.long (p2 &&& (3 : Int64))), .second, .val (.long p3), .second, .val (.int p4), .val (.long (-9223372036854775808 : Int64)), .second, .unset, .unset, .unset, .unset, .unset, .unset, .unset, .unset, .unset, .unset, .unset, .unset, .unset, .unset, .unset, .unset] [])) (fun _ k => XS.lstore X0.here hx rfl (hb hby at_31) rfl (l' := #[.val (.long (p0 &&& (3 : Int64))), .second, .val (.long (p1 &&& (3 : Int64))), .second, .val (.long (p2 &&& (3 : Int64))), .second, .val (.long p3), .second, .val (.int p4), .val (.long (-9223372036854775808 : Int64)), .second, .unset, .unset, .unset, .unset, .unset, .unset, .unset, .unset, .unset, .unset, .unset, .unset, .unset, .unset, .unset, .unset]) rfl k) ?_
    refine own_st (T' := s₁) (g' := (mkF m 35 #[.val (.long (p0 &&& (3 : Int64))), .second, .val (.long (p1 &&& (3 : Int64))), .second, .val (.long (p2 &&& (3 : Int64))), .second, .val (.long p3), .second, .val (.int p4), .val (.long (-9223372036854775808 : Int64)), .second, .unset, .unset, .unset, .unset, .unset, .unset, .unset, .unset, .unset, .unset, .unset, .unset, .unset, .unset, .unset, .unset] [(.long p3)])) (fun _ k => XS.lload X0.here hx rfl (hb hby at_33) rfl k) ?_
    refine own_st (T' := s₁) (g' := (mkF m 38 #[.val (.long (p0 &&& (3 : Int64))), .second, .val (.long (p1 &&& (3 : Int64))), .second, .val (.long (p2 &&& (3 : Int64))), .second, .val (.long p3), .second, .val (.int p4), .val (.long (-9223372036854775808 : Int64)), .second, .unset, .unset, .unset, .unset, .unset, .unset, .unset, .unset, .unset, .unset, .unset, .unset, .unset, .unset, .unset, .unset] [(.long (3 : Int64)), (.long p3)])) (X0.ldc2Long hx hown (mvT hZ (hw _ (List.mem_of_getElem? (i := 75) rfl))) (g := (mkF m 35 #[.val (.long (p0 &&& (3 : Int64))), .second, .val (.long (p1 &&& (3 : Int64))), .second, .val (.long (p2 &&& (3 : Int64))), .second, .val (.long p3), .second, .val (.int p4), .val (.long (-9223372036854775808 : Int64)), .second, .unset, .unset, .unset, .unset, .unset, .unset, .unset, .unset, .unset, .unset, .unset, .unset, .unset, .unset, .unset, .unset] [(.long p3)])) rfl (hb hby at_35)) ?_
    refine own_st (T' := s₁) (g' := (mkF m 39 #[.val (.long (p0 &&& (3 : Int64))), .second, .val (.long (p1 &&& (3 : Int64))), .second, .val (.long (p2 &&& (3 : Int64))), .second, .val (.long p3), .second, .val (.int p4), .val (.long (-9223372036854775808 : Int64)), .second, .unset, .unset, .unset, .unset, .unset, .unset, .unset, .unset, .unset, .unset, .unset, .unset, .unset, .unset, .unset, .unset] [(.long (p3 &&& (3 : Int64)))])) (fun _ k => XS.land X0.here hx rfl (hb hby at_38) rfl k) ?_
    refine own_st (T' := s₁) (g' := (mkF m 41 #[.val (.long (p0 &&& (3 : Int64))), .second, .val (.long (p1 &&& (3 : Int64))), .second, .val (.long (p2 &&& (3 : Int64))), .second, .val (.long (p3 &&& (3 : Int64))), .second, .val (.int p4), .val (.long (-9223372036854775808 : Int64)), .second, .unset, .unset, .unset, .unset, .unset, .unset, .unset, .unset, .unset, .unset, .unset, .unset, .unset, .unset, .unset, .unset] [])) (fun _ k => XS.lstore X0.here hx rfl (hb hby at_39) rfl (l' := #[.val (.long (p0 &&& (3 : Int64))), .second, .val (.long (p1 &&& (3 : Int64))), .second, .val (.long (p2 &&& (3 : Int64))), .second, .val (.long (p3 &&& (3 : Int64))), .second, .val (.int p4), .val (.long (-9223372036854775808 : Int64)), .second, .unset, .unset, .unset, .unset, .unset, .unset, .unset, .unset, .unset, .unset, .unset, .unset, .unset, .unset, .unset, .unset]) rfl k) ?_
    exact J41 _ _ _ _
set_option maxRecDepth 65536 in
set_option maxHeartbeats 40000000 in
theorem comes_1 {Post : Tables → Env → Array Value → State → Outcome → State → Prop} (hpost : ∀ tb e args s v u, (limb_1_1.after args s (.returned v) u = true ∧ limb_1_2.after args s (.returned v) u = true ∧ True) → FrameEnd s (.returned v) u (Jvm.fieldLocs frame_1_writes args s ++ Jvm.arrayLocs frame_1_arrays args s ++ Jvm.staticLocs frame_1_statics s) 24 192 → Post tb e args s (.returned v) u) :
    ArmFor flags0 classFile x code maxLocals ret World_1 tables_1 room_1 Calls_1 rest_1 Pre_1 Post := by
  intro l hfl _ _ p e ha hc hk s m args below hf hA hF happ hP
  obtain ⟨hcalls, hrest, hpre⟩ := hP
  obtain ⟨-, -, -, hnamed, -, -, -, hat⟩ := (Spec.applies_iff hf).mp happ
  obtain ⟨hg, hn⟩ := and_e (Cond.before_iff.mp (show (Jvm.Cond.and given_1 narrow_1).before args s = true from hpre))
  obtain ⟨hcount, r0⟩ := and_e hg
  obtain ⟨hk0, r1⟩ := and_e r0
  obtain ⟨hk1, r2⟩ := and_e r1
  obtain ⟨hk2, r3⟩ := and_e r2
  obtain ⟨hk3, r4⟩ := and_e r3
  have hk4 := r4
  obtain ⟨w0, w1, w2, w3, w4, rfl⟩ : ∃ w0 w1 w2 w3 w4 : Value, args = #[w0, w1, w2, w3, w4] := by
    have hs : args.size = 5 := by simpa [Cond.value, given_1] using hcount
    obtain ⟨L⟩ := args
    match L, hs with
    | [w0, w1, w2, w3, w4], _ => exact ⟨w0, w1, w2, w3, w4, rfl⟩
  have hw := fun d (hd : d ∈ tables_1) => atoms_spec (ws := Jvm.Cond.code x code maxLocals ret :: tables_1) hat d (List.mem_cons_of_mem _ hd)
  have hfit : Fit s := fun {y c} hc i hi => by
    obtain ⟨ha, rfl⟩ := Array.getElem?_eq_some_iff.mp hc
    have q := List.all_eq_true.mp ((Array.all_eq_true_iff_forall_mem.mp hF) _ (Array.getElem_mem ha)) i (List.mem_range.mpr hi)
    simpa [Array.getElem?_eq_getElem hi] using q
  obtain ⟨i0, ei0⟩ := isL_v hk0
  obtain rfl : w0 = (.long i0) := Option.some.inj ei0
  obtain ⟨i1, ei1⟩ := isL_v hk1
  obtain rfl : w1 = (.long i1) := Option.some.inj ei1
  obtain ⟨i2, ei2⟩ := isL_v hk2
  obtain rfl : w2 = (.long i2) := Option.some.inj ei2
  obtain ⟨i3, ei3⟩ := isL_v hk3
  obtain rfl : w3 = (.long i3) := Option.some.inj ei3
  obtain ⟨i4, ei4⟩ := is_v hk4
  obtain rfl : w4 = (.int i4) := Option.some.inj ei4
  obtain ⟨n, o, h1, h2, h3, _, L, rfl, ⟨rfl, N⟩, hq⟩ := own_law l s _ hw tables_1 i0 i1 i2 i3 i4 s.heap s.heap.size (Nat.le_refl _) p e ha hc hk s m _ below hf ((Spec.applies_iff_loose hf).mp happ).1 ⟨rfl, State.Warmed39.refl s, rfl⟩ trivial
  refine ⟨n, _, h1, h2, h3, hpost _ _ _ _ _ _ ⟨Cond.after_iff.mpr rfl, Cond.after_iff.mpr (eq_i res_at (Term.int_eval (1)) rfl), trivial⟩ ⟨hq.1, hq.2.1, (hq.2.2.sift fun y hy => Or.inr (N y hy)).mono (by decide) (by decide)⟩⟩
theorem main_1_1 : Claimed_1_1 := comes_1 fun _ _ _ _ _ _ h hF => ⟨h.1, hF⟩
theorem main_1_2 : Claimed_1_2 := comes_1 fun _ _ _ _ _ _ h hF => ⟨h.2.1, hF⟩
end Jvm.Pilot.@@N@@
namespace Jvm.Pilot.@@N@@
open Jvm Jvm.ClassFile Sem Op Lib Jvm.Free Jvm.Stand Jvm.Pilot.@@N@@.Jvm.D
/-! MADE BY PROGRAM (witnessworld.py) out of the Statement's table words and the real class files: 12 classes; the members and pool entries that the words name. The judged class is class 1, her method 1. -/
namespace start1
open Jvm.ClassFile
def u (s : String) : CpInfo := .utf8 (stringToUtf16 s)
/-- a pool by its gaps: so many unusable entries, then the entry; so many at the end -/
def gap : Nat → List CpInfo → List CpInfo
  | 0, r => r
  | n + 1, r => .unusable :: gap n r
def poolList (es : List (Nat × CpInfo)) (last : Nat) : List CpInfo := es.foldr (fun e r => gap e.1 (e.2 :: r)) (gap last [])
def pool (es : List (Nat × CpInfo)) (last : Nat) : Array CpInfo := ⟨poolList es last⟩
def fileOf (pool : Array CpInfo) (this : Nat) (attrs : Array Attribute := #[]) (ms : Array MethodInfo := #[]) (fl : Nat := 33) (sup : Nat := 0) (ifs : Array Nat := #[]) (fds : Array FieldInfo := #[]) : ClassFile where
  minorVersion := 0
  majorVersion := 65
  constantPool := pool
  accessFlags := fl
  thisClass := this
  superClass := sup
  interfaces := ifs
  fields := fds
  methods := ms
  attributes := attrs
def plain (name : String) (sup : Option ClassId) : Class where
  name := name
  kind := .ordinary
  loader := none
  accessFlags := 33
  super := sup
  interfaces := #[]
  cf := none
  fields := #[]
  methods := #[]
  instanceTypes := #[]
  staticTypes := #[]
  resolved := #[]
  callSites := []
  init := .initialized
  statics := none
  mirror := none

def pool0 : Array CpInfo := pool [(5, u "<init>"), (0, u "()V"), (1, .class_ 10), (1, u "java/lang/Object")] 113

def k0c0 : Code := { maxStack := 0, maxLocals := 1, code := object_method_1_code, exceptionTable := #[], attributes := #[] }
def k0m0 : Method := { name := "<init>", desc := "()V", sig := { parameters := [], returnType := none }, accessFlags := 1, code := some k0c0 }
/-- java/lang/Object -/
def k0 : Class := { plain "java/lang/Object" none with
  accessFlags := 33
  interfaces := #[]
  cf := some (fileOf pool0 8 #[] #[{ accessFlags := 1, nameIndex := 5, descriptorIndex := 6, attributes := #[] }] 33 0 #[] #[])
  fields := #[]
  methods := #[k0m0]
  instanceTypes := #[]
  staticTypes := #[]
  resolved := Array.replicate 124 none
  statics := none }

def pool1 : Array CpInfo := pool [(2, .class_ 4), (0, .nameAndType 5 6), (0, u "java/lang/Object"), (0, u "<init>"), (0, u "()V"), (2, .long 9223372036854775808), (1, .long 3), (1, .class_ 14), (0, u "com/example/ovrdue/ovrdue/keyspace/DeadlineIndex"), (0, .methodref 13 3), (0, .class_ 17), (0, u "com/example/ovrdue/ovrdue/keyspace/Entry"), (0, .methodref 16 19), (0, .nameAndType 5 20), (0, u "(Lcom/example/ovrdue/ovrdue/keyspace/Key;Lcom/example/ovrdue/ovrdue/keyspace/Value;)V"), (0, .methodref 13 22), (0, .nameAndType 23 24), (0, u "set"), (0, u "(Lcom/example/ovrdue/ovrdue/keyspace/Entry;J)V"), (0, .methodref 13 26), (0, .nameAndType 27 28), (0, u "first"), (0, u "()Lcom/example/ovrdue/ovrdue/keyspace/Entry;"), (0, .long 9223372036854775807), (1, .methodref 32 33), (0, .class_ 34), (0, .nameAndType 35 36), (0, u "java/lang/Math"), (0, u "min"), (0, u "(JJ)J"), (0, .class_ 38), (0, u "com/example/ovrdue/ovrdue/keyspace/DeadlineIndexFirstPinLaw"), (2, u "law"), (0, u "(JJJJI)Z")] 3

def k1m0 : Method := { name := "<init>", desc := "()V", sig := { parameters := [], returnType := none }, accessFlags := 2, code := none }
def k1c1 : Code := { maxStack := 4, maxLocals := 27, code := code, exceptionTable := #[], attributes := #[] }
def k1m1 : Method := { name := "law", desc := "(JJJJI)Z", sig := { parameters := [.long, .long, .long, .long, .int], returnType := some .boolean }, accessFlags := 9, code := some k1c1 }
/-- com/example/ovrdue/ovrdue/keyspace/DeadlineIndexFirstPinLaw -/
def k1 : Class := { plain "com/example/ovrdue/ovrdue/keyspace/DeadlineIndexFirstPinLaw" (some 0) with
  accessFlags := 49
  interfaces := #[]
  cf := some (fileOf pool1 37 #[] #[{ accessFlags := 2, nameIndex := 5, descriptorIndex := 6, attributes := #[] }, { accessFlags := 9, nameIndex := 41, descriptorIndex := 42, attributes := #[] }] 49 2 #[] #[])
  fields := #[]
  methods := #[k1m0, k1m1]
  instanceTypes := #[]
  staticTypes := #[]
  resolved := Array.replicate 46 none
  statics := none }

def pool2 : Array CpInfo := pool [(1, .methodref 2 3), (0, .class_ 4), (0, .nameAndType 5 6), (0, u "java/lang/Object"), (0, u "<init>"), (0, u "()V"), (0, .class_ 8), (0, u "com/example/ovrdue/ovrdue/keyspace/DeadlineIndex"), (0, .class_ 10), (0, u "com/example/ovrdue/ovrdue/keyspace/Entry"), (0, .fieldref 7 12), (0, .nameAndType 13 14), (0, u "heap"), (0, u "[Lcom/example/ovrdue/ovrdue/keyspace/Entry;"), (0, .fieldref 7 16), (0, .nameAndType 17 18), (0, u "size"), (0, u "I"), (0, .long 9223372036854775808), (1, .methodref 7 22), (0, .nameAndType 23 24), (0, u "remove"), (0, u "(Lcom/example/ovrdue/ovrdue/keyspace/Entry;)V"), (0, .methodref 9 26), (0, .nameAndType 27 28), (0, u "hasDeadline"), (0, u "()Z"), (0, .methodref 7 30), (0, .nameAndType 31 32), (0, u "add"), (0, u "(Lcom/example/ovrdue/ovrdue/keyspace/Entry;J)V"), (0, .fieldref 9 34), (0, .nameAndType 35 36), (0, u "deadline"), (0, u "J"), (0, .fieldref 9 38), (0, .nameAndType 39 18), (0, u "place"), (0, .methodref 7 41), (0, .nameAndType 42 43), (0, u "siftUp"), (0, u "(Lcom/example/ovrdue/ovrdue/keyspace/Entry;I)V"), (0, .methodref 7 45), (0, .nameAndType 46 43), (0, u "siftDown"), (7, .methodref 7 55), (0, .nameAndType 56 43), (0, u "put"), (0, u "INITIAL_CAPACITY"), (5, u "first"), (0, u "()Lcom/example/ovrdue/ovrdue/keyspace/Entry;"), (1, u "set")] 3

def k2c0 : Code := { maxStack := 2, maxLocals := 1, code := prog_6_method_1_code, exceptionTable := #[], attributes := #[] }
def k2m0 : Method := { name := "<init>", desc := "()V", sig := { parameters := [], returnType := none }, accessFlags := 0, code := some k2c0 }
def k2c1 : Code := { maxStack := 2, maxLocals := 1, code := prog_6_method_3_code, exceptionTable := #[], attributes := #[] }
def k2m1 : Method := { name := "first", desc := "()Lcom/example/ovrdue/ovrdue/keyspace/Entry;", sig := { parameters := [], returnType := some (.object "com/example/ovrdue/ovrdue/keyspace/Entry") }, accessFlags := 0, code := some k2c1 }
def k2c2 : Code := { maxStack := 4, maxLocals := 6, code := prog_6_method_4_code, exceptionTable := #[], attributes := #[] }
def k2m2 : Method := { name := "set", desc := "(Lcom/example/ovrdue/ovrdue/keyspace/Entry;J)V", sig := { parameters := [(.object "com/example/ovrdue/ovrdue/keyspace/Entry"), .long], returnType := none }, accessFlags := 0, code := some k2c2 }
def k2c3 : Code := { maxStack := 4, maxLocals := 4, code := prog_6_method_6_code, exceptionTable := #[], attributes := #[] }
def k2m3 : Method := { name := "add", desc := "(Lcom/example/ovrdue/ovrdue/keyspace/Entry;J)V", sig := { parameters := [(.object "com/example/ovrdue/ovrdue/keyspace/Entry"), .long], returnType := none }, accessFlags := 2, code := some k2c3 }
def k2c4 : Code := { maxStack := 3, maxLocals := 4, code := prog_6_method_7_code, exceptionTable := #[], attributes := #[] }
def k2m4 : Method := { name := "remove", desc := "(Lcom/example/ovrdue/ovrdue/keyspace/Entry;)V", sig := { parameters := [(.object "com/example/ovrdue/ovrdue/keyspace/Entry")], returnType := none }, accessFlags := 2, code := some k2c4 }
def k2c5 : Code := { maxStack := 4, maxLocals := 5, code := prog_6_method_8_code, exceptionTable := #[], attributes := #[] }
def k2m5 : Method := { name := "siftUp", desc := "(Lcom/example/ovrdue/ovrdue/keyspace/Entry;I)V", sig := { parameters := [(.object "com/example/ovrdue/ovrdue/keyspace/Entry"), .int], returnType := none }, accessFlags := 2, code := some k2c5 }
def k2c6 : Code := { maxStack := 4, maxLocals := 5, code := prog_6_method_9_code, exceptionTable := #[], attributes := #[] }
def k2m6 : Method := { name := "siftDown", desc := "(Lcom/example/ovrdue/ovrdue/keyspace/Entry;I)V", sig := { parameters := [(.object "com/example/ovrdue/ovrdue/keyspace/Entry"), .int], returnType := none }, accessFlags := 2, code := some k2c6 }
def k2c7 : Code := { maxStack := 3, maxLocals := 3, code := prog_6_method_10_code, exceptionTable := #[], attributes := #[] }
def k2m7 : Method := { name := "put", desc := "(Lcom/example/ovrdue/ovrdue/keyspace/Entry;I)V", sig := { parameters := [(.object "com/example/ovrdue/ovrdue/keyspace/Entry"), .int], returnType := none }, accessFlags := 2, code := some k2c7 }
/-- com/example/ovrdue/ovrdue/keyspace/DeadlineIndex -/
def k2 : Class := { plain "com/example/ovrdue/ovrdue/keyspace/DeadlineIndex" (some 0) with
  accessFlags := 48
  interfaces := #[]
  cf := some (fileOf pool2 7 #[] #[{ accessFlags := 0, nameIndex := 5, descriptorIndex := 6, attributes := #[] }, { accessFlags := 0, nameIndex := 63, descriptorIndex := 64, attributes := #[] }, { accessFlags := 0, nameIndex := 66, descriptorIndex := 32, attributes := #[] }, { accessFlags := 2, nameIndex := 31, descriptorIndex := 32, attributes := #[] }, { accessFlags := 2, nameIndex := 23, descriptorIndex := 24, attributes := #[] }, { accessFlags := 2, nameIndex := 42, descriptorIndex := 43, attributes := #[] }, { accessFlags := 2, nameIndex := 46, descriptorIndex := 43, attributes := #[] }, { accessFlags := 2, nameIndex := 56, descriptorIndex := 43, attributes := #[] }] 48 2 #[] #[{ accessFlags := 26, nameIndex := 57, descriptorIndex := 18, attributes := #[] }, { accessFlags := 2, nameIndex := 13, descriptorIndex := 14, attributes := #[] }, { accessFlags := 2, nameIndex := 17, descriptorIndex := 18, attributes := #[] }])
  fields := #[{ name := "INITIAL_CAPACITY", type := .int, accessFlags := 26, slot := 0, constantValue := 0 }, { name := "heap", type := (.array (.object "com/example/ovrdue/ovrdue/keyspace/Entry")), accessFlags := 2, slot := 0, constantValue := 0 }, { name := "size", type := .int, accessFlags := 2, slot := 1, constantValue := 0 }]
  methods := #[k2m0, k2m1, k2m2, k2m3, k2m4, k2m5, k2m6, k2m7]
  instanceTypes := #[(.array (.object "com/example/ovrdue/ovrdue/keyspace/Entry")), .int]
  staticTypes := #[.int]
  resolved := Array.replicate 70 none
  statics := none }

def pool3 : Array CpInfo := pool [(3, .methodref 4 5), (0, .class_ 6), (0, .nameAndType 7 8), (0, u "java/lang/Object"), (0, u "<init>"), (0, u "()V"), (0, .class_ 10), (0, u "com/example/ovrdue/ovrdue/keyspace/Entry"), (0, .long 9223372036854775808), (1, .fieldref 9 14), (0, .nameAndType 15 16), (0, u "deadline"), (0, u "J"), (0, .fieldref 9 18), (0, .nameAndType 19 20), (0, u "key"), (0, u "Lcom/example/ovrdue/ovrdue/keyspace/Key;"), (0, .fieldref 9 22), (0, .nameAndType 23 24), (0, u "value"), (0, u "Lcom/example/ovrdue/ovrdue/keyspace/Value;"), (0, u "NONE"), (1, u "place"), (0, u "I"), (0, u "snapshot"), (0, u "older"), (0, u "Lcom/example/ovrdue/ovrdue/keyspace/Entry;"), (0, u "newer"), (0, u "(Lcom/example/ovrdue/ovrdue/keyspace/Key;Lcom/example/ovrdue/ovrdue/keyspace/Value;)V"), (2, u "hasDeadline"), (0, u "()Z")] 3

def k3c0 : Code := { maxStack := 3, maxLocals := 3, code := prog_8_method_1_code, exceptionTable := #[], attributes := #[] }
def k3m0 : Method := { name := "<init>", desc := "(Lcom/example/ovrdue/ovrdue/keyspace/Key;Lcom/example/ovrdue/ovrdue/keyspace/Value;)V", sig := { parameters := [(.object "com/example/ovrdue/ovrdue/keyspace/Key"), (.object "com/example/ovrdue/ovrdue/keyspace/Value")], returnType := none }, accessFlags := 0, code := some k3c0 }
def k3c1 : Code := { maxStack := 4, maxLocals := 1, code := prog_8_method_2_code, exceptionTable := #[], attributes := #[] }
def k3m1 : Method := { name := "hasDeadline", desc := "()Z", sig := { parameters := [], returnType := some .boolean }, accessFlags := 0, code := some k3c1 }
/-- com/example/ovrdue/ovrdue/keyspace/Entry -/
def k3 : Class := { plain "com/example/ovrdue/ovrdue/keyspace/Entry" (some 0) with
  accessFlags := 48
  interfaces := #[]
  cf := some (fileOf pool3 9 #[] #[{ accessFlags := 0, nameIndex := 7, descriptorIndex := 33, attributes := #[] }, { accessFlags := 0, nameIndex := 36, descriptorIndex := 37, attributes := #[] }] 48 4 #[] #[{ accessFlags := 24, nameIndex := 25, descriptorIndex := 16, attributes := #[] }, { accessFlags := 16, nameIndex := 19, descriptorIndex := 20, attributes := #[] }, { accessFlags := 0, nameIndex := 23, descriptorIndex := 24, attributes := #[] }, { accessFlags := 0, nameIndex := 15, descriptorIndex := 16, attributes := #[] }, { accessFlags := 0, nameIndex := 27, descriptorIndex := 28, attributes := #[] }, { accessFlags := 0, nameIndex := 29, descriptorIndex := 28, attributes := #[] }, { accessFlags := 0, nameIndex := 30, descriptorIndex := 31, attributes := #[] }, { accessFlags := 0, nameIndex := 32, descriptorIndex := 31, attributes := #[] }])
  fields := #[{ name := "NONE", type := .long, accessFlags := 24, slot := 0, constantValue := 0 }, { name := "key", type := (.object "com/example/ovrdue/ovrdue/keyspace/Key"), accessFlags := 16, slot := 0, constantValue := 0 }, { name := "value", type := (.object "com/example/ovrdue/ovrdue/keyspace/Value"), accessFlags := 0, slot := 1, constantValue := 0 }, { name := "deadline", type := .long, accessFlags := 0, slot := 2, constantValue := 0 }, { name := "place", type := .int, accessFlags := 0, slot := 3, constantValue := 0 }, { name := "snapshot", type := .int, accessFlags := 0, slot := 4, constantValue := 0 }, { name := "older", type := (.object "com/example/ovrdue/ovrdue/keyspace/Entry"), accessFlags := 0, slot := 5, constantValue := 0 }, { name := "newer", type := (.object "com/example/ovrdue/ovrdue/keyspace/Entry"), accessFlags := 0, slot := 6, constantValue := 0 }]
  methods := #[k3m0, k3m1]
  instanceTypes := #[(.object "com/example/ovrdue/ovrdue/keyspace/Key"), (.object "com/example/ovrdue/ovrdue/keyspace/Value"), .long, .int, .int, (.object "com/example/ovrdue/ovrdue/keyspace/Entry"), (.object "com/example/ovrdue/ovrdue/keyspace/Entry")]
  staticTypes := #[.long]
  resolved := Array.replicate 41 none
  statics := none }

def pool4 : Array CpInfo := pool [(1, .class_ 2), (0, u "java/lang/Math"), (1, .class_ 6), (1, u "java/lang/Object"), (0, u "<init>"), (0, u "()V"), (89, .class_ 100), (1, u "java/lang/Math$RandomNumberGeneratorHolder"), (20, u "(JJ)J"), (50, u "negativeZeroFloatBits"), (0, u "J"), (2, u "negativeZeroDoubleBits"), (24, u "min"), (43, u "$assertionsDisabled"), (0, u "Z"), (91, u "twoToTheDoubleScaleDown"), (0, u "D"), (4, u "twoToTheDoubleScaleUp"), (9, u "E"), (3, u "PI"), (2, u "TAU"), (2, u "DEGREES_TO_RADIANS"), (0, u "RADIANS_TO_DEGREES")] 94

def k4m0 : Method := { name := "<init>", desc := "()V", sig := { parameters := [], returnType := none }, accessFlags := 2, code := none }
def k4c1 : Code := { maxStack := 4, maxLocals := 4, code := jdk_29_method_70_code, exceptionTable := #[], attributes := #[] }
def k4m1 : Method := { name := "min", desc := "(JJ)J", sig := { parameters := [.long, .long], returnType := some .long }, accessFlags := 9, code := some k4c1 }
/-- java/lang/Math -/
def k4 : Class := { plain "java/lang/Math" (some 0) with
  accessFlags := 49
  interfaces := #[]
  cf := some (fileOf pool4 1 #[.nestMembers #[98]] #[{ accessFlags := 2, nameIndex := 7, descriptorIndex := 8, attributes := #[] }, { accessFlags := 9, nameIndex := 201, descriptorIndex := 121, attributes := #[] }] 49 4 #[] #[{ accessFlags := 25, nameIndex := 354, descriptorIndex := 339, attributes := #[] }, { accessFlags := 25, nameIndex := 358, descriptorIndex := 339, attributes := #[] }, { accessFlags := 25, nameIndex := 361, descriptorIndex := 339, attributes := #[] }, { accessFlags := 26, nameIndex := 364, descriptorIndex := 339, attributes := #[] }, { accessFlags := 26, nameIndex := 365, descriptorIndex := 339, attributes := #[] }, { accessFlags := 26, nameIndex := 172, descriptorIndex := 173, attributes := #[] }, { accessFlags := 26, nameIndex := 176, descriptorIndex := 173, attributes := #[] }, { accessFlags := 8, nameIndex := 344, descriptorIndex := 339, attributes := #[] }, { accessFlags := 8, nameIndex := 338, descriptorIndex := 339, attributes := #[] }, { accessFlags := 4120, nameIndex := 245, descriptorIndex := 246, attributes := #[] }])
  fields := #[{ name := "E", type := .double, accessFlags := 25, slot := 0, constantValue := 0 }, { name := "PI", type := .double, accessFlags := 25, slot := 1, constantValue := 0 }, { name := "TAU", type := .double, accessFlags := 25, slot := 2, constantValue := 0 }, { name := "DEGREES_TO_RADIANS", type := .double, accessFlags := 26, slot := 3, constantValue := 0 }, { name := "RADIANS_TO_DEGREES", type := .double, accessFlags := 26, slot := 4, constantValue := 0 }, { name := "negativeZeroFloatBits", type := .long, accessFlags := 26, slot := 5, constantValue := 0 }, { name := "negativeZeroDoubleBits", type := .long, accessFlags := 26, slot := 6, constantValue := 0 }, { name := "twoToTheDoubleScaleUp", type := .double, accessFlags := 8, slot := 7, constantValue := 0 }, { name := "twoToTheDoubleScaleDown", type := .double, accessFlags := 8, slot := 8, constantValue := 0 }, { name := "$assertionsDisabled", type := .boolean, accessFlags := 4120, slot := 9, constantValue := 0 }]
  methods := #[k4m0, k4m1]
  instanceTypes := #[]
  staticTypes := #[.double, .double, .double, .double, .double, .long, .long, .double, .double, .boolean]
  resolved := Array.replicate 460 none
  statics := none }

def pool5 : Array CpInfo := pool [(1, u "java/lang/Cloneable"), (0, .class_ 1), (0, u "java/lang/Object"), (0, .class_ 3)] 3

/-- java/lang/Cloneable -/
def k5 : Class := { plain "java/lang/Cloneable" (some 0) with
  accessFlags := 1537
  interfaces := #[]
  cf := some (fileOf pool5 2 #[] #[] 1537 4 #[] #[])
  fields := #[]
  methods := #[]
  instanceTypes := #[]
  staticTypes := #[]
  resolved := Array.replicate 8 none
  statics := none }

def pool6 : Array CpInfo := pool [(1, u "java/io/Serializable"), (0, .class_ 1), (0, u "java/lang/Object"), (0, .class_ 3)] 3

/-- java/io/Serializable -/
def k6 : Class := { plain "java/io/Serializable" (some 0) with
  accessFlags := 1537
  interfaces := #[]
  cf := some (fileOf pool6 2 #[] #[] 1537 4 #[] #[])
  fields := #[]
  methods := #[]
  instanceTypes := #[]
  staticTypes := #[]
  resolved := Array.replicate 8 none
  statics := none }

/-- the primitive byte -/
def k7 : Class := { plain "byte" none with kind := .primitive 'B', accessFlags := 0x411 }
/-- [B -/
def k8 : Class := { plain "[B" (some 0) with kind := .array 7 .byte, interfaces := #[5, 6], accessFlags := 1041 }

/-- the primitive int -/
def k9 : Class := { plain "int" none with kind := .primitive 'I', accessFlags := 0x411 }
/-- [I -/
def k10 : Class := { plain "[I" (some 0) with kind := .array 9 .int, interfaces := #[5, 6], accessFlags := 1041 }

/-- [Lcom/example/ovrdue/ovrdue/keyspace/Entry; -/
def k11 : Class := { plain "[Lcom/example/ovrdue/ovrdue/keyspace/Entry;" (some 0) with kind := .array 3 (.object "com/example/ovrdue/ovrdue/keyspace/Entry"), interfaces := #[5, 6], accessFlags := 1041 }

def heap : Heap := #[]
def classes : Array Class := #[k0, k1, k2, k3, k4, k5, k6, k7, k8, k9, k10, k11]
def interned : List (Array UInt16 × Addr) := []
def slotsUsed : Nat := 0
def theMethod : MethodId := ⟨1, 1⟩
def args0 : Array Value := #[.long 5, .long 6, .long 7, .long 8, .int 3]
def aboutOver (below : List Frame) : State where
  vm := { classes := classes, interned := interned.toArray }
  heap := heap
  slotsUsed := slotsUsed
  threads := #[{ frames := .invoking theMethod args0 :: below }]
def below0 : List Frame := [.native { method := ⟨0, 0⟩, args := #[] }]
def about1 : State := aboutOver below0
def p0 : Program := .bare "" "" ""
def e0 : Env := launch0.env 0 0 0
theorem w_frames : about1.frames = Frame.invoking theMethod args0 :: below0 := rfl
set_option maxRecDepth 65536 in
theorem w_args : argsFit about1.vm theMethod args0 = true := by decide +kernel
set_option maxRecDepth 65536 in
theorem w_heap : heapFits about1 = true := by decide +kernel
set_option maxRecDepth 65536 in
theorem w_runnable : about1.curStatus? = some .runnable := by decide +kernel
set_option maxRecDepth 65536 in
theorem w_alone : about1.alone = true := by decide +kernel
set_option maxRecDepth 65536 in
theorem w_named : about1.methodNamed? x = some theMethod := by decide +kernel
set_option maxRecDepth 65536 in
theorem w_hears : about1.hears theMethod below0 = true := by decide +kernel
set_option maxRecDepth 65536 in
theorem w_ripe : about1.ripe theMethod args0 below0 = true := by decide +kernel
theorem w_running : about1.status = .running := rfl
set_option maxRecDepth 65536 in
theorem w_room : about1.hasRoom e0.platform room_1 = true :=
  launch0.hasRoom_least _ room_1 (by decide +kernel) (by decide +kernel) (by decide +kernel) (by decide +kernel) (by decide +kernel) (by decide +kernel)
theorem allAtoms_all (ts : List Jvm.Cond) (a : Array Jvm.Value) (st : Jvm.State) : (allAtoms ts).before a st = ts.all (fun c => c.before a st) := by
  induction ts with
  | nil => rfl
  | cons c t ih =>
    show (Jvm.Cond.and c (allAtoms t)).before a st = _
    rw [Jvm.Cond.before_and, ih, List.all_cons]
def words1 : List Jvm.Cond := Jvm.Cond.code x code maxLocals ret :: tables_1
/-- a 'code' word, met by the world's own term for the bytes: nothing is compared byte by byte -/
theorem code_word {y : MethodName} {bytes : ByteArray} {mx : Nat} {rt : Option FieldType} {a : Array Value} {s : State} {m : MethodId} {meth : Method} {c : Code} (h1 : s.methodNamed? y = some m) (h2 : s.vm.method? m = some meth) (h3 : meth.code = some c) (h4 : c.code = bytes)
    (h5 : (c.maxLocals == mx && c.exceptionTable.isEmpty && decide (c.maxStack ≤ mostOperands) && decide (meth.sig.returnType = rt) && !meth.locks && decide (parseMethodDescriptor y.desc = some meth.sig)) = true) : (Jvm.Cond.code y bytes mx rt).before a s = true := by
  simp only [Bool.and_eq_true, beq_iff_eq, Bool.not_eq_true', decide_eq_true_eq] at h5
  obtain ⟨⟨⟨⟨⟨g1, g2⟩, g3⟩, g4⟩, g5⟩, g6⟩ := h5
  simp [Cond.before, Cond.holds, Cond.value, h1, h2, h3, h4, g1, g2, g3, g4, g5, g6]
def isCode : Jvm.Cond → Bool
  | .code _ _ _ _ => true
  | _ => false
theorem all_split {L : List Jvm.Cond} {P : Jvm.Cond → Bool} (h1 : L.all (fun c => isCode c || P c) = true) (h2 : ∀ c ∈ L.filter isCode, P c = true) : L.all P = true := by
  refine List.all_eq_true.mpr fun c hc => ?_
  have h := List.all_eq_true.mp h1 c hc
  rcases Bool.eq_false_or_eq_true (isCode c) with hi | hi
  · exact h2 c (List.mem_filter.mpr ⟨hc, hi⟩)
  · simpa [hi] using h
set_option maxRecDepth 65536 in
theorem w_c0 : (Jvm.Cond.code x code maxLocals ret).before args0 about1 = true := code_word (m := ⟨1, 1⟩) (meth := k1m1) (c := k1c1) (by decide +kernel) rfl rfl rfl (by decide +kernel)
set_option maxRecDepth 65536 in
theorem w_c1 : (Jvm.Cond.code ({ cls := "com/example/ovrdue/ovrdue/keyspace/DeadlineIndex", name := "<init>", desc := "()V" } : Jvm.MethodName) prog_6_method_1_code (1 : Nat) (Option.none : Option Jvm.ClassFile.FieldType)).before args0 about1 = true := code_word (m := ⟨2, 0⟩) (meth := k2m0) (c := k2c0) (by decide +kernel) rfl rfl rfl (by decide +kernel)
set_option maxRecDepth 65536 in
theorem w_c2 : (Jvm.Cond.code ({ cls := "java/lang/Object", name := "<init>", desc := "()V" } : Jvm.MethodName) object_method_1_code (1 : Nat) (Option.none : Option Jvm.ClassFile.FieldType)).before args0 about1 = true := code_word (m := ⟨0, 0⟩) (meth := k0m0) (c := k0c0) (by decide +kernel) rfl rfl rfl (by decide +kernel)
set_option maxRecDepth 65536 in
theorem w_c3 : (Jvm.Cond.code ({ cls := "com/example/ovrdue/ovrdue/keyspace/Entry", name := "<init>", desc := "(Lcom/example/ovrdue/ovrdue/keyspace/Key;Lcom/example/ovrdue/ovrdue/keyspace/Value;)V" } : Jvm.MethodName) prog_8_method_1_code (3 : Nat) (Option.none : Option Jvm.ClassFile.FieldType)).before args0 about1 = true := code_word (m := ⟨3, 0⟩) (meth := k3m0) (c := k3c0) (by decide +kernel) rfl rfl rfl (by decide +kernel)
set_option maxRecDepth 65536 in
theorem w_c4 : (Jvm.Cond.code ({ cls := "com/example/ovrdue/ovrdue/keyspace/DeadlineIndex", name := "set", desc := "(Lcom/example/ovrdue/ovrdue/keyspace/Entry;J)V" } : Jvm.MethodName) prog_6_method_4_code (6 : Nat) (Option.none : Option Jvm.ClassFile.FieldType)).before args0 about1 = true := code_word (m := ⟨2, 2⟩) (meth := k2m2) (c := k2c2) (by decide +kernel) rfl rfl rfl (by decide +kernel)
set_option maxRecDepth 65536 in
theorem w_c5 : (Jvm.Cond.code ({ cls := "com/example/ovrdue/ovrdue/keyspace/Entry", name := "hasDeadline", desc := "()Z" } : Jvm.MethodName) prog_8_method_2_code (1 : Nat) (Option.some Jvm.ClassFile.FieldType.boolean)).before args0 about1 = true := code_word (m := ⟨3, 1⟩) (meth := k3m1) (c := k3c1) (by decide +kernel) rfl rfl rfl (by decide +kernel)
set_option maxRecDepth 65536 in
theorem w_c6 : (Jvm.Cond.code ({ cls := "com/example/ovrdue/ovrdue/keyspace/DeadlineIndex", name := "add", desc := "(Lcom/example/ovrdue/ovrdue/keyspace/Entry;J)V" } : Jvm.MethodName) prog_6_method_6_code (4 : Nat) (Option.none : Option Jvm.ClassFile.FieldType)).before args0 about1 = true := code_word (m := ⟨2, 3⟩) (meth := k2m3) (c := k2c3) (by decide +kernel) rfl rfl rfl (by decide +kernel)
set_option maxRecDepth 65536 in
theorem w_c7 : (Jvm.Cond.code ({ cls := "com/example/ovrdue/ovrdue/keyspace/DeadlineIndex", name := "siftUp", desc := "(Lcom/example/ovrdue/ovrdue/keyspace/Entry;I)V" } : Jvm.MethodName) prog_6_method_8_code (5 : Nat) (Option.none : Option Jvm.ClassFile.FieldType)).before args0 about1 = true := code_word (m := ⟨2, 5⟩) (meth := k2m5) (c := k2c5) (by decide +kernel) rfl rfl rfl (by decide +kernel)
set_option maxRecDepth 65536 in
theorem w_c8 : (Jvm.Cond.code ({ cls := "com/example/ovrdue/ovrdue/keyspace/DeadlineIndex", name := "put", desc := "(Lcom/example/ovrdue/ovrdue/keyspace/Entry;I)V" } : Jvm.MethodName) prog_6_method_10_code (3 : Nat) (Option.none : Option Jvm.ClassFile.FieldType)).before args0 about1 = true := code_word (m := ⟨2, 7⟩) (meth := k2m7) (c := k2c7) (by decide +kernel) rfl rfl rfl (by decide +kernel)
set_option maxRecDepth 65536 in
theorem w_c9 : (Jvm.Cond.code ({ cls := "com/example/ovrdue/ovrdue/keyspace/DeadlineIndex", name := "siftDown", desc := "(Lcom/example/ovrdue/ovrdue/keyspace/Entry;I)V" } : Jvm.MethodName) prog_6_method_9_code (5 : Nat) (Option.none : Option Jvm.ClassFile.FieldType)).before args0 about1 = true := code_word (m := ⟨2, 6⟩) (meth := k2m6) (c := k2c6) (by decide +kernel) rfl rfl rfl (by decide +kernel)
set_option maxRecDepth 65536 in
theorem w_c10 : (Jvm.Cond.code ({ cls := "com/example/ovrdue/ovrdue/keyspace/DeadlineIndex", name := "first", desc := "()Lcom/example/ovrdue/ovrdue/keyspace/Entry;" } : Jvm.MethodName) prog_6_method_3_code (1 : Nat) (Option.some (Jvm.ClassFile.FieldType.object "com/example/ovrdue/ovrdue/keyspace/Entry"))).before args0 about1 = true := code_word (m := ⟨2, 1⟩) (meth := k2m1) (c := k2c1) (by decide +kernel) rfl rfl rfl (by decide +kernel)
set_option maxRecDepth 65536 in
theorem w_c11 : (Jvm.Cond.code ({ cls := "java/lang/Math", name := "min", desc := "(JJ)J" } : Jvm.MethodName) jdk_29_method_70_code (4 : Nat) (Option.some Jvm.ClassFile.FieldType.long)).before args0 about1 = true := code_word (m := ⟨4, 1⟩) (meth := k4m1) (c := k4c1) (by decide +kernel) rfl rfl rfl (by decide +kernel)
set_option maxRecDepth 65536 in
theorem w_c12 : (Jvm.Cond.code ({ cls := "com/example/ovrdue/ovrdue/keyspace/DeadlineIndex", name := "remove", desc := "(Lcom/example/ovrdue/ovrdue/keyspace/Entry;)V" } : Jvm.MethodName) prog_6_method_7_code (4 : Nat) (Option.none : Option Jvm.ClassFile.FieldType)).before args0 about1 = true := code_word (m := ⟨2, 4⟩) (meth := k2m4) (c := k2c4) (by decide +kernel) rfl rfl rfl (by decide +kernel)
def codes1 : List Jvm.Cond := [Jvm.Cond.code x code maxLocals ret, Jvm.Cond.code ({ cls := "com/example/ovrdue/ovrdue/keyspace/DeadlineIndex", name := "<init>", desc := "()V" } : Jvm.MethodName) prog_6_method_1_code (1 : Nat) (Option.none : Option Jvm.ClassFile.FieldType), Jvm.Cond.code ({ cls := "java/lang/Object", name := "<init>", desc := "()V" } : Jvm.MethodName) object_method_1_code (1 : Nat) (Option.none : Option Jvm.ClassFile.FieldType), Jvm.Cond.code ({ cls := "com/example/ovrdue/ovrdue/keyspace/Entry", name := "<init>", desc := "(Lcom/example/ovrdue/ovrdue/keyspace/Key;Lcom/example/ovrdue/ovrdue/keyspace/Value;)V" } : Jvm.MethodName) prog_8_method_1_code (3 : Nat) (Option.none : Option Jvm.ClassFile.FieldType), Jvm.Cond.code ({ cls := "com/example/ovrdue/ovrdue/keyspace/DeadlineIndex", name := "set", desc := "(Lcom/example/ovrdue/ovrdue/keyspace/Entry;J)V" } : Jvm.MethodName) prog_6_method_4_code (6 : Nat) (Option.none : Option Jvm.ClassFile.FieldType), Jvm.Cond.code ({ cls := "com/example/ovrdue/ovrdue/keyspace/Entry", name := "hasDeadline", desc := "()Z" } : Jvm.MethodName) prog_8_method_2_code (1 : Nat) (Option.some Jvm.ClassFile.FieldType.boolean), Jvm.Cond.code ({ cls := "com/example/ovrdue/ovrdue/keyspace/DeadlineIndex", name := "add", desc := "(Lcom/example/ovrdue/ovrdue/keyspace/Entry;J)V" } : Jvm.MethodName) prog_6_method_6_code (4 : Nat) (Option.none : Option Jvm.ClassFile.FieldType), Jvm.Cond.code ({ cls := "com/example/ovrdue/ovrdue/keyspace/DeadlineIndex", name := "siftUp", desc := "(Lcom/example/ovrdue/ovrdue/keyspace/Entry;I)V" } : Jvm.MethodName) prog_6_method_8_code (5 : Nat) (Option.none : Option Jvm.ClassFile.FieldType), Jvm.Cond.code ({ cls := "com/example/ovrdue/ovrdue/keyspace/DeadlineIndex", name := "put", desc := "(Lcom/example/ovrdue/ovrdue/keyspace/Entry;I)V" } : Jvm.MethodName) prog_6_method_10_code (3 : Nat) (Option.none : Option Jvm.ClassFile.FieldType), Jvm.Cond.code ({ cls := "com/example/ovrdue/ovrdue/keyspace/DeadlineIndex", name := "siftDown", desc := "(Lcom/example/ovrdue/ovrdue/keyspace/Entry;I)V" } : Jvm.MethodName) prog_6_method_9_code (5 : Nat) (Option.none : Option Jvm.ClassFile.FieldType), Jvm.Cond.code ({ cls := "com/example/ovrdue/ovrdue/keyspace/DeadlineIndex", name := "first", desc := "()Lcom/example/ovrdue/ovrdue/keyspace/Entry;" } : Jvm.MethodName) prog_6_method_3_code (1 : Nat) (Option.some (Jvm.ClassFile.FieldType.object "com/example/ovrdue/ovrdue/keyspace/Entry")), Jvm.Cond.code ({ cls := "java/lang/Math", name := "min", desc := "(JJ)J" } : Jvm.MethodName) jdk_29_method_70_code (4 : Nat) (Option.some Jvm.ClassFile.FieldType.long), Jvm.Cond.code ({ cls := "com/example/ovrdue/ovrdue/keyspace/DeadlineIndex", name := "remove", desc := "(Lcom/example/ovrdue/ovrdue/keyspace/Entry;)V" } : Jvm.MethodName) prog_6_method_7_code (4 : Nat) (Option.none : Option Jvm.ClassFile.FieldType)]
set_option maxRecDepth 65536 in
theorem codes_eq : words1.filter isCode = codes1 := rfl
theorem w_codes : ∀ c ∈ words1.filter isCode, c.before args0 about1 = true := by
  rw [codes_eq]
  intro c hc
  simp only [codes1, List.mem_cons, List.not_mem_nil, or_false] at hc
  rcases hc with rfl | rfl | rfl | rfl | rfl | rfl | rfl | rfl | rfl | rfl | rfl | rfl | rfl
  · exact w_c0
  · exact w_c1
  · exact w_c2
  · exact w_c3
  · exact w_c4
  · exact w_c5
  · exact w_c6
  · exact w_c7
  · exact w_c8
  · exact w_c9
  · exact w_c10
  · exact w_c11
  · exact w_c12
set_option maxRecDepth 65536 in
theorem w_t1 : (words1.take 24).all (fun c => isCode c || c.before args0 about1) = true := by decide +kernel
set_option maxRecDepth 65536 in
theorem w_t2 : ((words1.drop 24).take 24).all (fun c => isCode c || c.before args0 about1) = true := by decide +kernel
set_option maxRecDepth 65536 in
theorem w_t3 : (((words1.drop 24).drop 24).take 24).all (fun c => isCode c || c.before args0 about1) = true := by decide +kernel
set_option maxRecDepth 65536 in
theorem w_t4 : (((words1.drop 24).drop 24).drop 24).all (fun c => isCode c || c.before args0 about1) = true := by decide +kernel
theorem w_tables : (allAtoms (Jvm.Cond.code x code maxLocals ret :: tables_1)).before args0 about1 = true := by
  rw [allAtoms_all]
  show words1.all (fun c => c.before args0 about1) = true
  refine all_split ?_ w_codes
  rw [← List.take_append_drop 24 words1, List.all_append, w_t1, ← List.take_append_drop 24 (words1.drop 24), List.all_append, w_t2, ← List.take_append_drop 24 ((words1.drop 24).drop 24), List.all_append, w_t3, w_t4]
  rfl
set_option maxRecDepth 65536 in
theorem w_case : (Jvm.Cond.and given_1 narrow_1).before args0 about1 = true := by decide +kernel
theorem w_applies : (headSpec (Jvm.Cond.code x code maxLocals ret :: tables_1) room_1).applies x e0.platform about1 = true :=
  (Spec.applies_iff w_frames).mpr ⟨w_running, w_runnable, w_alone, w_named, w_hears, w_ripe, w_room, w_tables⟩
theorem atStart : AtStart classFile x code maxLocals ret World_1 tables_1 room_1 Calls_1 rest_1 Pre_1 launch0 p0 e0 about1 theMethod args0 below0 :=
  ⟨lists_1, trivial, launch0.admits_env _ _ _, launch0.least_env, fairChoices_fair.cas, fairChoices_fair.clock, w_frames, w_args, w_heap, w_applies, trivial, trivial, w_case⟩
end start1
theorem witness_1 : WitnessClaimed_1 := ⟨start1.p0, start1.e0, start1.about1, start1.theMethod, start1.args0, start1.below0, start1.atStart⟩
end Jvm.Pilot.@@N@@
