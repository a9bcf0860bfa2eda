import JvmDerived
import JvmDerived.Pilot.@@N@@Statement
import JvmDerived.Pilot.@@N@@Code
set_option linter.unusedVariables false
set_option linter.unusedSimpArgs false
namespace Jvm.Pilot.@@N@@
open Jvm Jvm.ClassFile Sem Op Lib Jvm.Free Jvm.Stand Jvm.LawKit Jvm.RoadKit Bundle Jvm.Pilot.@@N@@.Jvm.D
section Own
variable {p : Program} {l : Launch} {e : Env} {R : Room} {s : State} {m : MethodId} {args : Array Value} {below : List Frame} {meth : Method} {c : Code} {T T' : State} {locs : List Loc} {cells slots : Nat} {Z : State} {h h' : Heap} {P : Option Value → Heap → List Loc → Prop} {cm sm : Nat} {g g' : JFrame}
/-- from where the walk stands the body comes to its end, and P says what it leaves -/
def own_Go (p : Program) (e : Env) (below : List Frame) (s : State) (P : Option Value → Heap → List Loc → Prop) (cm sm : Nat) (T : State) (g : JFrame) : Prop :=
  ∃ s₂ o, Steps p.tables e below (T.setTop g) s₂ ∧ s₂.status = .running ∧ Ended s₂ below o ∧ ∃ v L, o = .returned v ∧ P v s₂.heap L ∧ FrameEnd s o s₂ L cm sm
theorem own_st (st : ∀ t, Steps p.tables e below (T'.setTop g') t → Steps p.tables e below (T.setTop g) t) (k : own_Go p e below s P cm sm T' g') : own_Go p e below s P cm sm T g := by
  obtain ⟨s₂, o, h1, h2⟩ := k; exact ⟨s₂, o, st _ h1, h2⟩
theorem own_tr (st : Steps p.tables e below (T.setTop g) (T'.setTop g')) (k : own_Go p e below s P cm sm T' g') : own_Go p e below s P cm sm T g := own_st (fun _ q => st.trans q) k
theorem own_out (X : Stand p l e R s m args below meth c T locs cells slots) {v : Option Value} (hv : meth.sig.returnType = none → v = none) (hlk : meth.locks = false) (eT : T.heap = h)
    (hret : ∀ fs, (∀ (f : JFrame) (acts : List Action), f.method = m → f.locked = none → f.entered = [] → (doReturn e (T.setTop f) acts v).1 = T.setFrames fs) → Steps p.tables e below (T.setTop g) (T.setFrames fs))
    (hP : P v h locs) (hc : cells ≤ cm) (hs : slots ≤ sm) : own_Go p e below s P cm sm T g := by
  obtain ⟨fs, hr, hrun, hended, hW, hsame⟩ := X.leave hv hlk
  subst eT
  exact ⟨_, _, hret fs hr, hrun, hended, v, locs, rfl, hP, ⟨_, rfl⟩, hW, hsame.mono hc hs⟩
theorem own_retI (X : Stand p l e R s m args below meth c T locs cells slots) (hx : p.tables.exec = Jvm.exec) (hret : meth.sig.returnType = some .int) (hlk : meth.locks = false) (eT : T.heap = h) {pc : Nat} {Ls : Array Slot} {z : Int32} {rest : List Value} (hd : decode c.code pc = .ok (.ireturn, 1))
    (hP : P (some (.int z)) h locs) (hc : cells ≤ cm) (hs : slots ≤ sm) : own_Go p e below s P cm sm T (mkF m pc Ls (.int z :: rest)) :=
  own_out X (fun q => by rw [hret] at q; cases q) hlk eT (fun fs hr => retOut X hx hret rfl (Or.inl ⟨rfl, Or.inl rfl, z, rfl⟩) hd hr) hP hc hs
theorem own_retN (X : Stand p l e R s m args below meth c T locs cells slots) (hx : p.tables.exec = Jvm.exec) {t : FieldType} (hret : meth.sig.returnType = some t) (hlk : meth.locks = false) (eT : T.heap = h) (ht : t = .boolean ∨ t = .byte ∨ t = .char ∨ t = .short) {pc : Nat} {Ls : Array Slot} {z : Int32} {rest : List Value} (hd : decode c.code pc = .ok (.ireturn, 1))
    (hP : P (some (.int (nar t z))) h locs) (hc : cells ≤ cm) (hs : slots ≤ sm) : own_Go p e below s P cm sm T (mkF m pc Ls (.int z :: rest)) :=
  own_out X (fun q => by rw [hret] at q; cases q) hlk eT (fun fs hr => retN X hx hret ht hd hr) hP hc hs
theorem own_retJ (X : Stand p l e R s m args below meth c T locs cells slots) (hx : p.tables.exec = Jvm.exec) (hret : meth.sig.returnType = some .long) (hlk : meth.locks = false) (eT : T.heap = h) {pc : Nat} {Ls : Array Slot} {z : Int64} {rest : List Value} (hd : decode c.code pc = .ok (.lreturn, 1))
    (hP : P (some (.long z)) h locs) (hc : cells ≤ cm) (hs : slots ≤ sm) : own_Go p e below s P cm sm T (mkF m pc Ls (.long z :: rest)) :=
  own_out X (fun q => by rw [hret] at q; cases q) hlk eT (fun fs hr => retOut X hx hret rfl (Or.inr (Or.inl ⟨rfl, rfl, z, rfl⟩)) hd hr) hP hc hs
theorem own_retR (X : Stand p l e R s m args below meth c T locs cells slots) (hx : p.tables.exec = Jvm.exec) {t : FieldType} (hret : meth.sig.returnType = some t) (hlk : meth.locks = false) (eT : T.heap = h) (ht : t.isReference = true) {pc : Nat} {Ls : Array Slot} {w : Value} (hw : w.isRef = true) {rest : List Value} (hd : decode c.code pc = .ok (.areturn, 1))
    (hP : P (some w) h locs) (hc : cells ≤ cm) (hs : slots ≤ sm) : own_Go p e below s P cm sm T (mkF m pc Ls (w :: rest)) :=
  own_out X (fun q => by rw [hret] at q; cases q) hlk eT (fun fs hr => retOut X hx hret (by cases t <;> cases w <;> first | rfl | (simp [Value.isRef] at hw; done) | (simp [FieldType.isReference] at ht; done)) (Or.inr (Or.inr (Or.inr (Or.inr ⟨rfl, ht, hw⟩)))) hd hr) hP hc hs
theorem own_ret0 (X : Stand p l e R s m args below meth c T locs cells slots) (hx : p.tables.exec = Jvm.exec) (hret : meth.sig.returnType = none) (hlk : meth.locks = false) (eT : T.heap = h) {pc : Nat} {Ls : Array Slot} (hd : decode c.code pc = .ok (.return_, 1))
    (hP : P none h locs) (hc : cells ≤ cm) (hs : slots ≤ sm) : own_Go p e below s P cm sm T (mkF m pc Ls []) :=
  own_out X (fun _ => rfl) hlk eT (fun fs hr => X.returnOut hx hret hd hr) hP hc hs
/-- an array by its length and what each place holds -/
def own_Av (Z : State) (h : Heap) (a : Addr) (k : ClassId) (ty : FieldType) (n : Nat) (f : Nat → Value) : Prop := ∃ cl : Cell, Arr Z h a cl ty ∧ cl.cls = k ∧ cl.slots.size = n ∧ ∀ j, j < n → cl.slots[j]? = some (f j)
variable {a b : Addr} {k : ClassId} {ty : FieldType} {n i sl : Nat} {f : Nat → Value} {v w : Value} {ws : List Addr} {z j x : Int32} {rest : List Value}
theorem own_Av.lt (F : own_Av Z h a k ty n f) : a < h.size := by obtain ⟨cl, A, -⟩ := F; exact A.lt
theorem own_Av.ext (F : own_Av Z h a k ty n f) (E : Ext h h') : own_Av Z h' a k ty n f := by obtain ⟨cl, A, r⟩ := F; exact ⟨cl, A.ext E, r⟩
theorem own_Av.other (F : own_Av Z h b k ty n f) (W : Wr h h' a sl v) (q : b ≠ a) : own_Av Z h' b k ty n f := by obtain ⟨cl, A, r⟩ := F; exact ⟨cl, A.other W q, r⟩
theorem own_Av.keep (F : own_Av Z h a k ty n f) (K : Keep h h' ws) (q : a ∉ ws) : own_Av Z h' a k ty n f := by obtain ⟨cl, A, r⟩ := F; exact ⟨cl, ⟨K.2.1 a cl A.1 q, A.2⟩, r⟩
theorem own_Av.new (A : Arr Z h a (newA k ty z) ty) (hz : z.toNatClampNeg = n) : own_Av Z h a k ty n (fun _ => defaultValue ty) := ⟨_, A, rfl, (sz_new _ _ _).trans hz, fun q hq => by
  subst hz; simp [newA, hq]⟩
theorem own_Av.set (F : own_Av Z h a k ty n f) (W : Wr h h' a i v) (hi : i < n) : own_Av Z h' a k ty n (fun q => if q = i then v else f q) := by
  obtain ⟨cl, A, r1, r2, r3⟩ := F
  refine ⟨_, A.same W, r1, by rw [sz_set]; exact r2, fun q hq => ?_⟩
  by_cases u : q = i
  · subst u; simp [Cell.setSlot, r2, hi]
  · have := r3 q hq; simp only [Cell.setSlot, u, if_false]; rw [Array.getElem?_setIfInBounds_ne (Ne.symm u)]; exact this
theorem own_Av.to {f' : Nat → Value} (F : own_Av Z h a k ty n f) (q : ∀ j, j < n → f j = f' j) : own_Av Z h a k ty n f' := by
  obtain ⟨cl, A, r1, r2, r3⟩ := F; exact ⟨cl, A, r1, r2, fun j hj => by rw [← q j hj]; exact r3 j hj⟩
theorem own_idx (hj : j.toInt = i) : j.toNatClampNeg = i := by simp [Int32.toNatClampNeg, hj]
theorem own_inb {cl : Cell} (hj : j.toInt = i) (hs : cl.slots.size = n) (hi : i < n) : ¬ (j < 0 ∨ cl.slots.size ≤ j.toNatClampNeg) := by
  rw [own_idx hj, hs, Int32.lt_iff_toInt_lt, hj]; have : (0 : Int32).toInt = 0 := rfl; omega
theorem own_stC (X : Stand p l e R s m args below meth c T locs cells slots) (hx : p.tables.exec = Jvm.exec) (hZ : Z.Warmed39 s.vm) (eT : T.heap = h) (F : own_Av Z h a k .char n f) (hj : j.toInt = i) (hi : i < n) (hg : g.method = m) (hs : g.stack = .int x :: .int j :: .ref a :: rest) (hd : decode c.code g.pc = .ok (.castore, 1)) :
    ∃ T' h', Stand p l e R s m args below meth c T' (locs ++ [⟨a, i⟩]) cells slots ∧ T'.heap = h' ∧ Wr h h' a i (.int (nar .char x)) ∧ own_Av Z h' a k .char n (fun q => if q = i then .int (nar .char x) else f q) ∧ ∀ target, Steps p.tables e below (T'.setTop { g with pc := g.pc + 1, stack := rest }) target → Steps p.tables e below (T.setTop g) target := by
  obtain ⟨cl, A, r1, r2, r3⟩ := F
  obtain ⟨T', h', X', e', W, st⟩ := stC X hx hZ eT A (own_inb hj r2 hi) hg hs hd
  rw [own_idx hj] at X' W
  exact ⟨T', h', X', e', W, own_Av.set ⟨cl, A, r1, r2, r3⟩ W hi, st⟩
theorem own_stB (X : Stand p l e R s m args below meth c T locs cells slots) (hx : p.tables.exec = Jvm.exec) (hZ : Z.Warmed39 s.vm) (eT : T.heap = h) (F : own_Av Z h a k .byte n f) (hj : j.toInt = i) (hi : i < n) (hg : g.method = m) (hs : g.stack = .int x :: .int j :: .ref a :: rest) (hd : decode c.code g.pc = .ok (.bastore, 1)) :
    ∃ T' h', Stand p l e R s m args below meth c T' (locs ++ [⟨a, i⟩]) cells slots ∧ T'.heap = h' ∧ Wr h h' a i (.int (nar .byte x)) ∧ own_Av Z h' a k .byte n (fun q => if q = i then .int (nar .byte x) else f q) ∧ ∀ target, Steps p.tables e below (T'.setTop { g with pc := g.pc + 1, stack := rest }) target → Steps p.tables e below (T.setTop g) target := by
  obtain ⟨cl, A, r1, r2, r3⟩ := F
  obtain ⟨T', h', X', e', W, st⟩ := stB X hx hZ eT A (own_inb hj r2 hi) hg hs hd
  rw [own_idx hj] at X' W
  exact ⟨T', h', X', e', W, own_Av.set ⟨cl, A, r1, r2, r3⟩ W hi, st⟩
theorem own_stI (X : Stand p l e R s m args below meth c T locs cells slots) (hx : p.tables.exec = Jvm.exec) (hZ : Z.Warmed39 s.vm) (eT : T.heap = h) (F : own_Av Z h a k .int n f) (hj : j.toInt = i) (hi : i < n) (hg : g.method = m) (hs : g.stack = .int x :: .int j :: .ref a :: rest) (hd : decode c.code g.pc = .ok (.iastore, 1)) :
    ∃ T' h', Stand p l e R s m args below meth c T' (locs ++ [⟨a, i⟩]) cells slots ∧ T'.heap = h' ∧ Wr h h' a i (.int x) ∧ own_Av Z h' a k .int n (fun q => if q = i then .int x else f q) ∧ ∀ target, Steps p.tables e below (T'.setTop { g with pc := g.pc + 1, stack := rest }) target → Steps p.tables e below (T.setTop g) target := by
  obtain ⟨cl, A, r1, r2, r3⟩ := F
  obtain ⟨T', h', X', e', W, st⟩ := stI X hx hZ eT A (own_inb hj r2 hi) hg hs hd
  rw [own_idx hj] at X' W
  exact ⟨T', h', X', e', W, own_Av.set ⟨cl, A, r1, r2, r3⟩ W hi, st⟩
theorem own_stJ {y : Int64} (X : Stand p l e R s m args below meth c T locs cells slots) (hx : p.tables.exec = Jvm.exec) (hZ : Z.Warmed39 s.vm) (eT : T.heap = h) (F : own_Av Z h a k .long n f) (hj : j.toInt = i) (hi : i < n) (hg : g.method = m) (hs : g.stack = .long y :: .int j :: .ref a :: rest) (hd : decode c.code g.pc = .ok (.lastore, 1)) :
    ∃ T' h', Stand p l e R s m args below meth c T' (locs ++ [⟨a, i⟩]) cells slots ∧ T'.heap = h' ∧ Wr h h' a i (.long y) ∧ own_Av Z h' a k .long n (fun q => if q = i then .long y else f q) ∧ ∀ target, Steps p.tables e below (T'.setTop { g with pc := g.pc + 1, stack := rest }) target → Steps p.tables e below (T.setTop g) target := by
  obtain ⟨cl, A, r1, r2, r3⟩ := F
  obtain ⟨T', h', X', e', W, st⟩ := stJ X hx hZ eT A (own_inb hj r2 hi) hg hs hd
  rw [own_idx hj] at X' W
  exact ⟨T', h', X', e', W, own_Av.set ⟨cl, A, r1, r2, r3⟩ W hi, st⟩
theorem own_stR {C : String} (X : Stand p l e R s m args below meth c T locs cells slots) (hx : p.tables.exec = Jvm.exec) (hZ : Z.Warmed39 s.vm) (eT : T.heap = h) (F : own_Av Z h a k (.object C) n f) (O : Ovr Z k C) (I : v = .null ∨ ∃ y, v = .ref y ∧ Ins Z h y C true) (hj : j.toInt = i) (hi : i < n) (hg : g.method = m) (hs : g.stack = v :: .int j :: .ref a :: rest) (hd : decode c.code g.pc = .ok (.aastore, 1)) :
    ∃ T' h', Stand p l e R s m args below meth c T' (locs ++ [⟨a, i⟩]) cells slots ∧ T'.heap = h' ∧ Wr h h' a i v ∧ own_Av Z h' a k (.object C) n (fun q => if q = i then v else f q) ∧ ∀ target, Steps p.tables e below (T'.setTop { g with pc := g.pc + 1, stack := rest }) target → Steps p.tables e below (T.setTop g) target := by
  obtain ⟨cl, A, r1, r2, r3⟩ := F
  have St : Sto Z h a v := by
    rcases I with rfl | ⟨y, rfl, I⟩
    · exact Or.inl rfl
    · exact Sto.ofV A r1 O I
  obtain ⟨T', h', X', e', W, st⟩ := stR X hx hZ eT A (own_inb hj r2 hi) rfl St hg hs hd
  rw [own_idx hj] at X' W
  exact ⟨T', h', X', e', W, own_Av.set ⟨cl, A, r1, r2, r3⟩ W hi, st⟩
theorem own_stS (X : Stand p l e R s m args below meth c T locs cells slots) (hx : p.tables.exec = Jvm.exec) (hZ : Z.Warmed39 s.vm) (eT : T.heap = h) (F : own_Av Z h a k ty n f) (hty : ty.isReference = true) (So : ∀ cl : Cell, Arr Z h a cl ty → cl.cls = k → Sto Z h a v) (hj : j.toInt = i) (hi : i < n) (hg : g.method = m) (hs : g.stack = v :: .int j :: .ref a :: rest) (hd : decode c.code g.pc = .ok (.aastore, 1)) :
    ∃ T' h', Stand p l e R s m args below meth c T' (locs ++ [⟨a, i⟩]) cells slots ∧ T'.heap = h' ∧ Wr h h' a i v ∧ own_Av Z h' a k ty n (fun q => if q = i then v else f q) ∧ ∀ target, Steps p.tables e below (T'.setTop { g with pc := g.pc + 1, stack := rest }) target → Steps p.tables e below (T.setTop g) target := by
  obtain ⟨cl, A, r1, r2, r3⟩ := F
  obtain ⟨T', h', X', e', W, st⟩ := stR X hx hZ eT A (own_inb hj r2 hi) hty (So cl A r1) hg hs hd
  rw [own_idx hj] at X' W
  exact ⟨T', h', X', e', W, own_Av.set ⟨cl, A, r1, r2, r3⟩ W hi, st⟩
theorem own_ldC (X : Stand p l e R s m args below meth c T locs cells slots) (hx : p.tables.exec = Jvm.exec) (hZ : Z.Warmed39 s.vm) (eT : T.heap = h) (F : own_Av Z h a k .char n f) (hj : j.toInt = i) (hi : i < n) (hv : f i = v) (hg : g.method = m) (hs : g.stack = .int j :: .ref a :: rest) (hd : decode c.code g.pc = .ok (.caload, 1)) (target : State)
    (hr : Steps p.tables e below (T.setTop { g with pc := g.pc + 1, stack := v :: rest }) target) : Steps p.tables e below (T.setTop g) target := by
  obtain ⟨cl, A, r1, r2, r3⟩ := F
  exact X.caload hx (by rw [eT]; exact A.1) (State.isArrayOf_alike hZ.alike A.2.1) A.2.2 (own_inb hj r2 hi) (by rw [own_idx hj, r3 i hi, hv]) hg hs hd target hr
theorem own_ldB (X : Stand p l e R s m args below meth c T locs cells slots) (hx : p.tables.exec = Jvm.exec) (hZ : Z.Warmed39 s.vm) (eT : T.heap = h) (F : own_Av Z h a k .byte n f) (hj : j.toInt = i) (hi : i < n) (hv : f i = v) (hg : g.method = m) (hs : g.stack = .int j :: .ref a :: rest) (hd : decode c.code g.pc = .ok (.baload, 1)) (target : State)
    (hr : Steps p.tables e below (T.setTop { g with pc := g.pc + 1, stack := v :: rest }) target) : Steps p.tables e below (T.setTop g) target := by
  obtain ⟨cl, A, r1, r2, r3⟩ := F
  exact X.baloadBytes hx (by rw [eT]; exact A.1) (State.isArrayOf_alike hZ.alike A.2.1) A.2.2 (own_inb hj r2 hi) (by rw [own_idx hj, r3 i hi, hv]) hg hs hd target hr
theorem own_ldI (X : Stand p l e R s m args below meth c T locs cells slots) (hx : p.tables.exec = Jvm.exec) (hZ : Z.Warmed39 s.vm) (eT : T.heap = h) (F : own_Av Z h a k .int n f) (hj : j.toInt = i) (hi : i < n) (hv : f i = v) (hg : g.method = m) (hs : g.stack = .int j :: .ref a :: rest) (hd : decode c.code g.pc = .ok (.iaload, 1)) (target : State)
    (hr : Steps p.tables e below (T.setTop { g with pc := g.pc + 1, stack := v :: rest }) target) : Steps p.tables e below (T.setTop g) target := by
  obtain ⟨cl, A, r1, r2, r3⟩ := F
  exact X.iaload hx (by rw [eT]; exact A.1) (State.isArrayOf_alike hZ.alike A.2.1) A.2.2 (own_inb hj r2 hi) (by rw [own_idx hj, r3 i hi, hv]) hg hs hd target hr
theorem own_ldR (X : Stand p l e R s m args below meth c T locs cells slots) (hx : p.tables.exec = Jvm.exec) (hZ : Z.Warmed39 s.vm) (eT : T.heap = h) (F : own_Av Z h a k ty n f) (hty : ty.isReference = true) (hj : j.toInt = i) (hi : i < n) (hv : f i = v) (hg : g.method = m) (hs : g.stack = .int j :: .ref a :: rest) (hd : decode c.code g.pc = .ok (.aaload, 1)) (target : State)
    (hr : Steps p.tables e below (T.setTop { g with pc := g.pc + 1, stack := v :: rest }) target) : Steps p.tables e below (T.setTop g) target := by
  obtain ⟨cl, A, r1, r2, r3⟩ := F
  exact X.aaload hx (by rw [eT]; exact A.1) (State.isArrayOf_alike hZ.alike A.2.1) hty A.2.2 (own_inb hj r2 hi) (by rw [own_idx hj, r3 i hi, hv]) hg hs hd target hr
theorem own_len (X : Stand p l e R s m args below meth c T locs cells slots) (hx : p.tables.exec = Jvm.exec) (hZ : Z.Warmed39 s.vm) (eT : T.heap = h) (F : own_Av Z h a k ty n f) (hz : n.toInt32 = z) (hg : g.method = m) (hs : g.stack = .ref a :: rest) (hd : decode c.code g.pc = .ok (.arraylength, 1)) (target : State)
    (hr : Steps p.tables e below (T.setTop { g with pc := g.pc + 1, stack := .int z :: rest }) target) : Steps p.tables e below (T.setTop g) target := by
  obtain ⟨cl, A, r1, r2, r3⟩ := F
  exact X.arraylength hx (by rw [eT]; exact A.1) (State.isArrayOf_alike hZ.alike A.2.1) hg hs hd target (by rw [r2, hz]; exact hr)
theorem own_ne (q : a < h.size) (r : b = h.size) : a ≠ b := Nat.ne_of_lt (Nat.lt_of_lt_of_le q (Nat.le_of_eq r.symm))
theorem own_ne2 (q : a < h.size) (r : h.size ≤ b) : a ≠ b := Nat.ne_of_lt (Nat.lt_of_lt_of_le q r)
theorem own_ge {n0 : Nat} (q : n0 ≤ h.size) (r : b = h.size) : n0 ≤ b := Nat.le_trans q (Nat.le_of_eq r.symm)
theorem own_store1 {L : Array Slot} {o : Slot} (hv : v.isRef = true) (hold : L[i]? = some o) (ho : o = .unset ∨ ∃ w, o = .val w ∧ w.category = 1) : storeLocals L i v = some (L.setIfInBounds i (.val v)) := XS.store1 hold ho (Jvm.Free.XT.cat1 hv)
theorem own_nref (ht : ty.isReference = true) (hv : v.isRef = true) : narrow ty v = v := by cases ty <;> cases v <;> first | rfl | (simp [Value.isRef] at hv; done) | (simp [FieldType.isReference] at ht; done)
theorem own_fref (ht : ty.isReference = true) (hv : v.isRef = true) : fits ty v = true := by cases ty <;> cases v <;> first | rfl | (simp [Value.isRef] at hv; done) | (simp [FieldType.isReference] at ht; done)
theorem own_fldI {t : Term} {C nm d : String} (ev : t.eval args s none [] s = some (.ref a)) (hq : (Cond.eq (Term.field t C nm d) (Term.int z)).value args s none s [] = some true) : Fld s s.heap a C nm d (.int z) := by
  obtain ⟨x, y, hx, hy, -, -⟩ := cmp_v (Or.inl hq)
  obtain rfl : y = .int z := (Option.some.inj hy).symm
  have : x = .int z := by simp only [Cond.value, hx, hy] at hq; cases x <;> simp at hq ⊢; exact hq
  rw [fld_at ev] at hx
  exact Fld.start (this ▸ hx)
theorem own_fldJ {t : Term} {C nm d : String} {z : Int64} (ev : t.eval args s none [] s = some (.ref a)) (hq : (Cond.eq (Term.field t C nm d) (Term.long z)).value args s none s [] = some true) : Fld s s.heap a C nm d (.long z) := by
  obtain ⟨x, y, hx, hy, -, -⟩ := cmp_v (Or.inl hq)
  obtain rfl : y = .long z := (Option.some.inj hy).symm
  have : x = .long z := by simp only [Cond.value, hx, hy] at hq; cases x <;> simp at hq ⊢; exact hq
  rw [fld_at ev] at hx
  exact Fld.start (this ▸ hx)
theorem own_fldN {t : Term} {C nm d : String} (ev : t.eval args s none [] s = some (.ref a)) (hq : (Cond.eq (Term.field t C nm d) Term.null).value args s none s [] = some true) : Fld s s.heap a C nm d .null := by
  have hx := null_v hq
  rw [fld_at ev] at hx
  exact Fld.start hx
theorem own_selP {y : MethodName} {nn : Nat} {a0 : Array Value} (hZ : Z.Warmed39 s.vm) (wi : (Cond.instantiable y.cls nn).before a0 Z = true) (wp : (Cond.privateMethod y).before a0 Z = true) (wm : (Cond.instanceMethod y).before a0 Z = true) (hy : y.cls ≠ "java/lang/invoke/MethodHandle" ∧ y.cls ≠ "java/lang/invoke/VarHandle") : (Cond.selects y.cls y y).before args s = true := by
  obtain ⟨c', k', h1, h2, -, h4, -⟩ := Cond.instantiable_spec (mv (args := args) hZ wi : (Cond.instantiable y.cls nn).before args s = true)
  exact selects_self_of_private h1 h2 (by simp at h4; exact h4.1) (Cond.privateMethod_at (mvP hZ wp (args := args))) (mv hZ wm) hy
theorem own_insK {C : String} (I : Ins Z h a C true) (K : Keep h h' ws) : Ins Z h' a C true := by
  obtain ⟨cell, cT, h1, h2, h3⟩ := I
  obtain ⟨c', q, r1, r2, r3⟩ := K.2.2 a cell h1
  exact ⟨c', cT, q, h2, by rw [r1, r2]; exact h3⟩
theorem own_len0 {cl : Cell} {t : Term} (A : Arr s s.heap a cl ty) (ev : t.eval args s none [] s = some (.ref a)) (hq : (Cond.eq (Term.length t) (Term.int 0)).value args s none s [] = some true) : own_Av s s.heap a cl.cls ty 0 (fun _ => .null) := by
  obtain ⟨x, y, hx, hy, -, -⟩ := cmp_v (Or.inl hq)
  obtain rfl : y = .int 0 := (Option.some.inj hy).symm
  have : x = .int 0 := by simp only [Cond.value, hx, hy] at hq; cases x <;> simp at hq ⊢; exact hq
  subst this
  refine ⟨cl, A, rfl, ?_, fun j hj => absurd hj (Nat.not_lt_zero _)⟩
  have ha := Arr.fin (Vm.Alike.refl _) A
  simp only [Term.eval, ev, Option.bind_some, ha, Option.bind_eq_bind] at hx
  split at hx
  · rename_i hl
    have e := Value.int.inj (Option.some.inj hx)
    have e2 : (cl.slots.size.toInt32).toInt = 0 := by rw [e]; rfl
    rw [len_toInt hl] at e2; omega
  · cases hx
theorem own_frnil {L : List Loc} (n0 : Nat) (h : L = []) : Fr n0 L := by rw [h]; exact Fr.nil n0
theorem own_fitC {q : Int32} (h1 : ¬ q < 0) (h2 : ¬ (255 : Int32) < q) : fits .char (.int q) = true := by
  have e0 : (0 : Int32).toInt = 0 := rfl
  have e1 : (255 : Int32).toInt = 255 := rfl
  have e2 : (65535 : Int32).toInt = 65535 := rfl
  rw [Int32.lt_iff_toInt_lt] at h1 h2
  simp only [fits, Bool.and_eq_true, decide_eq_true_eq, Int32.le_iff_toInt_le]; omega
theorem own_Av.arv {cs : List Int32} (F : own_Av Z h a k .char n f) (hz : z.toNatClampNeg = n) (hz0 : ¬ z < 0) (hl : cs.length = n) (hf : ∀ i, i < n → f i = .int (cs.getD i 0)) (hp : ∀ q ∈ cs, ¬ q < 0 ∧ ¬ (255 : Int32) < q) : Arv Z h a k .char z (cs.map Value.int) (.int 0) := by
  obtain ⟨cl, A, r1, r2, r3⟩ := F
  have e : ∀ i, (cs.map Value.int).getD i (.int 0) = .int (cs.getD i 0) := fun i => by
    simp only [List.getD_eq_getElem?_getD, List.getElem?_map]; cases cs[i]? <;> rfl
  refine ⟨cl, A, r1, by rw [r2, hz], hz0, fun i hi => by rw [e, ← hf i (r2 ▸ hi)]; exact r3 i (r2 ▸ hi), fun i hi => ?_⟩
  rw [e]
  have hi' : i < cs.length := by rw [hl, ← r2]; exact hi
  have q := hp (cs[i]) (List.getElem_mem hi')
  rw [List.getD_eq_getElem?_getD, List.getElem?_eq_getElem hi']
  exact own_fitC q.1 q.2
end Own
section OwnCold
variable {p : Program} {l : Launch} {e : Env} {R : Room} {s : State} {m : MethodId} {args : Array Value} {below : List Frame} {meth : Method} {c : Code} {T T' : State} {locs : List Loc} {cells slots : Nat} {Z : State} {h h' : Heap} {P : Option Value → Heap → List Loc → Prop} {cm sm : Nat} {g g' : JFrame} {vm1 : Vm} {k0 : Nat}
/-- as own_Go, where literals may be interned on the way -/
def own_GoW (p : Program) (e : Env) (below : List Frame) (s : State) (P : Option Value → Heap → List Loc → Prop) (cm sm : Nat) (T : State) (g : JFrame) : Prop :=
  ∃ s₂ o, Steps p.tables e below (T.setTop g) s₂ ∧ s₂.status = .running ∧ Ended s₂ below o ∧ ∃ v L, o = .returned v ∧ P v s₂.heap L ∧ ReturnedEndW s o s₂ L cm sm
theorem own_stW (st : ∀ t, Steps p.tables e below (T'.setTop g') t → Steps p.tables e below (T.setTop g) t) (k : own_GoW p e below s P cm sm T' g') : own_GoW p e below s P cm sm T g := by
  obtain ⟨s₂, o, h1, h2⟩ := k; exact ⟨s₂, o, st _ h1, h2⟩
theorem own_trW (st : Steps p.tables e below (T.setTop g) (T'.setTop g')) (k : own_GoW p e below s P cm sm T' g') : own_GoW p e below s P cm sm T g := own_stW (fun _ q => st.trans q) k
theorem own_monoW {t : State} {o : Outcome} {L : List Loc} {k n : Nat} (h : ReturnedEndW s o t L k n) (hc : k ≤ cm) (hs : n ≤ sm) : ReturnedEndW s o t L cm sm := ⟨h.1, h.2.1, h.2.2.1, h.2.2.2.mono hc hs⟩
theorem own_outW (X : Stand p l e R (s.setVm vm1) m args below meth c T locs cells slots) (hS : s.Since vm1 k0) {v : Option Value} (hv : meth.sig.returnType = none → v = none) (hlk : meth.locks = false) (eT : T.heap = h) (hk : k0 ≤ h.size)
    (hret : ∀ fs, (∀ (f : JFrame) (acts : List Action), f.method = m → f.locked = none → f.entered = [] → (doReturn e (T.setTop f) acts v).1 = T.setFrames fs) → Steps p.tables e below (T.setTop g) (T.setFrames fs))
    (hP : P v h locs) (hc : cells ≤ cm) (hs : slots ≤ sm) : own_GoW p e below s P cm sm T g := by
  subst eT
  obtain ⟨fs, hr, hrun, hended, hW⟩ := X.leaveW hS hk hv hlk
  exact ⟨_, _, hret fs hr, hrun, hended, v, locs, rfl, hP, own_monoW hW hc hs⟩
theorem own_retIW (X : Stand p l e R (s.setVm vm1) m args below meth c T locs cells slots) (hS : s.Since vm1 k0) (hx : p.tables.exec = Jvm.exec) (hret : meth.sig.returnType = some .int) (hlk : meth.locks = false) (eT : T.heap = h) (hk : k0 ≤ h.size) {pc : Nat} {Ls : Array Slot} {z : Int32} {rest : List Value} (hd : decode c.code pc = .ok (.ireturn, 1))
    (hP : P (some (.int z)) h locs) (hc : cells ≤ cm) (hs : slots ≤ sm) : own_GoW p e below s P cm sm T (mkF m pc Ls (.int z :: rest)) :=
  own_outW X hS (fun q => by rw [hret] at q; cases q) hlk eT hk (fun fs hr => retOut X hx hret rfl (Or.inl ⟨rfl, Or.inl rfl, z, rfl⟩) hd hr) hP hc hs
theorem own_retNW (X : Stand p l e R (s.setVm vm1) m args below meth c T locs cells slots) (hS : s.Since vm1 k0) (hx : p.tables.exec = Jvm.exec) {t : FieldType} (hret : meth.sig.returnType = some t) (hlk : meth.locks = false) (eT : T.heap = h) (hk : k0 ≤ h.size) (ht : t = .boolean ∨ t = .byte ∨ t = .char ∨ t = .short) {pc : Nat} {Ls : Array Slot} {z : Int32} {rest : List Value} (hd : decode c.code pc = .ok (.ireturn, 1))
    (hP : P (some (.int (nar t z))) h locs) (hc : cells ≤ cm) (hs : slots ≤ sm) : own_GoW p e below s P cm sm T (mkF m pc Ls (.int z :: rest)) :=
  own_outW X hS (fun q => by rw [hret] at q; cases q) hlk eT hk (fun fs hr => retN X hx hret ht hd hr) hP hc hs
theorem own_retRW (X : Stand p l e R (s.setVm vm1) m args below meth c T locs cells slots) (hS : s.Since vm1 k0) (hx : p.tables.exec = Jvm.exec) {t : FieldType} (hret : meth.sig.returnType = some t) (hlk : meth.locks = false) (eT : T.heap = h) (hk : k0 ≤ h.size) (ht : t.isReference = true) {pc : Nat} {Ls : Array Slot} {w : Value} (hw : w.isRef = true) {rest : List Value} (hd : decode c.code pc = .ok (.areturn, 1))
    (hP : P (some w) h locs) (hc : cells ≤ cm) (hs : slots ≤ sm) : own_GoW p e below s P cm sm T (mkF m pc Ls (w :: rest)) :=
  own_outW X hS (fun q => by rw [hret] at q; cases q) hlk eT hk (fun fs hr => retOut X hx hret (by cases t <;> cases w <;> first | rfl | (simp [Value.isRef] at hw; done) | (simp [FieldType.isReference] at ht; done)) (Or.inr (Or.inr (Or.inr (Or.inr ⟨rfl, ht, hw⟩)))) hd hr) hP hc hs
theorem own_ret0W (X : Stand p l e R (s.setVm vm1) m args below meth c T locs cells slots) (hS : s.Since vm1 k0) (hx : p.tables.exec = Jvm.exec) (hret : meth.sig.returnType = none) (hlk : meth.locks = false) (eT : T.heap = h) (hk : k0 ≤ h.size) {pc : Nat} {Ls : Array Slot} (hd : decode c.code pc = .ok (.return_, 1))
    (hP : P none h locs) (hc : cells ≤ cm) (hs : slots ≤ sm) : own_GoW p e below s P cm sm T (mkF m pc Ls []) :=
  own_outW X hS (fun _ => rfl) hlk eT hk (fun fs hr => X.returnOut hx hret hd hr) hP hc hs
theorem own_no {a0 : Array Value} {C S K : String} {nn : Nat} (w : (Cond.superclass C S).before a0 Z = true) (wo : (Cond.noSuperclass S).before a0 Z = true) (wk : (Cond.instantiable K nn).before a0 Z = true) (hS : S ≠ K) (hC : C ≠ K) : ∃ c t, Z.vm.findClass C = some c ∧ Z.vm.findClass K = some t ∧ Z.vm.assignable c t = false := by
  obtain ⟨c, h0⟩ := found_sup w
  obtain ⟨p, k, kp, h1, h2, h3, h4, h5, h6, h7⟩ := Cond.superclass_spec h0 w
  obtain ⟨p', ko, o1, o2, o3, o4, o5⟩ := Cond.noSuperclass_spec wo
  cases h1.symm.trans o1
  cases h3.symm.trans o2
  obtain ⟨t, kt, t1, t2, t3, t4, -⟩ := Cond.instantiable_spec wk
  have t5 : kt.isInterface = false := by simp at t4; exact t4.1
  have n1 := ids_ne h0 t1 hC
  have n2 := ids_ne h1 t1 hS
  refine ⟨c, t, h0, t1, ?_⟩
  have q : ∀ fuel, Z.vm.isSubclassAux fuel c t = false := fun fuel => by
    cases fuel with
    | zero => rfl
    | succ f => cases f with
      | zero => simp [Vm.isSubclassAux, n1, h2, h4]
      | succ f => simp [Vm.isSubclassAux, n1, n2, h2, h3, h4, o3]
  show Z.vm.assignableAux (255 + 1) c t = false
  simp [Vm.assignableAux, n1, h2, t2, h5, t3, t5, Vm.isSubclass, q]
/-- a callee that reads literals: what is held is told of its start alone -/
theorem own_backH {y : MethodName} {bytes : ByteArray} {maxL : Nat} {ret : Option FieldType} {rm : Room} {len W : Nat} {as' a0 : Array Value} {Q : Option Value → Heap → List Loc → Prop} {EL : List (String × Nat)}
    (hM : MetFree l y (head1 [Cond.code y bytes maxL ret] rm) (fun a U => a = as' ∧ Z.Warmed39 U.vm ∧ U.heap = h ∧ CHv Z EL U.vm h) (fun _ _ _ _ _ => True) (fun _ U o U' => ∃ v L, o = .returned v ∧ Q v U'.heap L ∧ ReturnedEndW U o U' L rm.cells rm.slots))
    (hZ : Z.Warmed39 vm1) (wc : (Cond.code y bytes maxL ret).before a0 Z = true) (wz : (Cond.initialized y.cls).before a0 Z = true) (hf : rm.frames + 1 ≤ R.frames) (hl : W + (maxL + 11) + rm.locals ≤ R.locals) (hEL : EW Z a0 EL) (H : CHv Z EL vm1 h) :
    BackS l R p e below (s.setVm vm1) args y len W (fun A a => a = as' ∧ A.U.heap = h ∧ A.cells + rm.cells ≤ R.cells ∧ A.slots + rm.slots ≤ R.slots) (fun A _ v B => ∃ L, Q v B.U.heap L ∧ B.locs = A.locs ++ L ∧ B.cells = A.cells + rm.cells ∧ B.slots = A.slots + rm.slots) := by
  apply BackS.of_freeW (bytes := bytes) (maxL := maxL) (ret := ret) (E := fun _ _ o t L k n => (k = rm.cells ∧ n = rm.slots) ∧ ∃ v, o = .returned v ∧ Q v t.heap L) hM hf hl
  · intro m meth c A a Y hp
    have hU : Z.Warmed39 A.U.vm := wtrans (s := s.setVm vm1) hZ Y.warmed
    refine ⟨?_, mv hU wc, mv hU wz, hp.2.2⟩
    show (Cond.and _ .tt).before a A.U = true
    rw [Cond.before_and, mv hU wc]; rfl
  · intro m meth c A a g mk Y hp
    exact ⟨hp.1, wtrans (s := s.setVm vm1) hZ Y.warmed, hp.2.1, (CHv.at Y hZ hEL H).1⟩
  · intros; trivial
  · rintro a first o t ⟨v, L, q1, q2, q3⟩
    exact ⟨L, _, _, q3, ⟨rfl, rfl⟩, v, q1, q2⟩
  · rintro m meth c A a g mk v t L k n Y hp q1 q2 ⟨⟨rfl, rfl⟩, v', q3, q4⟩
    cases q3
    exact ⟨L, q4, rfl, rfl, rfl⟩
end OwnCold
section OwnMore
variable {p : Program} {l : Launch} {e : Env} {R : Room} {s : State} {m : MethodId} {args : Array Value} {below : List Frame} {meth : Method} {c : Code} {T T' : State} {locs : List Loc} {cells slots : Nat} {Z : State} {h h' : Heap} {g g' : JFrame} {a0 : Array Value}
theorem own_face {C : String} {y : MethodName} (w : (Cond.selects C y y).before a0 Z = true) : ∃ c k, Z.vm.findClass y.cls = some c ∧ Z.vm.classes[c]? = some k ∧ k.isInterface = false := by
  obtain ⟨c2, r2, m2, q1, q2, q3, q4, kP, hkP, hkPi⟩ := Cond.selects_spec w
  exact ⟨_, kP, findClass_of_methodNamed q3, hkP, hkPi⟩
theorem own_nf {C : String} {y y' : MethodName} (hc : y.cls = y'.cls) (w : (Cond.selects C y' y').before a0 s = true) : NotFace s y := fun r0 h0 => by
  obtain ⟨c, k, h1, h2, h3⟩ := own_face w
  have h4 := findClass_of_methodNamed h0
  rw [hc, h1] at h4
  cases h4
  exact ⟨k, h2, h3⟩
theorem own_same {y : MethodName} (w : (Cond.instanceMethod y).before a0 Z = true) (hk : ∃ c k, Z.vm.findClass y.cls = some c ∧ Z.vm.classes[c]? = some k ∧ k.isInterface = false)
   (hy : y.cls ≠ "java/lang/invoke/MethodHandle" ∧ y.cls ≠ "java/lang/invoke/VarHandle") : (Cond.sameMethod y.cls y.cls y.name y.desc).before a0 Z = true := by
  obtain ⟨mk, methM, hnamed, hmethM, -, -⟩ := Cond.instanceMethod_spec w
  have hf := State.methodFound?_of_named hnamed hy
  obtain ⟨c, k, h1, h2, h3⟩ := hk
  simp only [Cond.before, Cond.holds, Cond.value]
  have hn' : Z.methodNamed? ⟨y.cls, y.name, y.desc⟩ = some mk := hnamed
  simp [h1, h2, hf, hn', h3]
theorem own_decl {y : MethodName} {bytes : ByteArray} {maxL : Nat} {ret : Option FieldType} (w : (Cond.instanceMethod y).before a0 Z = true) (wc : (Cond.code y bytes maxL ret).before a0 Z = true) : (Cond.declares y).before a0 Z = true := by
  obtain ⟨mk, methM, hnamed, hmethM, hst, -⟩ := Cond.instanceMethod_spec w
  obtain ⟨m2, cM, q1, -, -, -, -, -, -, hsig⟩ := Cond.code_spec hnamed wc
  cases hmethM.symm.trans q1
  simp [Cond.before, Cond.holds, Cond.value, hnamed, hmethM, hst, hsig]
theorem own_isRef {t : Term} (w : (Cond.isRef t).value args s none s [] = some true) : ∃ v, t.eval args s none [] s = some v ∧ v.isRef = true := by
  simp only [Cond.value] at w
  cases hv : t.eval args s none [] s with
  | none => simp [hv] at w
  | some v => cases v <;> simp [hv] at w <;> exact ⟨_, rfl, rfl⟩
theorem own_Av.arvB {a : Addr} {k : ClassId} {n : Nat} {f : Nat → Value} {z : Int32} (F : own_Av Z h a k .byte n f) (hz : z.toNatClampNeg = n) (hz0 : ¬ z < 0) (hf : ∀ j, j < n → fits .byte (f j) = true) : Arv Z h a k .byte z ((List.range n).map f) (.int 0) := by
  obtain ⟨cl, A, r1, r2, r3⟩ := F
  have e : ∀ i, i < n → ((List.range n).map f).getD i (.int 0) = f i := fun i hi => by simp [List.getD_eq_getElem?_getD, hi]
  exact ⟨cl, A, r1, by rw [r2, hz], hz0, fun i hi => by rw [e i (r2 ▸ hi)]; exact r3 i (r2 ▸ hi), fun i hi => by rw [e i (r2 ▸ hi)]; exact hf i (r2 ▸ hi)⟩
theorem own_Av.ofArv {a : Addr} {k : ClassId} {ty : FieldType} {z : Int32} {vs : List Value} {d : Value} (F : Arv Z h a k ty z vs d) : own_Av Z h a k ty z.toNatClampNeg (fun i => vs.getD i d) := by
  obtain ⟨cl, A, r1, r2, r3, H, G⟩ := F; exact ⟨cl, A, r1, r2, fun j hj => H j (r2 ▸ hj)⟩
/-- System.arraycopy of bytes into a new array, what it holds behind it not told -/
theorem own_cpB (X : Stand p l e R s m args below meth c T locs cells slots) (hx : p.tables.exec = Jvm.exec) (hZ : Z.Warmed39 s.vm) {own : String} {index : Nat} (hown : s.vm.findClass own = some m.cls)
    (w1 : (Cond.methodLink own index Jvm.Stand.acN).before a0 Z = true) (w2 : (Cond.native Jvm.Stand.acN).before a0 Z = true) (w3 : (Cond.static Jvm.Stand.acN).before a0 Z = true) (w4 : (Cond.initialized "java/lang/System").before a0 Z = true) (eT : T.heap = h)
    {a b : Addr} {k k' : ClassId} {na nb : Nat} {f f' : Nat → Value} {za zb sp dp nn : Int32} (A : own_Av Z h a k .byte na f) (B : own_Av Z h b k' .byte nb f') (hza : za.toNatClampNeg = na) (hza0 : ¬ za < 0) (hzb : zb.toNatClampNeg = nb) (hzb0 : ¬ zb < 0) (hfa : ∀ j, j < na → fits .byte (f j) = true) (hfb : ∀ j, j < nb → fits .byte (f' j) = true)
    (h1 : ¬ sp < 0) (h2 : ¬ dp < 0) (h3 : ¬ nn < 0) (h4 : sp.toNatClampNeg + nn.toNatClampNeg ≤ na) (h5 : dp.toNatClampNeg + nn.toNatClampNeg ≤ nb) {n0 : Nat} (N : Fr n0 locs) (ge : n0 ≤ b)
    (hg : g.method = m) (hsize : g.locals.size = c.maxLocals) {rest : List Value} (hs : g.stack = .int nn :: .int dp :: .ref b :: .int sp :: .ref a :: rest) (hd : decode c.code g.pc = .ok (.invokestatic index, 3))
    (hf : 1 ≤ R.frames) {W : Nat} (hW : 2 * g.monitorRoom + (rest.map fun v => v.category).sum ≤ W) (hlo : W + (nativeFrameWords "java/lang/System" "arraycopy" 5 + 11) ≤ R.locals) :
    ∃ T' h' L, Stand p l e R s m args below meth c T' L cells slots ∧ T'.heap = h' ∧ Fr n0 L ∧ Keep h h' [b] ∧ (∃ f2, own_Av Z h' b k' .byte nb f2) ∧
      ∀ target, Steps p.tables e below (T'.setTop { g with pc := g.pc + 3, stack := rest }) target → Steps p.tables e below (T.setTop g) target := by
  obtain ⟨T', h', L, q1, q2, q3, q4, q5, q6⟩ := cpA X hx hZ hown w1 w2 w3 w4 eT (A.arvB hza hza0 hfa) (B.arvB hzb hzb0 hfb) (Or.inl ⟨rfl, rfl⟩) h1 h2 h3 (by rw [hza]; exact h4) (by rw [hzb]; exact h5) rfl (by simp; exact h5) N ge hg hsize hs hd hf hW hlo
  exact ⟨T', h', L, q1, q2, q3, q4, ⟨_, hzb ▸ own_Av.ofArv q5⟩, q6⟩
end OwnMore
theorem own_lt0 {x : Int32} (q : 0 ≤ x.toInt) : ¬ x < 0 := by rw [Int32.lt_iff_toInt_lt]; have : (0 : Int32).toInt = 0 := rfl; omega
theorem own_narb (x : Int32) : nar .byte x.toInt8.toInt32 = x.toInt8.toInt32 := by simp [nar]
theorem own_narc (x : Int32) : nar .char x.toUInt32.toUInt16.toUInt32.toInt32 = x.toUInt32.toUInt16.toUInt32.toInt32 := by simp only [nar, UInt32.toUInt32_toInt32, UInt16.toUInt16_toUInt32]
theorem own_modg {q y : Int32} (hq : 0 ≤ q.toInt) (hy : 0 < y.toInt) : 0 ≤ (q % y).toInt ∧ (q % y).toInt < y.toInt := by
  have h2 := (c_iremV q y).1 hq hy
  exact ⟨h2.1, h2.2.1⟩
theorem own_modm (q y : Int32) (hy : 0 < y.toInt) : 0 ≤ ((q &&& (2147483647 : Int32)) % y).toInt ∧ ((q &&& (2147483647 : Int32)) % y).toInt < y.toInt := own_modg (c_and q (2147483647 : Int32) (by decide)).1 hy
def own_isL (q : Int32) : Prop := (¬ q < 65 ∧ ¬ (90 : Int32) < q) ∨ (¬ q < 97 ∧ ¬ (122 : Int32) < q)
theorem own_isL0 {q : Int32} (h : own_isL q) : ¬ q = 0 := fun e => by subst e; revert h; unfold own_isL; decide
theorem own_byte : ∀ i : Fin 256, ((Int32.ofNat i.val).toInt8.toInt32 &&& (255 : Int32)) = Int32.ofNat i.val := by decide +kernel
theorem own_pp (x : Int32) : (¬ (x &&& (255 : Int32)).toUInt32.toUInt16.toUInt32.toInt32 < 0 ∧ ¬ (255 : Int32) < (x &&& (255 : Int32)).toUInt32.toUInt16.toUInt32.toInt32) ∧ nar .char (x &&& (255 : Int32)).toUInt32.toUInt16.toUInt32.toInt32 = (x &&& (255 : Int32)).toUInt32.toUInt16.toUInt32.toInt32 ∧ nar .char (((x &&& (255 : Int32)).toUInt32.toUInt16.toUInt32.toInt32).toInt8.toInt32 &&& (255 : Int32)).toUInt32.toUInt16.toUInt32.toInt32 = (x &&& (255 : Int32)).toUInt32.toUInt16.toUInt32.toInt32 := by
  have hc := c_and x (255 : Int32) (by decide)
  have e255 : (255 : Int32).toInt = 255 := rfl
  have e0 : (0 : Int32).toInt = 0 := rfl
  refine ⟨?_, own_narc _, ?_⟩
  · rw [i2c_mask, Int32.lt_iff_toInt_lt, Int32.lt_iff_toInt_lt]; omega
  · rw [own_narc, i2c_mask, i2c_mask]
    have hb := own_byte ⟨(x &&& (255 : Int32)).toInt.toNat, by omega⟩
    have e : Int32.ofNat (x &&& (255 : Int32)).toInt.toNat = (x &&& (255 : Int32)) := by
      rw [← Int32.toInt_inj, Int32.toInt_ofNat_of_lt (by omega)]; omega
    simp only [e] at hb
    exact hb
theorem d6_0 : decode jdk_43_method_3_code 0 = .ok (.iload_n 0, 1) := by decide +kernel
theorem d6_1 : decode jdk_43_method_3_code 1 = .ok (.sipush 255, 3) := by decide +kernel
theorem d6_4 : decode jdk_43_method_3_code 4 = .ok (.if_icmp .gt 7, 3) := by decide +kernel
theorem d6_7 : decode jdk_43_method_3_code 7 = .ok (.iconst 1, 1) := by decide +kernel
theorem d6_8 : decode jdk_43_method_3_code 8 = .ok (.goto 4, 3) := by decide +kernel
theorem d6_12 : decode jdk_43_method_3_code 12 = .ok (.ireturn, 1) := by decide +kernel
theorem own_pn0 : plainName "java/lang/StringLatin1" = true := by first | (simp [plainName, overriddenIn]; done) | decide +kernel
def own_canEnc_Q (Z : State) (z : Int32) (h0 : Heap) (n0 : Nat) (v : Option Value) (h : Heap) (L : List Loc) : Prop := v = some (.int 1) ∧ Fr n0 L ∧ h = h0
set_option maxRecDepth 65536 in
set_option maxHeartbeats 40000000 in
theorem own_canEnc (l : Launch) (Z : State) (a0 : Array Value) (hw : ∀ d ∈ tables_1, d.before a0 Z = true) (ws : List Jvm.Cond) (z : Int32) (h0 : Heap) (n0 : Nat) (Z0 : n0 ≤ h0.size) (hz : ¬ (255 : Int32) < z) :
    MetFree l (⟨"java/lang/StringLatin1", "canEncode", "(C)Z"⟩ : MethodName) (head1 (Jvm.Cond.code (⟨"java/lang/StringLatin1", "canEncode", "(C)Z"⟩ : MethodName) jdk_43_method_3_code 1 (some .boolean) :: ws) ({ frames := 0, cells := 0, slots := 0, locals := 0 } : Room)) (fun aa U0 => aa = #[(.int z)] ∧ Z.Warmed39 U0.vm ∧ U0.heap = h0) (fun _ _ _ _ _ => True) (fun _ U0 o0 U1 => ∃ v0 L0, o0 = .returned v0 ∧ own_canEnc_Q Z z h0 n0 v0 U1.heap L0 ∧ FrameEnd U0 o0 U1 L0 ({ frames := 0, cells := 0, slots := 0, locals := 0 } : Room).cells ({ frames := 0, cells := 0, slots := 0, locals := 0 } : Room).slots) := by
  refine MetFree.of_bodySF (plainFor_of_name own_pn0) hisR ?_
  intro p e s m args below meth c s₁ Bd hml0 hP hK
  obtain ⟨rfl, hZ, hh⟩ := hP
  have hx := Bd.exec
  have hby := Bd.bytes
  have hml : c.maxLocals = 1 := hml0
  have hown : s.vm.findClass "java/lang/StringLatin1" = some m.cls := findClass_of_methodNamed Bd.named
  have hnm := (name_of_methodNamed Bd.named Bd.method).1
  have X0 : Stand p l e ({ frames := 0, cells := 0, slots := 0, locals := 0 } : Room) s m #[(.int z)] below meth c s₁ [] 0 0 := Stand.of_body Bd
  have e0 : s₁.heap = h0 := by rw [← hh, Bd.state]; rfl
  have N0 := Fr.nil n0
  show own_Go p e below s (own_canEnc_Q Z z h0 n0) 0 0 s₁ (entryFrame m #[(.int z)] 1)
  rw [show entryFrame m #[(.int z)] 1 = mkF m 0 #[.val (.int z)] [] from by first | (simp [entryFrame, mkF, argsToLocals, Value.category]; done) | rfl]
  refine own_st (T' := s₁) (g' := (mkF m 1 #[.val (.int z)] [(.int z)])) (fun _ k => XS.iloadN X0.here hx rfl (hb hby d6_0) rfl k) ?_
  refine own_st (T' := s₁) (g' := (mkF m 4 #[.val (.int z)] [(.int (255 : Int32)), (.int z)])) (fun _ k => XS.sipush X0.here hx rfl (hb hby d6_1) k) ?_
  refine own_st (T' := s₁) (g' := (mkF m 7 #[.val (.int z)] [])) (fun _ k => XS.icmpNo X0.here hx rfl (hb hby d6_4) rfl (Jvm.Free.XT.ii_gt_f hz) k) ?_
  refine own_st (T' := s₁) (g' := (mkF m 8 #[.val (.int z)] [(.int (1 : Int32))])) (fun _ k => XS.iconst X0.here hx rfl (hb hby d6_7) k) ?_
  refine own_st (T' := s₁) (g' := (mkF m 12 #[.val (.int z)] [(.int (1 : Int32))])) (fun _ k => XS.goto X0.here hx rfl (pc0 := 8) (pc' := 12) rfl (hb hby d6_8) (by decide) (by decide) k) ?_
  exact own_retN X0 hx Bd.returns Bd.notSynchronized e0 (by simp) (hb hby d6_12) ⟨rfl, N0, rfl⟩ (by decide) (by decide)
theorem d7_0 : decode jdk_43_method_46_code 0 = .ok (.iconst 1, 1) := by decide +kernel
theorem d7_1 : decode jdk_43_method_46_code 1 = .ok (.newarray .byte, 2) := by decide +kernel
theorem d7_3 : decode jdk_43_method_46_code 3 = .ok (.dup, 1) := by decide +kernel
theorem d7_4 : decode jdk_43_method_46_code 4 = .ok (.iconst 0, 1) := by decide +kernel
theorem d7_5 : decode jdk_43_method_46_code 5 = .ok (.iload_n 0, 1) := by decide +kernel
theorem d7_6 : decode jdk_43_method_46_code 6 = .ok (.i2b, 1) := by decide +kernel
theorem d7_7 : decode jdk_43_method_46_code 7 = .ok (.bastore, 1) := by decide +kernel
theorem d7_8 : decode jdk_43_method_46_code 8 = .ok (.areturn, 1) := by decide +kernel
def own_toBytes_Q (Z : State) (z : Int32) (h0 : Heap) (n0 : Nat) (v : Option Value) (h : Heap) (L : List Loc) : Prop := ∃ t k, v = some (.ref t) ∧ Fr n0 L ∧ Keep h0 h [] ∧ h0.size ≤ t ∧ own_Av Z h t k .byte 1 (fun _ => .int z.toInt8.toInt32)
set_option maxRecDepth 65536 in
set_option maxHeartbeats 40000000 in
theorem own_toBytes (l : Launch) (Z : State) (a0 : Array Value) (hw : ∀ d ∈ tables_1, d.before a0 Z = true) (ws : List Jvm.Cond) (z : Int32) (h0 : Heap) (n0 : Nat) (Z0 : n0 ≤ h0.size) :
    MetFree l (⟨"java/lang/StringLatin1", "toBytes", "(C)[B"⟩ : MethodName) (head1 (Jvm.Cond.code (⟨"java/lang/StringLatin1", "toBytes", "(C)[B"⟩ : MethodName) jdk_43_method_46_code 1 (some (.array .byte)) :: ws) ({ frames := 0, cells := 1, slots := 1, locals := 0 } : Room)) (fun aa U0 => aa = #[(.int z)] ∧ Z.Warmed39 U0.vm ∧ U0.heap = h0) (fun _ _ _ _ _ => True) (fun _ U0 o0 U1 => ∃ v0 L0, o0 = .returned v0 ∧ own_toBytes_Q Z z h0 n0 v0 U1.heap L0 ∧ FrameEnd U0 o0 U1 L0 ({ frames := 0, cells := 1, slots := 1, locals := 0 } : Room).cells ({ frames := 0, cells := 1, slots := 1, locals := 0 } : Room).slots) := by
  refine MetFree.of_bodySF (plainFor_of_name own_pn0) hisR ?_
  intro p e s m args below meth c s₁ Bd hml0 hP hK
  obtain ⟨rfl, hZ, hh⟩ := hP
  have hx := Bd.exec
  have hby := Bd.bytes
  have hml : c.maxLocals = 1 := hml0
  have hown : s.vm.findClass "java/lang/StringLatin1" = some m.cls := findClass_of_methodNamed Bd.named
  have hnm := (name_of_methodNamed Bd.named Bd.method).1
  have X0 : Stand p l e ({ frames := 0, cells := 1, slots := 1, locals := 0 } : Room) s m #[(.int z)] below meth c s₁ [] 0 0 := Stand.of_body Bd
  have e0 : s₁.heap = h0 := by rw [← hh, Bd.state]; rfl
  have N0 := Fr.nil n0
  show own_Go p e below s (own_toBytes_Q Z z h0 n0) 1 1 s₁ (entryFrame m #[(.int z)] 1)
  rw [show entryFrame m #[(.int z)] 1 = mkF m 0 #[.val (.int z)] [] from by first | (simp [entryFrame, mkF, argsToLocals, Value.category]; done) | rfl]
  have Kp := Keep.refl h0 []
  refine own_st (T' := s₁) (g' := (mkF m 1 #[.val (.int z)] [(.int (1 : Int32))])) (fun _ k => XS.iconst X0.here hx rfl (hb hby d7_0) k) ?_
  obtain ⟨T1, h1, k1, X1, e1, E1, A1, st1⟩ := newP X0 hx hZ (hw _ (List.mem_of_getElem? (i := 3) rfl)) e0 (g := (mkF m 1 #[.val (.int z)] [(.int (1 : Int32))])) rfl (hb hby d7_1) rfl (by decide) (cap := 1) (by decide) (by decide) (by decide) (by decide)
  obtain ⟨t, gt⟩ : ∃ z, z = h0.size := ⟨_, rfl⟩
  rw [← gt] at A1 st1
  have ge_t : n0 ≤ t := own_ge Z0 gt
  have sz_t : h0.size ≤ t := own_ge Kp.1 gt
  have Z0' := Nat.le_trans Z0 E1.1
  have Kp := Kp.ext E1
  have V_t := own_Av.new (n := 1) A1 rfl
  refine own_st (T' := T1) (g' := (mkF m 3 #[.val (.int z)] [(.ref t)])) st1 ?_
  refine own_st (T' := T1) (g' := (mkF m 4 #[.val (.int z)] [(.ref t), (.ref t)])) (fun _ k => XS.dup X1.here hx rfl (hb hby d7_3) rfl rfl k) ?_
  refine own_st (T' := T1) (g' := (mkF m 5 #[.val (.int z)] [(.int (0 : Int32)), (.ref t), (.ref t)])) (fun _ k => XS.iconst X1.here hx rfl (hb hby d7_4) k) ?_
  refine own_st (T' := T1) (g' := (mkF m 6 #[.val (.int z)] [(.int z), (.int (0 : Int32)), (.ref t), (.ref t)])) (fun _ k => XS.iloadN X1.here hx rfl (hb hby d7_5) rfl k) ?_
  refine own_st (T' := T1) (g' := (mkF m 7 #[.val (.int z)] [(.int (z.toInt8.toInt32)), (.int (0 : Int32)), (.ref t), (.ref t)])) (fun _ k => XS.i2b X1.here hx rfl (hb hby d7_6) rfl k) ?_
  obtain ⟨T2, h2, X2, e2, W2, V2, st2⟩ := own_stB X1 hx hZ e1 V_t (i := 0) (by decide) (by decide) (g := (mkF m 7 #[.val (.int z)] [(.int (z.toInt8.toInt32)), (.int (0 : Int32)), (.ref t), (.ref t)])) rfl rfl (hb hby d7_7)
  have Z0'' := Nat.le_trans Z0' (Keep.of_wr W2).1
  have Kp := Kp.wr W2 (Or.inr sz_t)
  have N0' := Fr.snoc X2 N0 ge_t
  have V_t := V2
  refine own_st (T' := T2) (g' := (mkF m 8 #[.val (.int z)] [(.ref t)])) st2 ?_
  exact own_retR X2 hx Bd.returns Bd.notSynchronized e2 rfl rfl (hb hby d7_8) ⟨t, _, rfl, N0', Kp, sz_t, V_t.to (fun j hj => by obtain rfl : j = 0 := (by omega); simp [own_narb])⟩ (by decide) (by decide)
theorem d8_0 : decode jdk_42_method_151_code 0 = .ok (.aload_n 0, 1) := by decide +kernel
theorem d8_1 : decode jdk_42_method_151_code 1 = .ok (.invokespecial 1, 3) := by decide +kernel
theorem d8_4 : decode jdk_42_method_151_code 4 = .ok (.aload_n 0, 1) := by decide +kernel
theorem d8_5 : decode jdk_42_method_151_code 5 = .ok (.aload_n 1, 1) := by decide +kernel
theorem d8_6 : decode jdk_42_method_151_code 6 = .ok (.putfield 9, 3) := by decide +kernel
theorem d8_9 : decode jdk_42_method_151_code 9 = .ok (.aload_n 0, 1) := by decide +kernel
theorem d8_10 : decode jdk_42_method_151_code 10 = .ok (.iload_n 2, 1) := by decide +kernel
theorem d8_11 : decode jdk_42_method_151_code 11 = .ok (.putfield 15, 3) := by decide +kernel
theorem d8_14 : decode jdk_42_method_151_code 14 = .ok (.return_, 1) := by decide +kernel
theorem own_pn1 : plainName "java/lang/String" = true := by first | (simp [plainName, overriddenIn]; done) | decide +kernel
def own_strIni_Q (Z : State) (a : Addr) (t : Addr) (h0 : Heap) (n0 : Nat) (v : Option Value) (h : Heap) (L : List Loc) : Prop := v = none ∧ Fr n0 L ∧ Keep h0 h [a] ∧ Exa Z h a "java/lang/String" ∧ Fld Z h a "java/lang/String" "value" "[B" (.ref t) ∧ Fld Z h a "java/lang/String" "coder" "B" (.int (0 : Int32))
set_option maxRecDepth 65536 in
set_option maxHeartbeats 40000000 in
theorem own_strIni (l : Launch) (Z : State) (a0 : Array Value) (hw : ∀ d ∈ tables_1, d.before a0 Z = true) (ws : List Jvm.Cond) (a : Addr) (t : Addr) (h0 : Heap) (n0 : Nat) (Z0 : n0 ≤ h0.size) (Fv : Fld Z h0 a "java/lang/String" "value" "[B" .null) (Fc : Fld Z h0 a "java/lang/String" "coder" "B" (.int (0 : Int32))) (Ea : Exa Z h0 a "java/lang/String") (ga : n0 ≤ a) :
    MetFree l (⟨"java/lang/String", "<init>", "([BB)V"⟩ : MethodName) (head1 (Jvm.Cond.code (⟨"java/lang/String", "<init>", "([BB)V"⟩ : MethodName) jdk_42_method_151_code 3 none :: ws) ({ frames := 1, cells := 0, slots := 0, locals := 12 } : Room)) (fun aa U0 => aa = #[(.ref a), (.ref t), (.int (0 : Int32))] ∧ Z.Warmed39 U0.vm ∧ U0.heap = h0) (fun _ _ _ _ _ => True) (fun _ U0 o0 U1 => ∃ v0 L0, o0 = .returned v0 ∧ own_strIni_Q Z a t h0 n0 v0 U1.heap L0 ∧ FrameEnd U0 o0 U1 L0 ({ frames := 1, cells := 0, slots := 0, locals := 12 } : Room).cells ({ frames := 1, cells := 0, slots := 0, locals := 12 } : Room).slots) := by
  refine MetFree.of_bodySF (plainFor_of_name own_pn1) hisR ?_
  intro p e s m args below meth c s₁ Bd hml0 hP hK
  obtain ⟨rfl, hZ, hh⟩ := hP
  have hx := Bd.exec
  have hby := Bd.bytes
  have hml : c.maxLocals = 3 := hml0
  have hown : s.vm.findClass "java/lang/String" = some m.cls := findClass_of_methodNamed Bd.named
  have hnm := (name_of_methodNamed Bd.named Bd.method).1
  have X0 : Stand p l e ({ frames := 1, cells := 0, slots := 0, locals := 12 } : Room) s m #[(.ref a), (.ref t), (.int (0 : Int32))] below meth c s₁ [] 0 0 := Stand.of_body Bd
  have e0 : s₁.heap = h0 := by rw [← hh, Bd.state]; rfl
  have N0 := Fr.nil n0
  show own_Go p e below s (own_strIni_Q Z a t h0 n0) 0 0 s₁ (entryFrame m #[(.ref a), (.ref t), (.int (0 : Int32))] 3)
  rw [show entryFrame m #[(.ref a), (.ref t), (.int (0 : Int32))] 3 = mkF m 0 #[.val (.ref a), .val (.ref t), .val (.int (0 : Int32))] [] from by first | (simp [entryFrame, mkF, argsToLocals, Value.category]; done) | rfl]
  have Kp := Keep.refl h0 [a]
  refine own_st (T' := s₁) (g' := (mkF m 1 #[.val (.ref a), .val (.ref t), .val (.int (0 : Int32))] [(.ref a)])) (fun _ k => XS.aloadN X0.here hx rfl (hb hby d8_0) rfl rfl k) ?_
  obtain ⟨T3, X3, e3, st3⟩ := initO X0 hx hZ hown (hw _ (List.mem_of_getElem? (i := 47) rfl)) (hw _ (List.mem_of_getElem? (i := 20) rfl)) (hw _ (List.mem_of_getElem? (i := 21) rfl)) e0 (g := (mkF m 1 #[.val (.ref a), .val (.ref t), .val (.int (0 : Int32))] [(.ref a)])) rfl (by rw [hml]; rfl) rfl (hb hby d8_1) (by decide) (W := 0) (by show 2 * 0 + _ ≤ _; exact Nat.le_of_eq rfl) (by decide)
  refine own_st (T' := T3) (g' := (mkF m 4 #[.val (.ref a), .val (.ref t), .val (.int (0 : Int32))] [])) st3 ?_
  refine own_st (T' := T3) (g' := (mkF m 5 #[.val (.ref a), .val (.ref t), .val (.int (0 : Int32))] [(.ref a)])) (fun _ k => XS.aloadN X3.here hx rfl (hb hby d8_4) rfl rfl k) ?_
  refine own_st (T' := T3) (g' := (mkF m 6 #[.val (.ref a), .val (.ref t), .val (.int (0 : Int32))] [(.ref t), (.ref a)])) (fun _ k => XS.aloadN X3.here hx rfl (hb hby d8_5) rfl rfl k) ?_
  obtain ⟨T4, h4, X4, e4, W4, st4⟩ := putF X3 hx hZ hown (host := "") (Or.inl (hw _ (List.mem_of_getElem? (i := 48) rfl))) Via.refl e3 Fv Ea (Or.inr ⟨(hw _ (List.mem_of_getElem? (i := 4) rfl)), rfl, hnm⟩) (hw _ (List.mem_of_getElem? (i := 2) rfl)) (ty := (.array .byte)) (by decide) rfl rfl (g := (mkF m 6 #[.val (.ref a), .val (.ref t), .val (.int (0 : Int32))] [(.ref t), (.ref a)])) rfl rfl (hb hby d8_6)
  have Fc := Fc.other W4 (Or.inr (slot_ne (Or.inr (hw _ (List.mem_of_getElem? (i := 5) rfl))) (Or.inr (hw _ (List.mem_of_getElem? (i := 4) rfl))) (by decide) (t := .byte) (t' := (.array .byte)) (by decide) (by decide)))
  have Ea := Ea.wr W4
  have Z0' := Nat.le_trans Z0 (Keep.of_wr W4).1
  have Kp := Kp.wr W4 (Or.inl (List.mem_of_getElem? (i := 0) rfl))
  have N0' := Fr.snoc X4 N0 ga
  have Fv := Fv.same W4
  refine own_st (T' := T4) (g' := (mkF m 9 #[.val (.ref a), .val (.ref t), .val (.int (0 : Int32))] [])) st4 ?_
  refine own_st (T' := T4) (g' := (mkF m 10 #[.val (.ref a), .val (.ref t), .val (.int (0 : Int32))] [(.ref a)])) (fun _ k => XS.aloadN X4.here hx rfl (hb hby d8_9) rfl rfl k) ?_
  refine own_st (T' := T4) (g' := (mkF m 11 #[.val (.ref a), .val (.ref t), .val (.int (0 : Int32))] [(.int (0 : Int32)), (.ref a)])) (fun _ k => XS.iloadN X4.here hx rfl (hb hby d8_10) rfl k) ?_
  obtain ⟨T5, h5, X5, e5, W5, st5⟩ := putFN X4 hx hZ hown (hw _ (List.mem_of_getElem? (i := 49) rfl)) Via.refl e4 Fc Ea (Or.inr ⟨(hw _ (List.mem_of_getElem? (i := 5) rfl)), rfl, hnm⟩) (hw _ (List.mem_of_getElem? (i := 2) rfl)) (ty := .byte) (v' := (.int (0 : Int32))) (by decide) rfl rfl (g := (mkF m 11 #[.val (.ref a), .val (.ref t), .val (.int (0 : Int32))] [(.int (0 : Int32)), (.ref a)])) rfl rfl (hb hby d8_11)
  have Fv := Fv.other W5 (Or.inr (slot_ne (Or.inr (hw _ (List.mem_of_getElem? (i := 4) rfl))) (Or.inr (hw _ (List.mem_of_getElem? (i := 5) rfl))) (by decide) (t := (.array .byte)) (t' := .byte) (by decide) (by decide)))
  have Ea := Ea.wr W5
  have Z0'' := Nat.le_trans Z0' (Keep.of_wr W5).1
  have Kp := Kp.wr W5 (Or.inl (List.mem_of_getElem? (i := 0) rfl))
  have N0'' := Fr.snoc X5 N0' ga
  have Fc := Fc.same W5
  refine own_st (T' := T5) (g' := (mkF m 14 #[.val (.ref a), .val (.ref t), .val (.int (0 : Int32))] [])) st5 ?_
  exact own_ret0 X5 hx Bd.returns Bd.notSynchronized e5 (hb hby d8_14) ⟨rfl, N0'', Kp, Ea, Fv, Fc⟩ (by decide) (by decide)
theorem own_pd0 : parseMethodDescriptor "(C)Z" = some ⟨[.char], some .boolean⟩ := by decide +kernel
theorem own_pd1 : parseMethodDescriptor "(C)[B" = some ⟨[.char], some (.array .byte)⟩ := by decide +kernel
theorem own_pd2 : parseMethodDescriptor "([BB)V" = some ⟨[(.array .byte), .byte], none⟩ := by decide +kernel
theorem d5_0 : decode jdk_42_method_139_code 0 = .ok (.getstatic 38, 3) := by decide +kernel
theorem d5_3 : decode jdk_42_method_139_code 3 = .ok (.ifCond .eq 23, 3) := by decide +kernel
theorem d5_6 : decode jdk_42_method_139_code 6 = .ok (.iload_n 0, 1) := by decide +kernel
theorem d5_7 : decode jdk_42_method_139_code 7 = .ok (.invokestatic 1015, 3) := by decide +kernel
theorem d5_10 : decode jdk_42_method_139_code 10 = .ok (.ifCond .eq 16, 3) := by decide +kernel
theorem d5_13 : decode jdk_42_method_139_code 13 = .ok (.new 10, 3) := by decide +kernel
theorem d5_16 : decode jdk_42_method_139_code 16 = .ok (.dup, 1) := by decide +kernel
theorem d5_17 : decode jdk_42_method_139_code 17 = .ok (.iload_n 0, 1) := by decide +kernel
theorem d5_18 : decode jdk_42_method_139_code 18 = .ok (.invokestatic 1018, 3) := by decide +kernel
theorem d5_21 : decode jdk_42_method_139_code 21 = .ok (.iconst 0, 1) := by decide +kernel
theorem d5_22 : decode jdk_42_method_139_code 22 = .ok (.invokespecial 209, 3) := by decide +kernel
theorem d5_25 : decode jdk_42_method_139_code 25 = .ok (.areturn, 1) := by decide +kernel
def own_valueOf_Q (Z : State) (z : Int32) (cs : Int32) (h0 : Heap) (n0 : Nat) (v : Option Value) (h : Heap) (L : List Loc) : Prop := ∃ a t k, v = some (.ref a) ∧ Fr n0 L ∧ Keep h0 h [] ∧ h0.size ≤ a ∧ h0.size ≤ t ∧ Exa Z h a "java/lang/String" ∧ Fld Z h a "java/lang/String" "value" "[B" (.ref t) ∧ Fld Z h a "java/lang/String" "coder" "B" (.int (0 : Int32)) ∧ own_Av Z h t k .byte 1 (fun _ => .int z.toInt8.toInt32)
set_option maxRecDepth 65536 in
set_option maxHeartbeats 40000000 in
theorem own_valueOf (l : Launch) (Z : State) (a0 : Array Value) (hw : ∀ d ∈ tables_1, d.before a0 Z = true) (ws : List Jvm.Cond) (z : Int32) (cs : Int32) (h0 : Heap) (n0 : Nat) (Z0 : n0 ≤ h0.size) (hz : ¬ (255 : Int32) < z) (SC : Sta Z h0 "java/lang/String" "COMPACT_STRINGS" "Z" (.int cs)) (hcs : ¬ cs = (0 : Int32)) :
    MetFree l (⟨"java/lang/String", "valueOf", "(C)Ljava/lang/String;"⟩ : MethodName) (head1 (Jvm.Cond.code (⟨"java/lang/String", "valueOf", "(C)Ljava/lang/String;"⟩ : MethodName) jdk_42_method_139_code 1 (some (.object "java/lang/String")) :: ws) ({ frames := 2, cells := 2, slots := 5, locals := 27 } : Room)) (fun aa U0 => aa = #[(.int z)] ∧ Z.Warmed39 U0.vm ∧ U0.heap = h0) (fun _ _ _ _ _ => True) (fun _ U0 o0 U1 => ∃ v0 L0, o0 = .returned v0 ∧ own_valueOf_Q Z z cs h0 n0 v0 U1.heap L0 ∧ FrameEnd U0 o0 U1 L0 ({ frames := 2, cells := 2, slots := 5, locals := 27 } : Room).cells ({ frames := 2, cells := 2, slots := 5, locals := 27 } : Room).slots) := by
  refine MetFree.of_bodySF (plainFor_of_name own_pn1) hisR ?_
  intro p e s m args below meth c s₁ Bd hml0 hP hK
  obtain ⟨rfl, hZ, hh⟩ := hP
  have hx := Bd.exec
  have hby := Bd.bytes
  have hml : c.maxLocals = 1 := hml0
  have hown : s.vm.findClass "java/lang/String" = some m.cls := findClass_of_methodNamed Bd.named
  have hnm := (name_of_methodNamed Bd.named Bd.method).1
  have X0 : Stand p l e ({ frames := 2, cells := 2, slots := 5, locals := 27 } : Room) s m #[(.int z)] below meth c s₁ [] 0 0 := Stand.of_body Bd
  have e0 : s₁.heap = h0 := by rw [← hh, Bd.state]; rfl
  have N0 := Fr.nil n0
  show own_Go p e below s (own_valueOf_Q Z z cs h0 n0) 2 5 s₁ (entryFrame m #[(.int z)] 1)
  rw [show entryFrame m #[(.int z)] 1 = mkF m 0 #[.val (.int z)] [] from by first | (simp [entryFrame, mkF, argsToLocals, Value.category]; done) | rfl]
  have Kp := Keep.refl h0 []
  obtain ⟨T6, X6, e6, st6⟩ := getS2 X0 hx hZ hown (host := "") (Or.inl (hw _ (List.mem_of_getElem? (i := 34) rfl))) Via.refl e0 SC (g := (mkF m 0 #[.val (.int z)] [])) rfl (hb hby d5_0)
  refine own_st (T' := T6) (g' := (mkF m 3 #[.val (.int z)] [(.int cs)])) st6 ?_
  refine own_st (T' := T6) (g' := (mkF m 6 #[.val (.int z)] [])) (fun _ k => XS.ifNo X6.here hx rfl (hb hby d5_3) rfl (Jvm.Free.XT.i0_eq_f hcs) k) ?_
  refine own_st (T' := T6) (g' := (mkF m 7 #[.val (.int z)] [(.int z)])) (fun _ k => XS.iloadN X6.here hx rfl (hb hby d5_6) rfl k) ?_
  obtain ⟨vq7, _, ⟨T7, L7, k7, n7⟩, -, X7, ⟨Lc7, hQ7, l7, y7, z7⟩, st7⟩ := Jvm.LawKit.callS X6 hx (y := (⟨"java/lang/StringLatin1", "canEncode", "(C)Z"⟩ : MethodName)) hown (mvT hZ (hw _ (List.mem_of_getElem? (i := 35) rfl))) (mvT hZ (hw _ (List.mem_of_getElem? (i := 36) rfl))) (mvT hZ (hw _ (List.mem_of_getElem? (i := 37) rfl))) (mvT hZ (hw _ (List.mem_of_getElem? (i := 38) rfl))) (by decide) (backOf (W := 0) (own_canEnc l Z a0 hw [] z h0 n0 Z0 hz) hZ (hw _ (List.mem_of_getElem? (i := 38) rfl)) (hw _ (List.mem_of_getElem? (i := 37) rfl)) (by decide) (by decide)) (g := (mkF m 7 #[.val (.int z)] [(.int z)])) rfl (by rw [hml]; rfl) (argsL := [(.int z)]) (rest := []) (lenOf own_pd0 rfl) rfl (by show 2 * 0 + _ ≤ _; exact Nat.le_of_eq rfl) (hb hby d5_7) (fun _ _ => ⟨rfl, e6, (by decide : 0 + 0 ≤ _), (by decide : 0 + 0 ≤ _)⟩)
  dsimp only [Pt.U, Pt.locs, Pt.cells, Pt.slots] at X7 l7 y7 z7 st7 hQ7
  subst l7 y7 z7
  obtain ⟨rfl, N7q, e7⟩ := hQ7
  have N0' := Fr.app N0 N7q
  refine own_st (T' := T7) (g' := (mkF m 10 #[.val (.int z)] [(.int (1 : Int32))])) st7 ?_
  refine own_st (T' := T7) (g' := (mkF m 13 #[.val (.int z)] [])) (fun _ k => XS.ifNo X7.here hx rfl (hb hby d5_10) rfl (Jvm.Free.XT.i0_eq_f (by decide)) k) ?_
  obtain ⟨T8, h8, X8, e8, E8, A8, D8, -, st8⟩ := newO X7 hx hZ hown (hw _ (List.mem_of_getElem? (i := 39) rfl)) (hw _ (List.mem_of_getElem? (i := 2) rfl)) (hw _ (List.mem_of_getElem? (i := 1) rfl)) e7 (g := (mkF m 13 #[.val (.int z)] [])) rfl (hb hby d5_13) (by decide) (by decide)
  obtain ⟨a, ga⟩ : ∃ z, z = h0.size := ⟨_, rfl⟩
  rw [← ga] at A8 D8 st8
  have ge_a : n0 ≤ a := own_ge Z0 ga
  have sz_a : h0.size ≤ a := own_ge Kp.1 ga
  have Z0' := Nat.le_trans Z0 E8.1
  have Kp := Kp.ext E8
  have E_a := A8
  have F_value_a : Fld Z h8 a "java/lang/String" "value" "[B" .null := D8 (Or.inr (hw _ (List.mem_of_getElem? (i := 4) rfl))) (ty := (.array .byte)) (by decide)
  have F_coder_a : Fld Z h8 a "java/lang/String" "coder" "B" (.int (0 : Int32)) := D8 (Or.inr (hw _ (List.mem_of_getElem? (i := 5) rfl))) (ty := .byte) (by decide)
  refine own_st (T' := T8) (g' := (mkF m 16 #[.val (.int z)] [(.ref a)])) st8 ?_
  refine own_st (T' := T8) (g' := (mkF m 17 #[.val (.int z)] [(.ref a), (.ref a)])) (fun _ k => XS.dup X8.here hx rfl (hb hby d5_16) rfl rfl k) ?_
  refine own_st (T' := T8) (g' := (mkF m 18 #[.val (.int z)] [(.int z), (.ref a), (.ref a)])) (fun _ k => XS.iloadN X8.here hx rfl (hb hby d5_17) rfl k) ?_
  have lt_a := E_a.lt
  obtain ⟨vq9, _, ⟨T9, L9, k9, n9⟩, -, X9, ⟨Lc9, hQ9, l9, y9, z9⟩, st9⟩ := Jvm.LawKit.callS X8 hx (y := (⟨"java/lang/StringLatin1", "toBytes", "(C)[B"⟩ : MethodName)) hown (mvT hZ (hw _ (List.mem_of_getElem? (i := 40) rfl))) (mvT hZ (hw _ (List.mem_of_getElem? (i := 41) rfl))) (mvT hZ (hw _ (List.mem_of_getElem? (i := 37) rfl))) (mvT hZ (hw _ (List.mem_of_getElem? (i := 42) rfl))) (by decide) (backOf (W := 2) (own_toBytes l Z a0 hw [] z h8 n0 Z0' ) hZ (hw _ (List.mem_of_getElem? (i := 42) rfl)) (hw _ (List.mem_of_getElem? (i := 37) rfl)) (by decide) (by decide)) (g := (mkF m 18 #[.val (.int z)] [(.int z), (.ref a), (.ref a)])) rfl (by rw [hml]; rfl) (argsL := [(.int z)]) (rest := [(.ref a), (.ref a)]) (lenOf own_pd1 rfl) rfl (by show 2 * 0 + _ ≤ _; exact Nat.le_of_eq rfl) (hb hby d5_18) (fun _ _ => ⟨rfl, e8, (by decide : ((0 + 0) + 1) + 1 ≤ _), (by decide : ((0 + 0) + 4) + 1 ≤ _)⟩)
  dsimp only [Pt.U, Pt.locs, Pt.cells, Pt.slots] at X9 l9 y9 z9 st9 hQ9
  subst l9 y9 z9
  obtain ⟨t, kt, rfl, N9q, K9, gt, Vt⟩ := hQ9
  have N0'' := Fr.app N0' N9q
  have ne_a_t : a ≠ t := own_ne2 lt_a gt
  have ge_t : n0 ≤ t := Nat.le_trans Z0' gt
  have sz_t : h0.size ≤ t := Nat.le_trans Kp.1 gt
  have E_a := E_a.keep K9
  have F_value_a := F_value_a.keep K9 nin0
  have F_coder_a := F_coder_a.keep K9 nin0
  have Z0'' := Nat.le_trans Z0' K9.1
  have Kp := Kp.trans K9 all0
  refine own_st (T' := T9) (g' := (mkF m 21 #[.val (.int z)] [(.ref t), (.ref a), (.ref a)])) st9 ?_
  refine own_st (T' := T9) (g' := (mkF m 22 #[.val (.int z)] [(.int (0 : Int32)), (.ref t), (.ref a), (.ref a)])) (fun _ k => XS.iconst X9.here hx rfl (hb hby d5_21) k) ?_
  obtain ⟨vq10, _, ⟨T10, L10, k10, n10⟩, -, X10, ⟨Lc10, hQ10, l10, y10, z10⟩, st10⟩ := X9.specialBack hx (y := (⟨"java/lang/String", "<init>", "([BB)V"⟩ : MethodName)) rfl hown (mvT hZ (hw _ (List.mem_of_getElem? (i := 43) rfl))) (mvT hZ (hw _ (List.mem_of_getElem? (i := 44) rfl))) (mvT hZ (hw _ (List.mem_of_getElem? (i := 46) rfl))) (by decide) (backOf (W := 1) (own_strIni l Z a0 hw [] a t T9.heap n0 Z0'' F_value_a F_coder_a E_a ge_a) hZ (hw _ (List.mem_of_getElem? (i := 46) rfl)) (hw _ (List.mem_of_getElem? (i := 1) rfl)) (by decide) (by decide)) (g := (mkF m 22 #[.val (.int z)] [(.int (0 : Int32)), (.ref t), (.ref a), (.ref a)])) rfl (by rw [hml]; rfl) (Steps.refl _) (a := a) (argsL := [(.ref t), (.int (0 : Int32))]) (rest := [(.ref a)]) (lenOf own_pd2 rfl) rfl (by show 2 * 0 + _ ≤ _; exact Nat.le_of_eq rfl) (hb hby d5_22) (fun _ _ => ⟨rfl, rfl, (by decide : (((0 + 0) + 1) + 1) + 0 ≤ _), (by decide : (((0 + 0) + 4) + 1) + 0 ≤ _)⟩)
  dsimp only [Pt.U, Pt.locs, Pt.cells, Pt.slots] at X10 l10 y10 z10 st10 hQ10
  subst l10 y10 z10
  obtain ⟨rfl, N10q, K10, -, Fv, Fc⟩ := hQ10
  have N0''' := Fr.app N0'' N10q
  have E_a := E_a.keep K10
  have Vt := Vt.keep K10 (ninS (Ne.symm ne_a_t) nin0)
  have Z0''' := Nat.le_trans Z0'' K10.1
  have Kp := Kp.trans K10 (allS (P := fun x => x ∈ [] ∨ h0.size ≤ x) (Or.inr sz_a) all0)
  refine own_tr (T' := T10) (g' := (mkF m 25 #[.val (.int z)] [(.ref a)])) st10 ?_
  exact own_retR X10 hx Bd.returns Bd.notSynchronized rfl rfl rfl (hb hby d5_25) ⟨a, t, kt, rfl, N0''', Kp, sz_a, sz_t, E_a, Fv, Fc, Vt⟩ (by decide) (by decide)
theorem d36_0 : decode jdk_29_method_69_code 0 = .ok (.iload_n 0, 1) := by decide +kernel
theorem d36_1 : decode jdk_29_method_69_code 1 = .ok (.iload_n 1, 1) := by decide +kernel
theorem d36_2 : decode jdk_29_method_69_code 2 = .ok (.if_icmp .gt 7, 3) := by decide +kernel
theorem d36_5 : decode jdk_29_method_69_code 5 = .ok (.iload_n 0, 1) := by decide +kernel
theorem d36_6 : decode jdk_29_method_69_code 6 = .ok (.goto 4, 3) := by decide +kernel
theorem d36_9 : decode jdk_29_method_69_code 9 = .ok (.iload_n 1, 1) := by decide +kernel
theorem d36_10 : decode jdk_29_method_69_code 10 = .ok (.ireturn, 1) := by decide +kernel
def own_min_Q (Z : State) (u : Int32) (w : Int32) (h0 : Heap) (n0 : Nat) (v : Option Value) (h : Heap) (L : List Loc) : Prop := v = some (.int (if w < u then w else u)) ∧ Fr n0 L ∧ h = h0
set_option maxRecDepth 65536 in
set_option maxHeartbeats 40000000 in
theorem own_min (l : Launch) (Z : State) (a0 : Array Value) (hw : ∀ d ∈ tables_1, d.before a0 Z = true) (ws : List Jvm.Cond) (u : Int32) (w : Int32) (h0 : Heap) (n0 : Nat) (Z0 : n0 ≤ h0.size) :
    MetFree l (⟨"java/lang/Math", "min", "(II)I"⟩ : MethodName) (head1 (Jvm.Cond.code (⟨"java/lang/Math", "min", "(II)I"⟩ : MethodName) jdk_29_method_69_code 2 (some .int) :: ws) ({ frames := 0, cells := 0, slots := 0, locals := 0 } : Room)) (fun aa U0 => aa = #[(.int u), (.int w)] ∧ Z.Warmed39 U0.vm ∧ U0.heap = h0) (fun _ _ _ _ _ => True) (fun _ U0 o0 U1 => ∃ v0 L0, o0 = .returned v0 ∧ own_min_Q Z u w h0 n0 v0 U1.heap L0 ∧ FrameEnd U0 o0 U1 L0 ({ frames := 0, cells := 0, slots := 0, locals := 0 } : Room).cells ({ frames := 0, cells := 0, slots := 0, locals := 0 } : Room).slots) := by
  refine MetFree.of_bodySF (Jvm.Free.JP.mathPlain rfl (by decide +kernel)) hisR ?_
  intro p e s m args below meth c s₁ Bd hml0 hP hK
  obtain ⟨rfl, hZ, hh⟩ := hP
  have hx := Bd.exec
  have hby := Bd.bytes
  have hml : c.maxLocals = 2 := hml0
  have hown : s.vm.findClass "java/lang/Math" = some m.cls := findClass_of_methodNamed Bd.named
  have hnm := (name_of_methodNamed Bd.named Bd.method).1
  have X0 : Stand p l e ({ frames := 0, cells := 0, slots := 0, locals := 0 } : Room) s m #[(.int u), (.int w)] below meth c s₁ [] 0 0 := Stand.of_body Bd
  have e0 : s₁.heap = h0 := by rw [← hh, Bd.state]; rfl
  have N0 := Fr.nil n0
  show own_Go p e below s (own_min_Q Z u w h0 n0) 0 0 s₁ (entryFrame m #[(.int u), (.int w)] 2)
  rw [show entryFrame m #[(.int u), (.int w)] 2 = mkF m 0 #[.val (.int u), .val (.int w)] [] from by first | (simp [entryFrame, mkF, argsToLocals, Value.category]; done) | rfl]
  refine own_st (T' := s₁) (g' := (mkF m 1 #[.val (.int u), .val (.int w)] [(.int u)])) (fun _ k => XS.iloadN X0.here hx rfl (hb hby d36_0) rfl k) ?_
  refine own_st (T' := s₁) (g' := (mkF m 2 #[.val (.int u), .val (.int w)] [(.int w), (.int u)])) (fun _ k => XS.iloadN X0.here hx rfl (hb hby d36_1) rfl k) ?_
  by_cases q1 : w < u
  · refine own_st (T' := s₁) (g' := (mkF m 9 #[.val (.int u), .val (.int w)] [])) (fun _ k => XS.icmpYes X0.here hx rfl (pc0 := 2) (pc' := 9) rfl (hb hby d36_2) rfl (Jvm.Free.XT.ii_gt_t q1) (by decide) (by decide) k) ?_
    refine own_st (T' := s₁) (g' := (mkF m 10 #[.val (.int u), .val (.int w)] [(.int w)])) (fun _ k => XS.iloadN X0.here hx rfl (hb hby d36_9) rfl k) ?_
    exact own_retI X0 hx Bd.returns Bd.notSynchronized e0 (hb hby d36_10) ⟨by simp [q1], N0, rfl⟩ (by decide) (by decide)
  · refine own_st (T' := s₁) (g' := (mkF m 5 #[.val (.int u), .val (.int w)] [])) (fun _ k => XS.icmpNo X0.here hx rfl (hb hby d36_2) rfl (Jvm.Free.XT.ii_gt_f q1) k) ?_
    refine own_st (T' := s₁) (g' := (mkF m 6 #[.val (.int u), .val (.int w)] [(.int u)])) (fun _ k => XS.iloadN X0.here hx rfl (hb hby d36_5) rfl k) ?_
    refine own_st (T' := s₁) (g' := (mkF m 10 #[.val (.int u), .val (.int w)] [(.int u)])) (fun _ k => XS.goto X0.here hx rfl (pc0 := 6) (pc' := 10) rfl (hb hby d36_6) (by decide) (by decide) k) ?_
    exact own_retI X0 hx Bd.returns Bd.notSynchronized e0 (hb hby d36_10) ⟨by simp [q1], N0, rfl⟩ (by decide) (by decide)
theorem d12_0 : decode jdk_22_method_1_code 0 = .ok (.aload_n 0, 1) := by decide +kernel
theorem d12_1 : decode jdk_22_method_1_code 1 = .ok (.invokespecial 1, 3) := by decide +kernel
theorem d12_4 : decode jdk_22_method_1_code 4 = .ok (.return_, 1) := by decide +kernel
theorem own_pn2 : plainName "java/util/AbstractCollection" = true := by first | (simp [plainName, overriddenIn]; done) | decide +kernel
def own_aci_Q (Z : State) (a : Addr) (h0 : Heap) (n0 : Nat) (v : Option Value) (h : Heap) (L : List Loc) : Prop := v = none ∧ Fr n0 L ∧ h = h0
set_option maxRecDepth 65536 in
set_option maxHeartbeats 40000000 in
theorem own_aci (l : Launch) (Z : State) (a0 : Array Value) (hw : ∀ d ∈ tables_1, d.before a0 Z = true) (ws : List Jvm.Cond) (a : Addr) (h0 : Heap) (n0 : Nat) (Z0 : n0 ≤ h0.size) :
    MetFree l (⟨"java/util/AbstractCollection", "<init>", "()V"⟩ : MethodName) (head1 (Jvm.Cond.code (⟨"java/util/AbstractCollection", "<init>", "()V"⟩ : MethodName) jdk_22_method_1_code 1 none :: ws) ({ frames := 1, cells := 0, slots := 0, locals := 12 } : Room)) (fun aa U0 => aa = #[(.ref a)] ∧ Z.Warmed39 U0.vm ∧ U0.heap = h0) (fun _ _ _ _ _ => True) (fun _ U0 o0 U1 => ∃ v0 L0, o0 = .returned v0 ∧ own_aci_Q Z a h0 n0 v0 U1.heap L0 ∧ FrameEnd U0 o0 U1 L0 ({ frames := 1, cells := 0, slots := 0, locals := 12 } : Room).cells ({ frames := 1, cells := 0, slots := 0, locals := 12 } : Room).slots) := by
  refine MetFree.of_bodySF (plainFor_of_name own_pn2) hisR ?_
  intro p e s m args below meth c s₁ Bd hml0 hP hK
  obtain ⟨rfl, hZ, hh⟩ := hP
  have hx := Bd.exec
  have hby := Bd.bytes
  have hml : c.maxLocals = 1 := hml0
  have hown : s.vm.findClass "java/util/AbstractCollection" = some m.cls := findClass_of_methodNamed Bd.named
  have hnm := (name_of_methodNamed Bd.named Bd.method).1
  have X0 : Stand p l e ({ frames := 1, cells := 0, slots := 0, locals := 12 } : Room) s m #[(.ref a)] below meth c s₁ [] 0 0 := Stand.of_body Bd
  have e0 : s₁.heap = h0 := by rw [← hh, Bd.state]; rfl
  have N0 := Fr.nil n0
  show own_Go p e below s (own_aci_Q Z a h0 n0) 0 0 s₁ (entryFrame m #[(.ref a)] 1)
  rw [show entryFrame m #[(.ref a)] 1 = mkF m 0 #[.val (.ref a)] [] from by first | (simp [entryFrame, mkF, argsToLocals, Value.category]; done) | rfl]
  refine own_st (T' := s₁) (g' := (mkF m 1 #[.val (.ref a)] [(.ref a)])) (fun _ k => XS.aloadN X0.here hx rfl (hb hby d12_0) rfl rfl k) ?_
  obtain ⟨T11, X11, e11, st11⟩ := initO X0 hx hZ hown (hw _ (List.mem_of_getElem? (i := 72) rfl)) (hw _ (List.mem_of_getElem? (i := 20) rfl)) (hw _ (List.mem_of_getElem? (i := 21) rfl)) e0 (g := (mkF m 1 #[.val (.ref a)] [(.ref a)])) rfl (by rw [hml]; rfl) rfl (hb hby d12_1) (by decide) (W := 0) (by show 2 * 0 + _ ≤ _; exact Nat.le_of_eq rfl) (by decide)
  refine own_st (T' := T11) (g' := (mkF m 4 #[.val (.ref a)] [])) st11 ?_
  exact own_ret0 X11 hx Bd.returns Bd.notSynchronized e11 (hb hby d12_4) ⟨rfl, N0, rfl⟩ (by decide) (by decide)
theorem own_pd3 : parseMethodDescriptor "()V" = some ⟨[], none⟩ := by decide +kernel
theorem d11_0 : decode jdk_39_method_1_code 0 = .ok (.aload_n 0, 1) := by decide +kernel
theorem d11_1 : decode jdk_39_method_1_code 1 = .ok (.invokespecial 1, 3) := by decide +kernel
theorem d11_4 : decode jdk_39_method_1_code 4 = .ok (.aload_n 0, 1) := by decide +kernel
theorem d11_5 : decode jdk_39_method_1_code 5 = .ok (.iconst 0, 1) := by decide +kernel
theorem d11_6 : decode jdk_39_method_1_code 6 = .ok (.putfield 7, 3) := by decide +kernel
theorem d11_9 : decode jdk_39_method_1_code 9 = .ok (.return_, 1) := by decide +kernel
theorem own_pn3 : plainName "java/util/AbstractList" = true := by first | (simp [plainName, overriddenIn]; done) | decide +kernel
def own_ali_Q (Z : State) (a : Addr) (h0 : Heap) (n0 : Nat) (v : Option Value) (h : Heap) (L : List Loc) : Prop := v = none ∧ Fr n0 L ∧ Keep h0 h [a] ∧ Fld Z h a "java/util/AbstractList" "modCount" "I" (.int (0 : Int32)) ∧ Fld Z h a "java/util/ArrayList" "elementData" "[Ljava/lang/Object;" .null ∧ Fld Z h a "java/util/ArrayList" "size" "I" (.int (0 : Int32))
set_option maxRecDepth 65536 in
set_option maxHeartbeats 40000000 in
theorem own_ali (l : Launch) (Z : State) (a0 : Array Value) (hw : ∀ d ∈ tables_1, d.before a0 Z = true) (ws : List Jvm.Cond) (a : Addr) (h0 : Heap) (n0 : Nat) (Z0 : n0 ≤ h0.size) (Fm : Fld Z h0 a "java/util/AbstractList" "modCount" "I" (.int (0 : Int32))) (Fe : Fld Z h0 a "java/util/ArrayList" "elementData" "[Ljava/lang/Object;" .null) (Fs : Fld Z h0 a "java/util/ArrayList" "size" "I" (.int (0 : Int32))) (Ea : Exa Z h0 a "java/util/ArrayList") (ga : n0 ≤ a) :
    MetFree l (⟨"java/util/AbstractList", "<init>", "()V"⟩ : MethodName) (head1 (Jvm.Cond.code (⟨"java/util/AbstractList", "<init>", "()V"⟩ : MethodName) jdk_39_method_1_code 1 none :: ws) ({ frames := 2, cells := 0, slots := 0, locals := 24 } : Room)) (fun aa U0 => aa = #[(.ref a)] ∧ Z.Warmed39 U0.vm ∧ U0.heap = h0) (fun _ _ _ _ _ => True) (fun _ U0 o0 U1 => ∃ v0 L0, o0 = .returned v0 ∧ own_ali_Q Z a h0 n0 v0 U1.heap L0 ∧ FrameEnd U0 o0 U1 L0 ({ frames := 2, cells := 0, slots := 0, locals := 24 } : Room).cells ({ frames := 2, cells := 0, slots := 0, locals := 24 } : Room).slots) := by
  refine MetFree.of_bodySF (plainFor_of_name own_pn3) hisR ?_
  intro p e s m args below meth c s₁ Bd hml0 hP hK
  obtain ⟨rfl, hZ, hh⟩ := hP
  have hx := Bd.exec
  have hby := Bd.bytes
  have hml : c.maxLocals = 1 := hml0
  have hown : s.vm.findClass "java/util/AbstractList" = some m.cls := findClass_of_methodNamed Bd.named
  have hnm := (name_of_methodNamed Bd.named Bd.method).1
  have X0 : Stand p l e ({ frames := 2, cells := 0, slots := 0, locals := 24 } : Room) s m #[(.ref a)] below meth c s₁ [] 0 0 := Stand.of_body Bd
  have e0 : s₁.heap = h0 := by rw [← hh, Bd.state]; rfl
  have N0 := Fr.nil n0
  show own_Go p e below s (own_ali_Q Z a h0 n0) 0 0 s₁ (entryFrame m #[(.ref a)] 1)
  rw [show entryFrame m #[(.ref a)] 1 = mkF m 0 #[.val (.ref a)] [] from by first | (simp [entryFrame, mkF, argsToLocals, Value.category]; done) | rfl]
  have Kp := Keep.refl h0 [a]
  refine own_st (T' := s₁) (g' := (mkF m 1 #[.val (.ref a)] [(.ref a)])) (fun _ k => XS.aloadN X0.here hx rfl (hb hby d11_0) rfl rfl k) ?_
  obtain ⟨vq12, _, ⟨T12, L12, k12, n12⟩, -, X12, ⟨Lc12, hQ12, l12, y12, z12⟩, st12⟩ := X0.specialBack hx (y := (⟨"java/util/AbstractCollection", "<init>", "()V"⟩ : MethodName)) rfl hown (mvT hZ (hw _ (List.mem_of_getElem? (i := 66) rfl))) (mvT hZ (hw _ (List.mem_of_getElem? (i := 67) rfl))) (mvT hZ (hw _ (List.mem_of_getElem? (i := 71) rfl))) (by decide) (backOf (W := 0) (own_aci l Z a0 hw [] a h0 n0 Z0 ) hZ (hw _ (List.mem_of_getElem? (i := 71) rfl)) (hw _ (List.mem_of_getElem? (i := 70) rfl)) (by decide) (by decide)) (g := (mkF m 1 #[.val (.ref a)] [(.ref a)])) rfl (by rw [hml]; rfl) (Steps.refl _) (a := a) (argsL := []) (rest := []) (lenOf own_pd3 rfl) rfl (by show 2 * 0 + _ ≤ _; exact Nat.le_of_eq rfl) (hb hby d11_1) (fun _ _ => ⟨rfl, e0, (by decide : 0 + 0 ≤ _), (by decide : 0 + 0 ≤ _)⟩)
  dsimp only [Pt.U, Pt.locs, Pt.cells, Pt.slots] at X12 l12 y12 z12 st12 hQ12
  subst l12 y12 z12
  obtain ⟨rfl, N12q, e12⟩ := hQ12
  have N0' := Fr.app N0 N12q
  refine own_tr (T' := T12) (g' := (mkF m 4 #[.val (.ref a)] [])) st12 ?_
  refine own_st (T' := T12) (g' := (mkF m 5 #[.val (.ref a)] [(.ref a)])) (fun _ k => XS.aloadN X12.here hx rfl (hb hby d11_4) rfl rfl k) ?_
  refine own_st (T' := T12) (g' := (mkF m 6 #[.val (.ref a)] [(.int (0 : Int32)), (.ref a)])) (fun _ k => XS.iconst X12.here hx rfl (hb hby d11_5) k) ?_
  obtain ⟨T13, h13, X13, e13, W13, st13⟩ := putF X12 hx hZ hown (host := "") (Or.inl (hw _ (List.mem_of_getElem? (i := 73) rfl))) Via.refl e12 Fm Ea (Or.inl (hw _ (List.mem_of_getElem? (i := 74) rfl))) (hw _ (List.mem_of_getElem? (i := 55) rfl)) (ty := .int) (by decide) rfl rfl (g := (mkF m 6 #[.val (.ref a)] [(.int (0 : Int32)), (.ref a)])) rfl rfl (hb hby d11_6)
  have Fe := Fe.other W13 (Or.inr (slot_ne (Or.inl (hw _ (List.mem_of_getElem? (i := 77) rfl))) (Or.inl (hw _ (List.mem_of_getElem? (i := 74) rfl))) (by decide) (t := (.array (.object "java/lang/Object"))) (t' := .int) (by decide) (by decide)))
  have Fs := Fs.other W13 (Or.inr (slot_ne (Or.inl (hw _ (List.mem_of_getElem? (i := 217) rfl))) (Or.inl (hw _ (List.mem_of_getElem? (i := 74) rfl))) (by decide) (t := .int) (t' := .int) (by decide) (by decide)))
  have Ea := Ea.wr W13
  have Z0' := Nat.le_trans Z0 (Keep.of_wr W13).1
  have Kp := Kp.wr W13 (Or.inl (List.mem_of_getElem? (i := 0) rfl))
  have N0'' := Fr.snoc X13 N0' ga
  have Fm := Fm.same W13
  refine own_st (T' := T13) (g' := (mkF m 9 #[.val (.ref a)] [])) st13 ?_
  exact own_ret0 X13 hx Bd.returns Bd.notSynchronized e13 (hb hby d11_9) ⟨rfl, N0'', Kp, Fm, Fe, Fs⟩ (by decide) (by decide)
theorem d10_0 : decode jdk_38_method_2_code 0 = .ok (.aload_n 0, 1) := by decide +kernel
theorem d10_1 : decode jdk_38_method_2_code 1 = .ok (.invokespecial 1, 3) := by decide +kernel
theorem d10_4 : decode jdk_38_method_2_code 4 = .ok (.aload_n 0, 1) := by decide +kernel
theorem d10_5 : decode jdk_38_method_2_code 5 = .ok (.getstatic 39, 3) := by decide +kernel
theorem d10_8 : decode jdk_38_method_2_code 8 = .ok (.putfield 9, 3) := by decide +kernel
theorem d10_11 : decode jdk_38_method_2_code 11 = .ok (.return_, 1) := by decide +kernel
theorem own_pn4 : plainName "java/util/ArrayList" = true := by first | (simp [plainName, overriddenIn]; done) | decide +kernel
def own_alIni_Q (Z : State) (a : Addr) (aD : Addr) (h0 : Heap) (n0 : Nat) (v : Option Value) (h : Heap) (L : List Loc) : Prop := v = none ∧ Fr n0 L ∧ Keep h0 h [a] ∧ Exa Z h a "java/util/ArrayList" ∧ Fld Z h a "java/util/AbstractList" "modCount" "I" (.int (0 : Int32)) ∧ Fld Z h a "java/util/ArrayList" "elementData" "[Ljava/lang/Object;" (.ref aD) ∧ Fld Z h a "java/util/ArrayList" "size" "I" (.int (0 : Int32))
set_option maxRecDepth 65536 in
set_option maxHeartbeats 40000000 in
theorem own_alIni (l : Launch) (Z : State) (a0 : Array Value) (hw : ∀ d ∈ tables_1, d.before a0 Z = true) (ws : List Jvm.Cond) (a : Addr) (aD : Addr) (h0 : Heap) (n0 : Nat) (Z0 : n0 ≤ h0.size) (Fm : Fld Z h0 a "java/util/AbstractList" "modCount" "I" (.int (0 : Int32))) (Fe : Fld Z h0 a "java/util/ArrayList" "elementData" "[Ljava/lang/Object;" .null) (Fs : Fld Z h0 a "java/util/ArrayList" "size" "I" (.int (0 : Int32))) (Ea : Exa Z h0 a "java/util/ArrayList") (ga : n0 ≤ a) (O : Old Z n0 h0) (SD0 : Sta Z Z.heap "java/util/ArrayList" "DEFAULTCAPACITY_EMPTY_ELEMENTDATA" "[Ljava/lang/Object;" (.ref aD)) :
    MetFree l (⟨"java/util/ArrayList", "<init>", "()V"⟩ : MethodName) (head1 (Jvm.Cond.code (⟨"java/util/ArrayList", "<init>", "()V"⟩ : MethodName) jdk_38_method_2_code 1 none :: ws) ({ frames := 3, cells := 0, slots := 0, locals := 36 } : Room)) (fun aa U0 => aa = #[(.ref a)] ∧ Z.Warmed39 U0.vm ∧ U0.heap = h0) (fun _ _ _ _ _ => True) (fun _ U0 o0 U1 => ∃ v0 L0, o0 = .returned v0 ∧ own_alIni_Q Z a aD h0 n0 v0 U1.heap L0 ∧ FrameEnd U0 o0 U1 L0 ({ frames := 3, cells := 0, slots := 0, locals := 36 } : Room).cells ({ frames := 3, cells := 0, slots := 0, locals := 36 } : Room).slots) := by
  refine MetFree.of_bodySF (plainFor_of_name own_pn4) hisR ?_
  intro p e s m args below meth c s₁ Bd hml0 hP hK
  obtain ⟨rfl, hZ, hh⟩ := hP
  have hx := Bd.exec
  have hby := Bd.bytes
  have hml : c.maxLocals = 1 := hml0
  have hown : s.vm.findClass "java/util/ArrayList" = some m.cls := findClass_of_methodNamed Bd.named
  have hnm := (name_of_methodNamed Bd.named Bd.method).1
  have X0 : Stand p l e ({ frames := 3, cells := 0, slots := 0, locals := 36 } : Room) s m #[(.ref a)] below meth c s₁ [] 0 0 := Stand.of_body Bd
  have e0 : s₁.heap = h0 := by rw [← hh, Bd.state]; rfl
  have N0 := Fr.nil n0
  show own_Go p e below s (own_alIni_Q Z a aD h0 n0) 0 0 s₁ (entryFrame m #[(.ref a)] 1)
  rw [show entryFrame m #[(.ref a)] 1 = mkF m 0 #[.val (.ref a)] [] from by first | (simp [entryFrame, mkF, argsToLocals, Value.category]; done) | rfl]
  have Kp := Keep.refl h0 [a]
  refine own_st (T' := s₁) (g' := (mkF m 1 #[.val (.ref a)] [(.ref a)])) (fun _ k => XS.aloadN X0.here hx rfl (hb hby d10_0) rfl rfl k) ?_
  obtain ⟨vq14, _, ⟨T14, L14, k14, n14⟩, -, X14, ⟨Lc14, hQ14, l14, y14, z14⟩, st14⟩ := X0.specialBack hx (y := (⟨"java/util/AbstractList", "<init>", "()V"⟩ : MethodName)) rfl hown (mvT hZ (hw _ (List.mem_of_getElem? (i := 60) rfl))) (mvT hZ (hw _ (List.mem_of_getElem? (i := 61) rfl))) (mvT hZ (hw _ (List.mem_of_getElem? (i := 65) rfl))) (by decide) (backOf (W := 0) (own_ali l Z a0 hw [] a h0 n0 Z0 Fm Fe Fs Ea ga) hZ (hw _ (List.mem_of_getElem? (i := 65) rfl)) (hw _ (List.mem_of_getElem? (i := 64) rfl)) (by decide) (by decide)) (g := (mkF m 1 #[.val (.ref a)] [(.ref a)])) rfl (by rw [hml]; rfl) (Steps.refl _) (a := a) (argsL := []) (rest := []) (lenOf own_pd3 rfl) rfl (by show 2 * 0 + _ ≤ _; exact Nat.le_of_eq rfl) (hb hby d10_1) (fun _ _ => ⟨rfl, e0, (by decide : 0 + 0 ≤ _), (by decide : 0 + 0 ≤ _)⟩)
  dsimp only [Pt.U, Pt.locs, Pt.cells, Pt.slots] at X14 l14 y14 z14 st14 hQ14
  subst l14 y14 z14
  obtain ⟨rfl, N14q, K14, Fm, Fe, Fs⟩ := hQ14
  have N0' := Fr.app N0 N14q
  have Ea := Ea.keep K14
  have O := O.keep K14 ((allS ga all0))
  have Z0' := Nat.le_trans Z0 K14.1
  have Kp := Kp.trans K14 (allS (P := fun x => x ∈ [a] ∨ h0.size ≤ x) (Or.inl (List.mem_of_getElem? (i := 0) rfl)) all0)
  refine own_tr (T' := T14) (g' := (mkF m 4 #[.val (.ref a)] [])) st14 ?_
  have SD := SD0.ext O.2
  refine own_st (T' := T14) (g' := (mkF m 5 #[.val (.ref a)] [(.ref a)])) (fun _ k => XS.aloadN X14.here hx rfl (hb hby d10_4) rfl rfl k) ?_
  obtain ⟨T15, X15, e15, st15⟩ := getS2 X14 hx hZ hown (host := "") (Or.inl (hw _ (List.mem_of_getElem? (i := 75) rfl))) Via.refl rfl SD (g := (mkF m 5 #[.val (.ref a)] [(.ref a)])) rfl (hb hby d10_5)
  refine own_st (T' := T15) (g' := (mkF m 8 #[.val (.ref a)] [(.ref aD), (.ref a)])) st15 ?_
  obtain ⟨T16, h16, X16, e16, W16, st16⟩ := putF X15 hx hZ hown (host := "") (Or.inl (hw _ (List.mem_of_getElem? (i := 76) rfl))) Via.refl e15 Fe Ea (Or.inl (hw _ (List.mem_of_getElem? (i := 77) rfl))) (hw _ (List.mem_of_getElem? (i := 55) rfl)) (ty := (.array (.object "java/lang/Object"))) (by decide) rfl rfl (g := (mkF m 8 #[.val (.ref a)] [(.ref aD), (.ref a)])) rfl rfl (hb hby d10_8)
  have Ea := Ea.wr W16
  have O := O.wr W16 ga
  have Fm := Fm.other W16 (Or.inr (slot_ne (Or.inl (hw _ (List.mem_of_getElem? (i := 74) rfl))) (Or.inl (hw _ (List.mem_of_getElem? (i := 77) rfl))) (by decide) (t := .int) (t' := (.array (.object "java/lang/Object"))) (by decide) (by decide)))
  have Fs := Fs.other W16 (Or.inr (slot_ne (Or.inl (hw _ (List.mem_of_getElem? (i := 217) rfl))) (Or.inl (hw _ (List.mem_of_getElem? (i := 77) rfl))) (by decide) (t := .int) (t' := (.array (.object "java/lang/Object"))) (by decide) (by decide)))
  have SD := SD.wr W16
  have Z0'' := Nat.le_trans Z0' (Keep.of_wr W16).1
  have Kp := Kp.wr W16 (Or.inl (List.mem_of_getElem? (i := 0) rfl))
  have N0'' := Fr.snoc X16 N0' ga
  have Fe := Fe.same W16
  refine own_st (T' := T16) (g' := (mkF m 11 #[.val (.ref a)] [])) st16 ?_
  exact own_ret0 X16 hx Bd.returns Bd.notSynchronized e16 (hb hby d10_11) ⟨rfl, N0'', Kp, Ea, Fm, Fe, Fs⟩ (by decide) (by decide)
theorem d42_0 : decode jdk_29_method_65_code 0 = .ok (.iload_n 0, 1) := by decide +kernel
theorem d42_1 : decode jdk_29_method_65_code 1 = .ok (.iload_n 1, 1) := by decide +kernel
theorem d42_2 : decode jdk_29_method_65_code 2 = .ok (.if_icmp .lt 7, 3) := by decide +kernel
theorem d42_5 : decode jdk_29_method_65_code 5 = .ok (.iload_n 0, 1) := by decide +kernel
theorem d42_6 : decode jdk_29_method_65_code 6 = .ok (.goto 4, 3) := by decide +kernel
theorem d42_9 : decode jdk_29_method_65_code 9 = .ok (.iload_n 1, 1) := by decide +kernel
theorem d42_10 : decode jdk_29_method_65_code 10 = .ok (.ireturn, 1) := by decide +kernel
def own_max_Q (Z : State) (u : Int32) (w : Int32) (h0 : Heap) (n0 : Nat) (v : Option Value) (h : Heap) (L : List Loc) : Prop := v = some (.int (if u < w then w else u)) ∧ Fr n0 L ∧ h = h0
set_option maxRecDepth 65536 in
set_option maxHeartbeats 40000000 in
theorem own_max (l : Launch) (Z : State) (a0 : Array Value) (hw : ∀ d ∈ tables_1, d.before a0 Z = true) (ws : List Jvm.Cond) (u : Int32) (w : Int32) (h0 : Heap) (n0 : Nat) (Z0 : n0 ≤ h0.size) :
    MetFree l (⟨"java/lang/Math", "max", "(II)I"⟩ : MethodName) (head1 (Jvm.Cond.code (⟨"java/lang/Math", "max", "(II)I"⟩ : MethodName) jdk_29_method_65_code 2 (some .int) :: ws) ({ frames := 0, cells := 0, slots := 0, locals := 0 } : Room)) (fun aa U0 => aa = #[(.int u), (.int w)] ∧ Z.Warmed39 U0.vm ∧ U0.heap = h0) (fun _ _ _ _ _ => True) (fun _ U0 o0 U1 => ∃ v0 L0, o0 = .returned v0 ∧ own_max_Q Z u w h0 n0 v0 U1.heap L0 ∧ FrameEnd U0 o0 U1 L0 ({ frames := 0, cells := 0, slots := 0, locals := 0 } : Room).cells ({ frames := 0, cells := 0, slots := 0, locals := 0 } : Room).slots) := by
  refine MetFree.of_bodySF (Jvm.Free.JP.mathPlain rfl (by decide +kernel)) hisR ?_
  intro p e s m args below meth c s₁ Bd hml0 hP hK
  obtain ⟨rfl, hZ, hh⟩ := hP
  have hx := Bd.exec
  have hby := Bd.bytes
  have hml : c.maxLocals = 2 := hml0
  have hown : s.vm.findClass "java/lang/Math" = some m.cls := findClass_of_methodNamed Bd.named
  have hnm := (name_of_methodNamed Bd.named Bd.method).1
  have X0 : Stand p l e ({ frames := 0, cells := 0, slots := 0, locals := 0 } : Room) s m #[(.int u), (.int w)] below meth c s₁ [] 0 0 := Stand.of_body Bd
  have e0 : s₁.heap = h0 := by rw [← hh, Bd.state]; rfl
  have N0 := Fr.nil n0
  show own_Go p e below s (own_max_Q Z u w h0 n0) 0 0 s₁ (entryFrame m #[(.int u), (.int w)] 2)
  rw [show entryFrame m #[(.int u), (.int w)] 2 = mkF m 0 #[.val (.int u), .val (.int w)] [] from by first | (simp [entryFrame, mkF, argsToLocals, Value.category]; done) | rfl]
  refine own_st (T' := s₁) (g' := (mkF m 1 #[.val (.int u), .val (.int w)] [(.int u)])) (fun _ k => XS.iloadN X0.here hx rfl (hb hby d42_0) rfl k) ?_
  refine own_st (T' := s₁) (g' := (mkF m 2 #[.val (.int u), .val (.int w)] [(.int w), (.int u)])) (fun _ k => XS.iloadN X0.here hx rfl (hb hby d42_1) rfl k) ?_
  by_cases q1 : u < w
  · refine own_st (T' := s₁) (g' := (mkF m 9 #[.val (.int u), .val (.int w)] [])) (fun _ k => XS.icmpYes X0.here hx rfl (pc0 := 2) (pc' := 9) rfl (hb hby d42_2) rfl (Jvm.Free.XT.ii_lt_t q1) (by decide) (by decide) k) ?_
    refine own_st (T' := s₁) (g' := (mkF m 10 #[.val (.int u), .val (.int w)] [(.int w)])) (fun _ k => XS.iloadN X0.here hx rfl (hb hby d42_9) rfl k) ?_
    exact own_retI X0 hx Bd.returns Bd.notSynchronized e0 (hb hby d42_10) ⟨by simp [q1], N0, rfl⟩ (by decide) (by decide)
  · refine own_st (T' := s₁) (g' := (mkF m 5 #[.val (.int u), .val (.int w)] [])) (fun _ k => XS.icmpNo X0.here hx rfl (hb hby d42_2) rfl (Jvm.Free.XT.ii_lt_f q1) k) ?_
    refine own_st (T' := s₁) (g' := (mkF m 6 #[.val (.int u), .val (.int w)] [(.int u)])) (fun _ k => XS.iloadN X0.here hx rfl (hb hby d42_5) rfl k) ?_
    refine own_st (T' := s₁) (g' := (mkF m 10 #[.val (.int u), .val (.int w)] [(.int u)])) (fun _ k => XS.goto X0.here hx rfl (pc0 := 6) (pc' := 10) rfl (hb hby d42_6) (by decide) (by decide) k) ?_
    exact own_retI X0 hx Bd.returns Bd.notSynchronized e0 (hb hby d42_10) ⟨by simp [q1], N0, rfl⟩ (by decide) (by decide)
theorem own_pd4 : parseMethodDescriptor "(II)I" = some ⟨[.int, .int], some .int⟩ := by decide +kernel
theorem d41_0 : decode jdk_38_method_6_code 0 = .ok (.aload_n 0, 1) := by decide +kernel
theorem d41_1 : decode jdk_38_method_6_code 1 = .ok (.getfield 9, 3) := by decide +kernel
theorem d41_4 : decode jdk_38_method_6_code 4 = .ok (.arraylength, 1) := by decide +kernel
theorem d41_5 : decode jdk_38_method_6_code 5 = .ok (.istore_n 2, 1) := by decide +kernel
theorem d41_6 : decode jdk_38_method_6_code 6 = .ok (.iload_n 2, 1) := by decide +kernel
theorem d41_7 : decode jdk_38_method_6_code 7 = .ok (.ifCond .gt 13, 3) := by decide +kernel
theorem d41_10 : decode jdk_38_method_6_code 10 = .ok (.aload_n 0, 1) := by decide +kernel
theorem d41_11 : decode jdk_38_method_6_code 11 = .ok (.getfield 9, 3) := by decide +kernel
theorem d41_14 : decode jdk_38_method_6_code 14 = .ok (.getstatic 39, 3) := by decide +kernel
theorem d41_17 : decode jdk_38_method_6_code 17 = .ok (.if_acmp .eq 28, 3) := by decide +kernel
theorem d41_45 : decode jdk_38_method_6_code 45 = .ok (.aload_n 0, 1) := by decide +kernel
theorem d41_46 : decode jdk_38_method_6_code 46 = .ok (.bipush 10, 2) := by decide +kernel
theorem d41_48 : decode jdk_38_method_6_code 48 = .ok (.iload_n 1, 1) := by decide +kernel
theorem d41_49 : decode jdk_38_method_6_code 49 = .ok (.invokestatic 79, 3) := by decide +kernel
theorem d41_52 : decode jdk_38_method_6_code 52 = .ok (.anewarray 7, 3) := by decide +kernel
theorem d41_55 : decode jdk_38_method_6_code 55 = .ok (.dup_x1, 1) := by decide +kernel
theorem d41_56 : decode jdk_38_method_6_code 56 = .ok (.putfield 9, 3) := by decide +kernel
theorem d41_59 : decode jdk_38_method_6_code 59 = .ok (.areturn, 1) := by decide +kernel
def own_grow1_Q (Z : State) (a : Addr) (aD : Addr) (kD : ClassId) (fD : Nat → Value) (md : Int32) (h0 : Heap) (n0 : Nat) (v : Option Value) (h : Heap) (L : List Loc) : Prop := ∃ t k, v = some (.ref t) ∧ Fr n0 L ∧ Keep h0 h [a] ∧ h0.size ≤ t ∧ own_Av Z h t k (.object "java/lang/Object") 10 (fun _ => .null) ∧ Ovr Z k "java/lang/Object" ∧ Fld Z h a "java/util/AbstractList" "modCount" "I" (.int md) ∧ Fld Z h a "java/util/ArrayList" "elementData" "[Ljava/lang/Object;" (.ref t) ∧ Fld Z h a "java/util/ArrayList" "size" "I" (.int (0 : Int32))
set_option maxRecDepth 65536 in
set_option maxHeartbeats 40000000 in
theorem own_grow1 (l : Launch) (Z : State) (a0 : Array Value) (hw : ∀ d ∈ tables_1, d.before a0 Z = true) (ws : List Jvm.Cond) (a : Addr) (aD : Addr) (kD : ClassId) (fD : Nat → Value) (md : Int32) (h0 : Heap) (n0 : Nat) (Z0 : n0 ≤ h0.size) (Fm : Fld Z h0 a "java/util/AbstractList" "modCount" "I" (.int md)) (Fe : Fld Z h0 a "java/util/ArrayList" "elementData" "[Ljava/lang/Object;" (.ref aD)) (Fs : Fld Z h0 a "java/util/ArrayList" "size" "I" (.int (0 : Int32))) (Ea : Exa Z h0 a "java/util/ArrayList") (ga : n0 ≤ a) (VD : own_Av Z h0 aD kD (.object "java/lang/Object") 0 fD) (nD : aD ≠ a) (SD : Sta Z h0 "java/util/ArrayList" "DEFAULTCAPACITY_EMPTY_ELEMENTDATA" "[Ljava/lang/Object;" (.ref aD)) :
    MetFree l (⟨"java/util/ArrayList", "grow", "(I)[Ljava/lang/Object;"⟩ : MethodName) (head1 (Jvm.Cond.code (⟨"java/util/ArrayList", "grow", "(I)[Ljava/lang/Object;"⟩ : MethodName) jdk_38_method_6_code 4 (some (.array (.object "java/lang/Object"))) :: ws) ({ frames := 1, cells := 1, slots := 10, locals := 14 } : Room)) (fun aa U0 => aa = #[(.ref a), (.int (1 : Int32))] ∧ Z.Warmed39 U0.vm ∧ U0.heap = h0) (fun _ _ _ _ _ => True) (fun _ U0 o0 U1 => ∃ v0 L0, o0 = .returned v0 ∧ own_grow1_Q Z a aD kD fD md h0 n0 v0 U1.heap L0 ∧ FrameEnd U0 o0 U1 L0 ({ frames := 1, cells := 1, slots := 10, locals := 14 } : Room).cells ({ frames := 1, cells := 1, slots := 10, locals := 14 } : Room).slots) := by
  refine MetFree.of_bodySF (plainFor_of_name own_pn4) hisR ?_
  intro p e s m args below meth c s₁ Bd hml0 hP hK
  obtain ⟨rfl, hZ, hh⟩ := hP
  have hx := Bd.exec
  have hby := Bd.bytes
  have hml : c.maxLocals = 4 := hml0
  have hown : s.vm.findClass "java/util/ArrayList" = some m.cls := findClass_of_methodNamed Bd.named
  have hnm := (name_of_methodNamed Bd.named Bd.method).1
  have X0 : Stand p l e ({ frames := 1, cells := 1, slots := 10, locals := 14 } : Room) s m #[(.ref a), (.int (1 : Int32))] below meth c s₁ [] 0 0 := Stand.of_body Bd
  have e0 : s₁.heap = h0 := by rw [← hh, Bd.state]; rfl
  have N0 := Fr.nil n0
  show own_Go p e below s (own_grow1_Q Z a aD kD fD md h0 n0) 1 10 s₁ (entryFrame m #[(.ref a), (.int (1 : Int32))] 4)
  rw [show entryFrame m #[(.ref a), (.int (1 : Int32))] 4 = mkF m 0 #[.val (.ref a), .val (.int (1 : Int32)), .unset, .unset] [] from by first | (simp [entryFrame, mkF, argsToLocals, Value.category]; done) | rfl]
  have Kp := Keep.refl h0 [a]
  refine own_st (T' := s₁) (g' := (mkF m 1 #[.val (.ref a), .val (.int (1 : Int32)), .unset, .unset] [(.ref a)])) (fun _ k => XS.aloadN X0.here hx rfl (hb hby d41_0) rfl rfl k) ?_
  obtain ⟨T17, X17, e17, st17⟩ := getF X0 hx hZ hown (host := "") (Or.inl (hw _ (List.mem_of_getElem? (i := 76) rfl))) Via.refl e0 Fe (g := (mkF m 1 #[.val (.ref a), .val (.int (1 : Int32)), .unset, .unset] [(.ref a)])) rfl rfl (hb hby d41_1)
  refine own_st (T' := T17) (g' := (mkF m 4 #[.val (.ref a), .val (.int (1 : Int32)), .unset, .unset] [(.ref aD)])) st17 ?_
  refine own_st (T' := T17) (g' := (mkF m 5 #[.val (.ref a), .val (.int (1 : Int32)), .unset, .unset] [(.int (0 : Int32))])) (own_len X17 hx hZ e17 VD (z := (0 : Int32)) rfl (g := (mkF m 4 #[.val (.ref a), .val (.int (1 : Int32)), .unset, .unset] [(.ref aD)])) rfl rfl (hb hby d41_4)) ?_
  refine own_st (T' := T17) (g' := (mkF m 6 #[.val (.ref a), .val (.int (1 : Int32)), .val (.int (0 : Int32)), .unset] [])) (fun _ k => XS.istoreN X17.here hx rfl (hb hby d41_5) rfl (l' := #[.val (.ref a), .val (.int (1 : Int32)), .val (.int (0 : Int32)), .unset]) rfl k) ?_
  refine own_st (T' := T17) (g' := (mkF m 7 #[.val (.ref a), .val (.int (1 : Int32)), .val (.int (0 : Int32)), .unset] [(.int (0 : Int32))])) (fun _ k => XS.iloadN X17.here hx rfl (hb hby d41_6) rfl k) ?_
  refine own_st (T' := T17) (g' := (mkF m 10 #[.val (.ref a), .val (.int (1 : Int32)), .val (.int (0 : Int32)), .unset] [])) (fun _ k => XS.ifNo X17.here hx rfl (hb hby d41_7) rfl (Jvm.Free.XT.i0_gt_f (by decide)) k) ?_
  refine own_st (T' := T17) (g' := (mkF m 11 #[.val (.ref a), .val (.int (1 : Int32)), .val (.int (0 : Int32)), .unset] [(.ref a)])) (fun _ k => XS.aloadN X17.here hx rfl (hb hby d41_10) rfl rfl k) ?_
  obtain ⟨T18, X18, e18, st18⟩ := getF X17 hx hZ hown (host := "") (Or.inl (hw _ (List.mem_of_getElem? (i := 76) rfl))) Via.refl e17 Fe (g := (mkF m 11 #[.val (.ref a), .val (.int (1 : Int32)), .val (.int (0 : Int32)), .unset] [(.ref a)])) rfl rfl (hb hby d41_11)
  refine own_st (T' := T18) (g' := (mkF m 14 #[.val (.ref a), .val (.int (1 : Int32)), .val (.int (0 : Int32)), .unset] [(.ref aD)])) st18 ?_
  obtain ⟨T19, X19, e19, st19⟩ := getS2 X18 hx hZ hown (host := "") (Or.inl (hw _ (List.mem_of_getElem? (i := 75) rfl))) Via.refl e18 SD (g := (mkF m 14 #[.val (.ref a), .val (.int (1 : Int32)), .val (.int (0 : Int32)), .unset] [(.ref aD)])) rfl (hb hby d41_14)
  refine own_st (T' := T19) (g' := (mkF m 17 #[.val (.ref a), .val (.int (1 : Int32)), .val (.int (0 : Int32)), .unset] [(.ref aD), (.ref aD)])) st19 ?_
  refine own_st (T' := T19) (g' := (mkF m 45 #[.val (.ref a), .val (.int (1 : Int32)), .val (.int (0 : Int32)), .unset] [])) (fun _ k => Jvm.Free.XT.acmpYes X19.here hx rfl (pc0 := 17) (pc' := 45) rfl (hb hby d41_17) rfl rfl rfl (Jvm.Free.XT.aa_eq_t rfl) (by decide) (by decide) k) ?_
  refine own_st (T' := T19) (g' := (mkF m 46 #[.val (.ref a), .val (.int (1 : Int32)), .val (.int (0 : Int32)), .unset] [(.ref a)])) (fun _ k => XS.aloadN X19.here hx rfl (hb hby d41_45) rfl rfl k) ?_
  refine own_st (T' := T19) (g' := (mkF m 48 #[.val (.ref a), .val (.int (1 : Int32)), .val (.int (0 : Int32)), .unset] [(.int (10 : Int32)), (.ref a)])) (fun _ k => XS.bipush X19.here hx rfl (hb hby d41_46) k) ?_
  refine own_st (T' := T19) (g' := (mkF m 49 #[.val (.ref a), .val (.int (1 : Int32)), .val (.int (0 : Int32)), .unset] [(.int (1 : Int32)), (.int (10 : Int32)), (.ref a)])) (fun _ k => XS.iloadN X19.here hx rfl (hb hby d41_48) rfl k) ?_
  obtain ⟨vq20, _, ⟨T20, L20, k20, n20⟩, -, X20, ⟨Lc20, hQ20, l20, y20, z20⟩, st20⟩ := Jvm.LawKit.callS X19 hx (y := (⟨"java/lang/Math", "max", "(II)I"⟩ : MethodName)) hown (mvT hZ (hw _ (List.mem_of_getElem? (i := 233) rfl))) (mvT hZ (hw _ (List.mem_of_getElem? (i := 234) rfl))) (mvT hZ (hw _ (List.mem_of_getElem? (i := 194) rfl))) (mvT hZ (hw _ (List.mem_of_getElem? (i := 235) rfl))) (by decide) (backOf (W := 1) (own_max l Z a0 hw [] (10 : Int32) (1 : Int32) h0 n0 Z0 ) hZ (hw _ (List.mem_of_getElem? (i := 235) rfl)) (hw _ (List.mem_of_getElem? (i := 194) rfl)) (by decide) (by decide)) (g := (mkF m 49 #[.val (.ref a), .val (.int (1 : Int32)), .val (.int (0 : Int32)), .unset] [(.int (1 : Int32)), (.int (10 : Int32)), (.ref a)])) rfl (by rw [hml]; rfl) (argsL := [(.int (10 : Int32)), (.int (1 : Int32))]) (rest := [(.ref a)]) (lenOf own_pd4 rfl) rfl (by show 2 * 0 + _ ≤ _; exact Nat.le_of_eq rfl) (hb hby d41_49) (fun _ _ => ⟨rfl, e19, (by decide : 0 + 0 ≤ _), (by decide : 0 + 0 ≤ _)⟩)
  dsimp only [Pt.U, Pt.locs, Pt.cells, Pt.slots] at X20 l20 y20 z20 st20 hQ20
  subst l20 y20 z20
  obtain ⟨rfl, N20q, e20⟩ := hQ20
  have N0' := Fr.app N0 N20q
  refine own_st (T' := T20) (g' := (mkF m 52 #[.val (.ref a), .val (.int (1 : Int32)), .val (.int (0 : Int32)), .unset] [(.int (if (10 : Int32) < (1 : Int32) then (1 : Int32) else (10 : Int32))), (.ref a)])) st20 ?_
  rw [show (if (10 : Int32) < (1 : Int32) then (1 : Int32) else (10 : Int32)) = (10 : Int32) from rfl]
  obtain ⟨T21, h21, k21, X21, e21, E21, A21, O21, st21⟩ := newR X20 hx hZ hown (hw _ (List.mem_of_getElem? (i := 236) rfl)) (hw _ (List.mem_of_getElem? (i := 237) rfl)) e20 (g := (mkF m 52 #[.val (.ref a), .val (.int (1 : Int32)), .val (.int (0 : Int32)), .unset] [(.int (10 : Int32)), (.ref a)])) rfl (hb hby d41_52) rfl (by decide) (cap := 10) (by decide) (by decide) (by decide) (by decide)
  obtain ⟨t, gt⟩ : ∃ z, z = h0.size := ⟨_, rfl⟩
  rw [← gt] at A21 st21
  have ne_a_t : a ≠ t := own_ne Fm.lt gt
  have ne_aD_t : aD ≠ t := own_ne VD.lt gt
  have ge_t : n0 ≤ t := own_ge Z0 gt
  have sz_t : h0.size ≤ t := own_ge Kp.1 gt
  have Fm := Fm.ext E21
  have Fe := Fe.ext E21
  have Fs := Fs.ext E21
  have Ea := Ea.ext E21
  have VD := VD.ext E21
  have SD := SD.ext E21
  have Z0' := Nat.le_trans Z0 E21.1
  have Kp := Kp.ext E21
  have V_t := own_Av.new (n := 10) A21 rfl
  refine own_st (T' := T21) (g' := (mkF m 55 #[.val (.ref a), .val (.int (1 : Int32)), .val (.int (0 : Int32)), .unset] [(.ref t), (.ref a)])) st21 ?_
  refine own_st (T' := T21) (g' := (mkF m 56 #[.val (.ref a), .val (.int (1 : Int32)), .val (.int (0 : Int32)), .unset] [(.ref t), (.ref a), (.ref t)])) (fun _ k => XS.dupX1 X21.here hx rfl (hb hby d41_55) rfl rfl rfl k) ?_
  obtain ⟨T22, h22, X22, e22, W22, st22⟩ := putF X21 hx hZ hown (host := "") (Or.inl (hw _ (List.mem_of_getElem? (i := 76) rfl))) Via.refl e21 Fe Ea (Or.inl (hw _ (List.mem_of_getElem? (i := 77) rfl))) (hw _ (List.mem_of_getElem? (i := 55) rfl)) (ty := (.array (.object "java/lang/Object"))) (by decide) rfl rfl (g := (mkF m 56 #[.val (.ref a), .val (.int (1 : Int32)), .val (.int (0 : Int32)), .unset] [(.ref t), (.ref a), (.ref t)])) rfl rfl (hb hby d41_56)
  have Fm := Fm.other W22 (Or.inr (slot_ne (Or.inl (hw _ (List.mem_of_getElem? (i := 74) rfl))) (Or.inl (hw _ (List.mem_of_getElem? (i := 77) rfl))) (by decide) (t := .int) (t' := (.array (.object "java/lang/Object"))) (by decide) (by decide)))
  have Fs := Fs.other W22 (Or.inr (slot_ne (Or.inl (hw _ (List.mem_of_getElem? (i := 217) rfl))) (Or.inl (hw _ (List.mem_of_getElem? (i := 77) rfl))) (by decide) (t := .int) (t' := (.array (.object "java/lang/Object"))) (by decide) (by decide)))
  have Ea := Ea.wr W22
  have VD := VD.other W22 nD
  have SD := SD.wr W22
  have V_t := V_t.other W22 (Ne.symm ne_a_t)
  have Z0'' := Nat.le_trans Z0' (Keep.of_wr W22).1
  have Kp := Kp.wr W22 (Or.inl (List.mem_of_getElem? (i := 0) rfl))
  have N0'' := Fr.snoc X22 N0' ga
  have Fe := Fe.same W22
  refine own_st (T' := T22) (g' := (mkF m 59 #[.val (.ref a), .val (.int (1 : Int32)), .val (.int (0 : Int32)), .unset] [(.ref t)])) st22 ?_
  exact own_retR X22 hx Bd.returns Bd.notSynchronized e22 rfl rfl (hb hby d41_59) ⟨t, _, rfl, N0'', Kp, sz_t, V_t, O21, Fm, Fe, Fs⟩ (by decide) (by decide)
theorem own_pd5 : parseMethodDescriptor "(I)[Ljava/lang/Object;" = some ⟨[.int], some (.array (.object "java/lang/Object"))⟩ := by decide +kernel
theorem d40_0 : decode jdk_38_method_7_code 0 = .ok (.aload_n 0, 1) := by decide +kernel
theorem d40_1 : decode jdk_38_method_7_code 1 = .ok (.aload_n 0, 1) := by decide +kernel
theorem d40_2 : decode jdk_38_method_7_code 2 = .ok (.getfield 48, 3) := by decide +kernel
theorem d40_5 : decode jdk_38_method_7_code 5 = .ok (.iconst 1, 1) := by decide +kernel
theorem d40_6 : decode jdk_38_method_7_code 6 = .ok (.iadd, 1) := by decide +kernel
theorem d40_7 : decode jdk_38_method_7_code 7 = .ok (.invokevirtual 69, 3) := by decide +kernel
theorem d40_10 : decode jdk_38_method_7_code 10 = .ok (.areturn, 1) := by decide +kernel
def own_grow0_Q (Z : State) (a : Addr) (aD : Addr) (kD : ClassId) (fD : Nat → Value) (md : Int32) (h0 : Heap) (n0 : Nat) (v : Option Value) (h : Heap) (L : List Loc) : Prop := ∃ t k, v = some (.ref t) ∧ Fr n0 L ∧ Keep h0 h [a] ∧ h0.size ≤ t ∧ own_Av Z h t k (.object "java/lang/Object") 10 (fun _ => .null) ∧ Ovr Z k "java/lang/Object" ∧ Fld Z h a "java/util/AbstractList" "modCount" "I" (.int md) ∧ Fld Z h a "java/util/ArrayList" "elementData" "[Ljava/lang/Object;" (.ref t) ∧ Fld Z h a "java/util/ArrayList" "size" "I" (.int (0 : Int32))
set_option maxRecDepth 65536 in
set_option maxHeartbeats 40000000 in
theorem own_grow0 (l : Launch) (Z : State) (a0 : Array Value) (hw : ∀ d ∈ tables_1, d.before a0 Z = true) (ws : List Jvm.Cond) (a : Addr) (aD : Addr) (kD : ClassId) (fD : Nat → Value) (md : Int32) (h0 : Heap) (n0 : Nat) (Z0 : n0 ≤ h0.size) (Fm : Fld Z h0 a "java/util/AbstractList" "modCount" "I" (.int md)) (Fe : Fld Z h0 a "java/util/ArrayList" "elementData" "[Ljava/lang/Object;" (.ref aD)) (Fs : Fld Z h0 a "java/util/ArrayList" "size" "I" (.int (0 : Int32))) (Ea : Exa Z h0 a "java/util/ArrayList") (ga : n0 ≤ a) (VD : own_Av Z h0 aD kD (.object "java/lang/Object") 0 fD) (nD : aD ≠ a) (SD : Sta Z h0 "java/util/ArrayList" "DEFAULTCAPACITY_EMPTY_ELEMENTDATA" "[Ljava/lang/Object;" (.ref aD)) :
    MetFree l (⟨"java/util/ArrayList", "grow", "()[Ljava/lang/Object;"⟩ : MethodName) (head1 (Jvm.Cond.code (⟨"java/util/ArrayList", "grow", "()[Ljava/lang/Object;"⟩ : MethodName) jdk_38_method_7_code 1 (some (.array (.object "java/lang/Object"))) :: ws) ({ frames := 2, cells := 1, slots := 10, locals := 29 } : Room)) (fun aa U0 => aa = #[(.ref a)] ∧ Z.Warmed39 U0.vm ∧ U0.heap = h0) (fun _ _ _ _ _ => True) (fun _ U0 o0 U1 => ∃ v0 L0, o0 = .returned v0 ∧ own_grow0_Q Z a aD kD fD md h0 n0 v0 U1.heap L0 ∧ FrameEnd U0 o0 U1 L0 ({ frames := 2, cells := 1, slots := 10, locals := 29 } : Room).cells ({ frames := 2, cells := 1, slots := 10, locals := 29 } : Room).slots) := by
  refine MetFree.of_bodySF (plainFor_of_name own_pn4) hisR ?_
  intro p e s m args below meth c s₁ Bd hml0 hP hK
  obtain ⟨rfl, hZ, hh⟩ := hP
  have hx := Bd.exec
  have hby := Bd.bytes
  have hml : c.maxLocals = 1 := hml0
  have hown : s.vm.findClass "java/util/ArrayList" = some m.cls := findClass_of_methodNamed Bd.named
  have hnm := (name_of_methodNamed Bd.named Bd.method).1
  have X0 : Stand p l e ({ frames := 2, cells := 1, slots := 10, locals := 29 } : Room) s m #[(.ref a)] below meth c s₁ [] 0 0 := Stand.of_body Bd
  have e0 : s₁.heap = h0 := by rw [← hh, Bd.state]; rfl
  have N0 := Fr.nil n0
  show own_Go p e below s (own_grow0_Q Z a aD kD fD md h0 n0) 1 10 s₁ (entryFrame m #[(.ref a)] 1)
  rw [show entryFrame m #[(.ref a)] 1 = mkF m 0 #[.val (.ref a)] [] from by first | (simp [entryFrame, mkF, argsToLocals, Value.category]; done) | rfl]
  have Kp := Keep.refl h0 [a]
  refine own_st (T' := s₁) (g' := (mkF m 1 #[.val (.ref a)] [(.ref a)])) (fun _ k => XS.aloadN X0.here hx rfl (hb hby d40_0) rfl rfl k) ?_
  refine own_st (T' := s₁) (g' := (mkF m 2 #[.val (.ref a)] [(.ref a), (.ref a)])) (fun _ k => XS.aloadN X0.here hx rfl (hb hby d40_1) rfl rfl k) ?_
  obtain ⟨T23, X23, e23, st23⟩ := getF X0 hx hZ hown (host := "") (Or.inl (hw _ (List.mem_of_getElem? (i := 216) rfl))) Via.refl e0 Fs (g := (mkF m 2 #[.val (.ref a)] [(.ref a), (.ref a)])) rfl rfl (hb hby d40_2)
  refine own_st (T' := T23) (g' := (mkF m 5 #[.val (.ref a)] [(.int (0 : Int32)), (.ref a)])) st23 ?_
  refine own_st (T' := T23) (g' := (mkF m 6 #[.val (.ref a)] [(.int (1 : Int32)), (.int (0 : Int32)), (.ref a)])) (fun _ k => XS.iconst X23.here hx rfl (hb hby d40_5) k) ?_
  refine own_st (T' := T23) (g' := (mkF m 7 #[.val (.ref a)] [(.int ((0 : Int32) + (1 : Int32))), (.ref a)])) (fun _ k => XS.iadd X23.here hx rfl (hb hby d40_6) rfl k) ?_
  rw [show ((0 : Int32) + (1 : Int32)) = (1 : Int32) from rfl]
  have lt_a := Fm.lt
  have lt_aD := VD.lt
  obtain ⟨cq24, q24, q24'⟩ := Ea.cell
  obtain ⟨vq24, _, ⟨T24, L24, k24, n24⟩, -, X24, ⟨Lc24, hQ24, l24, y24, z24⟩, st24⟩ := X23.privateBack hx (y := (⟨"java/util/ArrayList", "grow", "(I)[Ljava/lang/Object;"⟩ : MethodName)) hown (mvT hZ (hw _ (List.mem_of_getElem? (i := 228) rfl))) (mvT hZ (hw _ (List.mem_of_getElem? (i := 229) rfl))) (own_selP hZ (hw _ (List.mem_of_getElem? (i := 55) rfl)) (hw _ (List.mem_of_getElem? (i := 230) rfl)) (hw _ (List.mem_of_getElem? (i := 229) rfl)) (by decide)) (Cond.privateMethod_at (mvP hZ (hw _ (List.mem_of_getElem? (i := 230) rfl)) (args := #[]))) (mvT hZ (hw _ (List.mem_of_getElem? (i := 232) rfl))) (by decide) (backOf (W := 0) (own_grow1 l Z a0 hw [] a aD kD fD md h0 n0 Z0 Fm Fe Fs Ea ga VD nD SD) hZ (hw _ (List.mem_of_getElem? (i := 232) rfl)) (hw _ (List.mem_of_getElem? (i := 56) rfl)) (by decide) (by decide)) (g := (mkF m 7 #[.val (.ref a)] [(.int (1 : Int32)), (.ref a)])) rfl (by rw [hml]; rfl) (Steps.refl _) (a := a) (by first | exact q24 | (rw [e23]; exact q24)) q24' (argsL := [(.int (1 : Int32))]) (rest := []) (lenOf own_pd5 rfl) rfl (by show 2 * 0 + _ ≤ _; exact Nat.le_of_eq rfl) (hb hby d40_7) (fun _ _ => ⟨rfl, e23, (by decide : 0 + 1 ≤ _), (by decide : 0 + 10 ≤ _)⟩)
  dsimp only [Pt.U, Pt.locs, Pt.cells, Pt.slots] at X24 l24 y24 z24 st24 hQ24
  subst l24 y24 z24
  obtain ⟨t, kt, rfl, N24q, K24, gt, Vt, Ot, Fm, Fe, Fs⟩ := hQ24
  have N0' := Fr.app N0 N24q
  have ne_a_t : a ≠ t := own_ne2 lt_a gt
  have ne_aD_t : aD ≠ t := own_ne2 lt_aD gt
  have ge_t : n0 ≤ t := Nat.le_trans Z0 gt
  have sz_t : h0.size ≤ t := Nat.le_trans Kp.1 gt
  have Ea := Ea.keep K24
  have VD := VD.keep K24 (ninS nD nin0)
  have Z0' := Nat.le_trans Z0 K24.1
  have Kp := Kp.trans K24 (allS (P := fun x => x ∈ [a] ∨ h0.size ≤ x) (Or.inl (List.mem_of_getElem? (i := 0) rfl)) all0)
  refine own_tr (T' := T24) (g' := (mkF m 10 #[.val (.ref a)] [(.ref t)])) st24 ?_
  exact own_retR X24 hx Bd.returns Bd.notSynchronized rfl rfl rfl (hb hby d40_10) ⟨t, kt, rfl, N0', Kp, sz_t, Vt, Ot, Fm, Fe, Fs⟩ (by decide) (by decide)
theorem own_pd6 : parseMethodDescriptor "()[Ljava/lang/Object;" = some ⟨[], some (.array (.object "java/lang/Object"))⟩ := by decide +kernel
theorem d39_0 : decode jdk_38_method_24_code 0 = .ok (.iload_n 3, 1) := by decide +kernel
theorem d39_1 : decode jdk_38_method_24_code 1 = .ok (.aload_n 2, 1) := by decide +kernel
theorem d39_2 : decode jdk_38_method_24_code 2 = .ok (.arraylength, 1) := by decide +kernel
theorem d39_3 : decode jdk_38_method_24_code 3 = .ok (.if_icmp .ne 8, 3) := by decide +kernel
theorem d39_6 : decode jdk_38_method_24_code 6 = .ok (.aload_n 0, 1) := by decide +kernel
theorem d39_7 : decode jdk_38_method_24_code 7 = .ok (.invokevirtual 129, 3) := by decide +kernel
theorem d39_10 : decode jdk_38_method_24_code 10 = .ok (.astore_n 2, 1) := by decide +kernel
theorem d39_11 : decode jdk_38_method_24_code 11 = .ok (.aload_n 2, 1) := by decide +kernel
theorem d39_12 : decode jdk_38_method_24_code 12 = .ok (.iload_n 3, 1) := by decide +kernel
theorem d39_13 : decode jdk_38_method_24_code 13 = .ok (.aload_n 1, 1) := by decide +kernel
theorem d39_14 : decode jdk_38_method_24_code 14 = .ok (.aastore, 1) := by decide +kernel
theorem d39_15 : decode jdk_38_method_24_code 15 = .ok (.aload_n 0, 1) := by decide +kernel
theorem d39_16 : decode jdk_38_method_24_code 16 = .ok (.iload_n 3, 1) := by decide +kernel
theorem d39_17 : decode jdk_38_method_24_code 17 = .ok (.iconst 1, 1) := by decide +kernel
theorem d39_18 : decode jdk_38_method_24_code 18 = .ok (.iadd, 1) := by decide +kernel
theorem d39_19 : decode jdk_38_method_24_code 19 = .ok (.putfield 48, 3) := by decide +kernel
theorem d39_22 : decode jdk_38_method_24_code 22 = .ok (.return_, 1) := by decide +kernel
def own_add3_Q (Z : State) (a : Addr) (aD : Addr) (kD : ClassId) (fD : Nat → Value) (md : Int32) (x : Addr) (h0 : Heap) (n0 : Nat) (v : Option Value) (h : Heap) (L : List Loc) : Prop := v = none ∧ Fr n0 L ∧ Keep h0 h [a] ∧ ∃ t k, h0.size ≤ t ∧ own_Av Z h t k (.object "java/lang/Object") 10 (fun q => if q = 0 then (.ref x) else .null) ∧ Fld Z h a "java/util/AbstractList" "modCount" "I" (.int md) ∧ Fld Z h a "java/util/ArrayList" "elementData" "[Ljava/lang/Object;" (.ref t) ∧ Fld Z h a "java/util/ArrayList" "size" "I" (.int (1 : Int32))
set_option maxRecDepth 65536 in
set_option maxHeartbeats 40000000 in
theorem own_add3 (l : Launch) (Z : State) (a0 : Array Value) (hw : ∀ d ∈ tables_1, d.before a0 Z = true) (ws : List Jvm.Cond) (a : Addr) (aD : Addr) (kD : ClassId) (fD : Nat → Value) (md : Int32) (x : Addr) (h0 : Heap) (n0 : Nat) (Z0 : n0 ≤ h0.size) (Fm : Fld Z h0 a "java/util/AbstractList" "modCount" "I" (.int md)) (Fe : Fld Z h0 a "java/util/ArrayList" "elementData" "[Ljava/lang/Object;" (.ref aD)) (Fs : Fld Z h0 a "java/util/ArrayList" "size" "I" (.int (0 : Int32))) (Ea : Exa Z h0 a "java/util/ArrayList") (ga : n0 ≤ a) (VD : own_Av Z h0 aD kD (.object "java/lang/Object") 0 fD) (nD : aD ≠ a) (SD : Sta Z h0 "java/util/ArrayList" "DEFAULTCAPACITY_EMPTY_ELEMENTDATA" "[Ljava/lang/Object;" (.ref aD)) (Ix : Ins Z h0 x "java/lang/Object" true) :
    MetFree l (⟨"java/util/ArrayList", "add", "(Ljava/lang/Object;[Ljava/lang/Object;I)V"⟩ : MethodName) (head1 (Jvm.Cond.code (⟨"java/util/ArrayList", "add", "(Ljava/lang/Object;[Ljava/lang/Object;I)V"⟩ : MethodName) jdk_38_method_24_code 4 none :: ws) ({ frames := 3, cells := 1, slots := 10, locals := 41 } : Room)) (fun aa U0 => aa = #[(.ref a), (.ref x), (.ref aD), (.int (0 : Int32))] ∧ Z.Warmed39 U0.vm ∧ U0.heap = h0) (fun _ _ _ _ _ => True) (fun _ U0 o0 U1 => ∃ v0 L0, o0 = .returned v0 ∧ own_add3_Q Z a aD kD fD md x h0 n0 v0 U1.heap L0 ∧ FrameEnd U0 o0 U1 L0 ({ frames := 3, cells := 1, slots := 10, locals := 41 } : Room).cells ({ frames := 3, cells := 1, slots := 10, locals := 41 } : Room).slots) := by
  refine MetFree.of_bodySF (plainFor_of_name own_pn4) hisR ?_
  intro p e s m args below meth c s₁ Bd hml0 hP hK
  obtain ⟨rfl, hZ, hh⟩ := hP
  have hx := Bd.exec
  have hby := Bd.bytes
  have hml : c.maxLocals = 4 := hml0
  have hown : s.vm.findClass "java/util/ArrayList" = some m.cls := findClass_of_methodNamed Bd.named
  have hnm := (name_of_methodNamed Bd.named Bd.method).1
  have X0 : Stand p l e ({ frames := 3, cells := 1, slots := 10, locals := 41 } : Room) s m #[(.ref a), (.ref x), (.ref aD), (.int (0 : Int32))] below meth c s₁ [] 0 0 := Stand.of_body Bd
  have e0 : s₁.heap = h0 := by rw [← hh, Bd.state]; rfl
  have N0 := Fr.nil n0
  show own_Go p e below s (own_add3_Q Z a aD kD fD md x h0 n0) 1 10 s₁ (entryFrame m #[(.ref a), (.ref x), (.ref aD), (.int (0 : Int32))] 4)
  rw [show entryFrame m #[(.ref a), (.ref x), (.ref aD), (.int (0 : Int32))] 4 = mkF m 0 #[.val (.ref a), .val (.ref x), .val (.ref aD), .val (.int (0 : Int32))] [] from by first | (simp [entryFrame, mkF, argsToLocals, Value.category]; done) | rfl]
  have Kp := Keep.refl h0 [a]
  refine own_st (T' := s₁) (g' := (mkF m 1 #[.val (.ref a), .val (.ref x), .val (.ref aD), .val (.int (0 : Int32))] [(.int (0 : Int32))])) (fun _ k => XS.iloadN X0.here hx rfl (hb hby d39_0) rfl k) ?_
  refine own_st (T' := s₁) (g' := (mkF m 2 #[.val (.ref a), .val (.ref x), .val (.ref aD), .val (.int (0 : Int32))] [(.ref aD), (.int (0 : Int32))])) (fun _ k => XS.aloadN X0.here hx rfl (hb hby d39_1) rfl rfl k) ?_
  refine own_st (T' := s₁) (g' := (mkF m 3 #[.val (.ref a), .val (.ref x), .val (.ref aD), .val (.int (0 : Int32))] [(.int (0 : Int32)), (.int (0 : Int32))])) (own_len X0 hx hZ e0 VD (z := (0 : Int32)) rfl (g := (mkF m 2 #[.val (.ref a), .val (.ref x), .val (.ref aD), .val (.int (0 : Int32))] [(.ref aD), (.int (0 : Int32))])) rfl rfl (hb hby d39_2)) ?_
  refine own_st (T' := s₁) (g' := (mkF m 6 #[.val (.ref a), .val (.ref x), .val (.ref aD), .val (.int (0 : Int32))] [])) (fun _ k => XS.icmpNo X0.here hx rfl (hb hby d39_3) rfl (Jvm.Free.XT.ii_ne_f rfl) k) ?_
  refine own_st (T' := s₁) (g' := (mkF m 7 #[.val (.ref a), .val (.ref x), .val (.ref aD), .val (.int (0 : Int32))] [(.ref a)])) (fun _ k => XS.aloadN X0.here hx rfl (hb hby d39_6) rfl rfl k) ?_
  have lt_a := Fm.lt
  have lt_aD := VD.lt
  obtain ⟨cq25, q25, q25'⟩ := Ea.cell
  obtain ⟨vq25, _, ⟨T25, L25, k25, n25⟩, -, X25, ⟨Lc25, hQ25, l25, y25, z25⟩, st25⟩ := X0.privateBack hx (y := (⟨"java/util/ArrayList", "grow", "()[Ljava/lang/Object;"⟩ : MethodName)) hown (mvT hZ (hw _ (List.mem_of_getElem? (i := 223) rfl))) (mvT hZ (hw _ (List.mem_of_getElem? (i := 224) rfl))) (own_selP hZ (hw _ (List.mem_of_getElem? (i := 55) rfl)) (hw _ (List.mem_of_getElem? (i := 225) rfl)) (hw _ (List.mem_of_getElem? (i := 224) rfl)) (by decide)) (Cond.privateMethod_at (mvP hZ (hw _ (List.mem_of_getElem? (i := 225) rfl)) (args := #[]))) (mvT hZ (hw _ (List.mem_of_getElem? (i := 227) rfl))) (by decide) (backOf (W := 0) (own_grow0 l Z a0 hw [] a aD kD fD md h0 n0 Z0 Fm Fe Fs Ea ga VD nD SD) hZ (hw _ (List.mem_of_getElem? (i := 227) rfl)) (hw _ (List.mem_of_getElem? (i := 56) rfl)) (by decide) (by decide)) (g := (mkF m 7 #[.val (.ref a), .val (.ref x), .val (.ref aD), .val (.int (0 : Int32))] [(.ref a)])) rfl (by rw [hml]; rfl) (Steps.refl _) (a := a) (by first | exact q25 | (rw [e0]; exact q25)) q25' (argsL := []) (rest := []) (lenOf own_pd6 rfl) rfl (by show 2 * 0 + _ ≤ _; exact Nat.le_of_eq rfl) (hb hby d39_7) (fun _ _ => ⟨rfl, e0, (by decide : 0 + 1 ≤ _), (by decide : 0 + 10 ≤ _)⟩)
  dsimp only [Pt.U, Pt.locs, Pt.cells, Pt.slots] at X25 l25 y25 z25 st25 hQ25
  subst l25 y25 z25
  obtain ⟨t, kt, rfl, N25q, K25, gt, Vt, Ot, Fm, Fe, Fs⟩ := hQ25
  have N0' := Fr.app N0 N25q
  have ne_a_t : a ≠ t := own_ne2 lt_a gt
  have ne_aD_t : aD ≠ t := own_ne2 lt_aD gt
  have ge_t : n0 ≤ t := Nat.le_trans Z0 gt
  have sz_t : h0.size ≤ t := Nat.le_trans Kp.1 gt
  have Ea := Ea.keep K25
  have VD := VD.keep K25 (ninS nD nin0)
  have Z0' := Nat.le_trans Z0 K25.1
  have Kp := Kp.trans K25 (allS (P := fun x => x ∈ [a] ∨ h0.size ≤ x) (Or.inl (List.mem_of_getElem? (i := 0) rfl)) all0)
  have Ix := own_insK Ix K25
  refine own_tr (T' := T25) (g' := (mkF m 10 #[.val (.ref a), .val (.ref x), .val (.ref aD), .val (.int (0 : Int32))] [(.ref t)])) st25 ?_
  refine own_st (T' := T25) (g' := (mkF m 11 #[.val (.ref a), .val (.ref x), .val (.ref t), .val (.int (0 : Int32))] [])) (fun _ k => XS.astoreN X25.here hx rfl (hb hby d39_10) rfl rfl (l' := #[.val (.ref a), .val (.ref x), .val (.ref t), .val (.int (0 : Int32))]) rfl k) ?_
  refine own_st (T' := T25) (g' := (mkF m 12 #[.val (.ref a), .val (.ref x), .val (.ref t), .val (.int (0 : Int32))] [(.ref t)])) (fun _ k => XS.aloadN X25.here hx rfl (hb hby d39_11) rfl rfl k) ?_
  refine own_st (T' := T25) (g' := (mkF m 13 #[.val (.ref a), .val (.ref x), .val (.ref t), .val (.int (0 : Int32))] [(.int (0 : Int32)), (.ref t)])) (fun _ k => XS.iloadN X25.here hx rfl (hb hby d39_12) rfl k) ?_
  refine own_st (T' := T25) (g' := (mkF m 14 #[.val (.ref a), .val (.ref x), .val (.ref t), .val (.int (0 : Int32))] [(.ref x), (.int (0 : Int32)), (.ref t)])) (fun _ k => XS.aloadN X25.here hx rfl (hb hby d39_13) rfl rfl k) ?_
  obtain ⟨T26, h26, X26, e26, W26, V26, st26⟩ := own_stR X25 hx hZ rfl Vt Ot (Or.inr ⟨_, rfl, Ix⟩) (i := 0) (by decide) (by decide) (g := (mkF m 14 #[.val (.ref a), .val (.ref x), .val (.ref t), .val (.int (0 : Int32))] [(.ref x), (.int (0 : Int32)), (.ref t)])) rfl rfl (hb hby d39_14)
  have Ea := Ea.wr W26
  have VD := VD.other W26 ne_aD_t
  have Fm := Fm.other W26 (Or.inl ne_a_t)
  have Fe := Fe.other W26 (Or.inl ne_a_t)
  have Fs := Fs.other W26 (Or.inl ne_a_t)
  have Ix := Ix.wr W26
  have Z0'' := Nat.le_trans Z0' (Keep.of_wr W26).1
  have Kp := Kp.wr W26 (Or.inr sz_t)
  have N0'' := Fr.snoc X26 N0' ge_t
  have Vt := V26
  refine own_st (T' := T26) (g' := (mkF m 15 #[.val (.ref a), .val (.ref x), .val (.ref t), .val (.int (0 : Int32))] [])) st26 ?_
  refine own_st (T' := T26) (g' := (mkF m 16 #[.val (.ref a), .val (.ref x), .val (.ref t), .val (.int (0 : Int32))] [(.ref a)])) (fun _ k => XS.aloadN X26.here hx rfl (hb hby d39_15) rfl rfl k) ?_
  refine own_st (T' := T26) (g' := (mkF m 17 #[.val (.ref a), .val (.ref x), .val (.ref t), .val (.int (0 : Int32))] [(.int (0 : Int32)), (.ref a)])) (fun _ k => XS.iloadN X26.here hx rfl (hb hby d39_16) rfl k) ?_
  refine own_st (T' := T26) (g' := (mkF m 18 #[.val (.ref a), .val (.ref x), .val (.ref t), .val (.int (0 : Int32))] [(.int (1 : Int32)), (.int (0 : Int32)), (.ref a)])) (fun _ k => XS.iconst X26.here hx rfl (hb hby d39_17) k) ?_
  refine own_st (T' := T26) (g' := (mkF m 19 #[.val (.ref a), .val (.ref x), .val (.ref t), .val (.int (0 : Int32))] [(.int ((0 : Int32) + (1 : Int32))), (.ref a)])) (fun _ k => XS.iadd X26.here hx rfl (hb hby d39_18) rfl k) ?_
  rw [show ((0 : Int32) + (1 : Int32)) = (1 : Int32) from rfl]
  obtain ⟨T27, h27, X27, e27, W27, st27⟩ := putF X26 hx hZ hown (host := "") (Or.inl (hw _ (List.mem_of_getElem? (i := 216) rfl))) Via.refl e26 Fs Ea (Or.inl (hw _ (List.mem_of_getElem? (i := 217) rfl))) (hw _ (List.mem_of_getElem? (i := 55) rfl)) (ty := .int) (by decide) rfl rfl (g := (mkF m 19 #[.val (.ref a), .val (.ref x), .val (.ref t), .val (.int (0 : Int32))] [(.int (1 : Int32)), (.ref a)])) rfl rfl (hb hby d39_19)
  have Ea := Ea.wr W27
  have VD := VD.other W27 nD
  have Fm := Fm.other W27 (Or.inr (slot_ne (Or.inl (hw _ (List.mem_of_getElem? (i := 74) rfl))) (Or.inl (hw _ (List.mem_of_getElem? (i := 217) rfl))) (by decide) (t := .int) (t' := .int) (by decide) (by decide)))
  have Fe := Fe.other W27 (Or.inr (slot_ne (Or.inl (hw _ (List.mem_of_getElem? (i := 77) rfl))) (Or.inl (hw _ (List.mem_of_getElem? (i := 217) rfl))) (by decide) (t := (.array (.object "java/lang/Object"))) (t' := .int) (by decide) (by decide)))
  have Vt := Vt.other W27 (Ne.symm ne_a_t)
  have Ix := Ix.wr W27
  have Z0''' := Nat.le_trans Z0'' (Keep.of_wr W27).1
  have Kp := Kp.wr W27 (Or.inl (List.mem_of_getElem? (i := 0) rfl))
  have N0''' := Fr.snoc X27 N0'' ga
  have Fs := Fs.same W27
  refine own_st (T' := T27) (g' := (mkF m 22 #[.val (.ref a), .val (.ref x), .val (.ref t), .val (.int (0 : Int32))] [])) st27 ?_
  exact own_ret0 X27 hx Bd.returns Bd.notSynchronized e27 (hb hby d39_22) ⟨rfl, N0''', Kp, t, kt, sz_t, Vt, Fm, Fe, Fs⟩ (by decide) (by decide)
theorem own_pd7 : parseMethodDescriptor "(Ljava/lang/Object;[Ljava/lang/Object;I)V" = some ⟨[(.object "java/lang/Object"), (.array (.object "java/lang/Object")), .int], none⟩ := by decide +kernel
theorem d38_0 : decode jdk_38_method_25_code 0 = .ok (.aload_n 0, 1) := by decide +kernel
theorem d38_1 : decode jdk_38_method_25_code 1 = .ok (.dup, 1) := by decide +kernel
theorem d38_2 : decode jdk_38_method_25_code 2 = .ok (.getfield 63, 3) := by decide +kernel
theorem d38_5 : decode jdk_38_method_25_code 5 = .ok (.iconst 1, 1) := by decide +kernel
theorem d38_6 : decode jdk_38_method_25_code 6 = .ok (.iadd, 1) := by decide +kernel
theorem d38_7 : decode jdk_38_method_25_code 7 = .ok (.putfield 63, 3) := by decide +kernel
theorem d38_10 : decode jdk_38_method_25_code 10 = .ok (.aload_n 0, 1) := by decide +kernel
theorem d38_11 : decode jdk_38_method_25_code 11 = .ok (.aload_n 1, 1) := by decide +kernel
theorem d38_12 : decode jdk_38_method_25_code 12 = .ok (.aload_n 0, 1) := by decide +kernel
theorem d38_13 : decode jdk_38_method_25_code 13 = .ok (.getfield 9, 3) := by decide +kernel
theorem d38_16 : decode jdk_38_method_25_code 16 = .ok (.aload_n 0, 1) := by decide +kernel
theorem d38_17 : decode jdk_38_method_25_code 17 = .ok (.getfield 48, 3) := by decide +kernel
theorem d38_20 : decode jdk_38_method_25_code 20 = .ok (.invokevirtual 131, 3) := by decide +kernel
theorem d38_23 : decode jdk_38_method_25_code 23 = .ok (.iconst 1, 1) := by decide +kernel
theorem d38_24 : decode jdk_38_method_25_code 24 = .ok (.ireturn, 1) := by decide +kernel
def own_alAdd_Q (Z : State) (a : Addr) (aD : Addr) (kD : ClassId) (fD : Nat → Value) (md : Int32) (x : Addr) (h0 : Heap) (n0 : Nat) (v : Option Value) (h : Heap) (L : List Loc) : Prop := v = some (.int 1) ∧ Fr n0 L ∧ Keep h0 h [a] ∧ ∃ t k, h0.size ≤ t ∧ own_Av Z h t k (.object "java/lang/Object") 10 (fun q => if q = 0 then (.ref x) else .null) ∧ Fld Z h a "java/util/ArrayList" "elementData" "[Ljava/lang/Object;" (.ref t) ∧ Fld Z h a "java/util/ArrayList" "size" "I" (.int (1 : Int32))
set_option maxRecDepth 65536 in
set_option maxHeartbeats 40000000 in
theorem own_alAdd (l : Launch) (Z : State) (a0 : Array Value) (hw : ∀ d ∈ tables_1, d.before a0 Z = true) (ws : List Jvm.Cond) (a : Addr) (aD : Addr) (kD : ClassId) (fD : Nat → Value) (md : Int32) (x : Addr) (h0 : Heap) (n0 : Nat) (Z0 : n0 ≤ h0.size) (Fm : Fld Z h0 a "java/util/AbstractList" "modCount" "I" (.int md)) (Fe : Fld Z h0 a "java/util/ArrayList" "elementData" "[Ljava/lang/Object;" (.ref aD)) (Fs : Fld Z h0 a "java/util/ArrayList" "size" "I" (.int (0 : Int32))) (Ea : Exa Z h0 a "java/util/ArrayList") (ga : n0 ≤ a) (VD : own_Av Z h0 aD kD (.object "java/lang/Object") 0 fD) (nD : aD ≠ a) (SD : Sta Z h0 "java/util/ArrayList" "DEFAULTCAPACITY_EMPTY_ELEMENTDATA" "[Ljava/lang/Object;" (.ref aD)) (Ix : Ins Z h0 x "java/lang/Object" true) :
    MetFree l (⟨"java/util/ArrayList", "add", "(Ljava/lang/Object;)Z"⟩ : MethodName) (head1 (Jvm.Cond.code (⟨"java/util/ArrayList", "add", "(Ljava/lang/Object;)Z"⟩ : MethodName) jdk_38_method_25_code 2 (some .boolean) :: ws) ({ frames := 4, cells := 1, slots := 10, locals := 56 } : Room)) (fun aa U0 => aa = #[(.ref a), (.ref x)] ∧ Z.Warmed39 U0.vm ∧ U0.heap = h0) (fun _ _ _ _ _ => True) (fun _ U0 o0 U1 => ∃ v0 L0, o0 = .returned v0 ∧ own_alAdd_Q Z a aD kD fD md x h0 n0 v0 U1.heap L0 ∧ FrameEnd U0 o0 U1 L0 ({ frames := 4, cells := 1, slots := 10, locals := 56 } : Room).cells ({ frames := 4, cells := 1, slots := 10, locals := 56 } : Room).slots) := by
  refine MetFree.of_bodySF (plainFor_of_name own_pn4) hisR ?_
  intro p e s m args below meth c s₁ Bd hml0 hP hK
  obtain ⟨rfl, hZ, hh⟩ := hP
  have hx := Bd.exec
  have hby := Bd.bytes
  have hml : c.maxLocals = 2 := hml0
  have hown : s.vm.findClass "java/util/ArrayList" = some m.cls := findClass_of_methodNamed Bd.named
  have hnm := (name_of_methodNamed Bd.named Bd.method).1
  have X0 : Stand p l e ({ frames := 4, cells := 1, slots := 10, locals := 56 } : Room) s m #[(.ref a), (.ref x)] below meth c s₁ [] 0 0 := Stand.of_body Bd
  have e0 : s₁.heap = h0 := by rw [← hh, Bd.state]; rfl
  have N0 := Fr.nil n0
  show own_Go p e below s (own_alAdd_Q Z a aD kD fD md x h0 n0) 1 10 s₁ (entryFrame m #[(.ref a), (.ref x)] 2)
  rw [show entryFrame m #[(.ref a), (.ref x)] 2 = mkF m 0 #[.val (.ref a), .val (.ref x)] [] from by first | (simp [entryFrame, mkF, argsToLocals, Value.category]; done) | rfl]
  have Kp := Keep.refl h0 [a]
  refine own_st (T' := s₁) (g' := (mkF m 1 #[.val (.ref a), .val (.ref x)] [(.ref a)])) (fun _ k => XS.aloadN X0.here hx rfl (hb hby d38_0) rfl rfl k) ?_
  refine own_st (T' := s₁) (g' := (mkF m 2 #[.val (.ref a), .val (.ref x)] [(.ref a), (.ref a)])) (fun _ k => XS.dup X0.here hx rfl (hb hby d38_1) rfl rfl k) ?_
  obtain ⟨T28, X28, e28, st28⟩ := getF X0 hx hZ hown (host := "") (Or.inl (hw _ (List.mem_of_getElem? (i := 214) rfl))) (Via.of (hw _ (List.mem_of_getElem? (i := 215) rfl))) e0 Fm (g := (mkF m 2 #[.val (.ref a), .val (.ref x)] [(.ref a), (.ref a)])) rfl rfl (hb hby d38_2)
  refine own_st (T' := T28) (g' := (mkF m 5 #[.val (.ref a), .val (.ref x)] [(.int md), (.ref a)])) st28 ?_
  refine own_st (T' := T28) (g' := (mkF m 6 #[.val (.ref a), .val (.ref x)] [(.int (1 : Int32)), (.int md), (.ref a)])) (fun _ k => XS.iconst X28.here hx rfl (hb hby d38_5) k) ?_
  refine own_st (T' := T28) (g' := (mkF m 7 #[.val (.ref a), .val (.ref x)] [(.int (md + (1 : Int32))), (.ref a)])) (fun _ k => XS.iadd X28.here hx rfl (hb hby d38_6) rfl k) ?_
  obtain ⟨T29, h29, X29, e29, W29, st29⟩ := putF X28 hx hZ hown (host := "") (Or.inl (hw _ (List.mem_of_getElem? (i := 214) rfl))) (Via.of (hw _ (List.mem_of_getElem? (i := 215) rfl))) e28 Fm Ea (Or.inl (hw _ (List.mem_of_getElem? (i := 74) rfl))) (hw _ (List.mem_of_getElem? (i := 55) rfl)) (ty := .int) (by decide) rfl rfl (g := (mkF m 7 #[.val (.ref a), .val (.ref x)] [(.int (md + (1 : Int32))), (.ref a)])) rfl rfl (hb hby d38_7)
  have Fe := Fe.other W29 (Or.inr (slot_ne (Or.inl (hw _ (List.mem_of_getElem? (i := 77) rfl))) (Or.inl (hw _ (List.mem_of_getElem? (i := 74) rfl))) (by decide) (t := (.array (.object "java/lang/Object"))) (t' := .int) (by decide) (by decide)))
  have Fs := Fs.other W29 (Or.inr (slot_ne (Or.inl (hw _ (List.mem_of_getElem? (i := 217) rfl))) (Or.inl (hw _ (List.mem_of_getElem? (i := 74) rfl))) (by decide) (t := .int) (t' := .int) (by decide) (by decide)))
  have Ea := Ea.wr W29
  have VD := VD.other W29 nD
  have SD := SD.wr W29
  have Ix := Ix.wr W29
  have Z0' := Nat.le_trans Z0 (Keep.of_wr W29).1
  have Kp := Kp.wr W29 (Or.inl (List.mem_of_getElem? (i := 0) rfl))
  have N0' := Fr.snoc X29 N0 ga
  have Fm := Fm.same W29
  refine own_st (T' := T29) (g' := (mkF m 10 #[.val (.ref a), .val (.ref x)] [])) st29 ?_
  refine own_st (T' := T29) (g' := (mkF m 11 #[.val (.ref a), .val (.ref x)] [(.ref a)])) (fun _ k => XS.aloadN X29.here hx rfl (hb hby d38_10) rfl rfl k) ?_
  refine own_st (T' := T29) (g' := (mkF m 12 #[.val (.ref a), .val (.ref x)] [(.ref x), (.ref a)])) (fun _ k => XS.aloadN X29.here hx rfl (hb hby d38_11) rfl rfl k) ?_
  refine own_st (T' := T29) (g' := (mkF m 13 #[.val (.ref a), .val (.ref x)] [(.ref a), (.ref x), (.ref a)])) (fun _ k => XS.aloadN X29.here hx rfl (hb hby d38_12) rfl rfl k) ?_
  obtain ⟨T30, X30, e30, st30⟩ := getF X29 hx hZ hown (host := "") (Or.inl (hw _ (List.mem_of_getElem? (i := 76) rfl))) Via.refl e29 Fe (g := (mkF m 13 #[.val (.ref a), .val (.ref x)] [(.ref a), (.ref x), (.ref a)])) rfl rfl (hb hby d38_13)
  refine own_st (T' := T30) (g' := (mkF m 16 #[.val (.ref a), .val (.ref x)] [(.ref aD), (.ref x), (.ref a)])) st30 ?_
  refine own_st (T' := T30) (g' := (mkF m 17 #[.val (.ref a), .val (.ref x)] [(.ref a), (.ref aD), (.ref x), (.ref a)])) (fun _ k => XS.aloadN X30.here hx rfl (hb hby d38_16) rfl rfl k) ?_
  obtain ⟨T31, X31, e31, st31⟩ := getF X30 hx hZ hown (host := "") (Or.inl (hw _ (List.mem_of_getElem? (i := 216) rfl))) Via.refl e30 Fs (g := (mkF m 17 #[.val (.ref a), .val (.ref x)] [(.ref a), (.ref aD), (.ref x), (.ref a)])) rfl rfl (hb hby d38_17)
  refine own_st (T' := T31) (g' := (mkF m 20 #[.val (.ref a), .val (.ref x)] [(.int (0 : Int32)), (.ref aD), (.ref x), (.ref a)])) st31 ?_
  have lt_a := Fm.lt
  have lt_aD := VD.lt
  obtain ⟨cq32, q32, q32'⟩ := Ea.cell
  obtain ⟨vq32, _, ⟨T32, L32, k32, n32⟩, -, X32, ⟨Lc32, hQ32, l32, y32, z32⟩, st32⟩ := X31.privateBack hx (y := (⟨"java/util/ArrayList", "add", "(Ljava/lang/Object;[Ljava/lang/Object;I)V"⟩ : MethodName)) hown (mvT hZ (hw _ (List.mem_of_getElem? (i := 218) rfl))) (mvT hZ (hw _ (List.mem_of_getElem? (i := 219) rfl))) (own_selP hZ (hw _ (List.mem_of_getElem? (i := 55) rfl)) (hw _ (List.mem_of_getElem? (i := 220) rfl)) (hw _ (List.mem_of_getElem? (i := 219) rfl)) (by decide)) (Cond.privateMethod_at (mvP hZ (hw _ (List.mem_of_getElem? (i := 220) rfl)) (args := #[]))) (mvT hZ (hw _ (List.mem_of_getElem? (i := 222) rfl))) (by decide) (backOf (W := 0) (own_add3 l Z a0 hw [] a aD kD fD (md + (1 : Int32)) x h29 n0 Z0' Fm Fe Fs Ea ga VD nD SD Ix) hZ (hw _ (List.mem_of_getElem? (i := 222) rfl)) (hw _ (List.mem_of_getElem? (i := 56) rfl)) (by decide) (by decide)) (g := (mkF m 20 #[.val (.ref a), .val (.ref x)] [(.int (0 : Int32)), (.ref aD), (.ref x), (.ref a)])) rfl (by rw [hml]; rfl) (Steps.refl _) (a := a) (by first | exact q32 | (rw [e31]; exact q32)) q32' (argsL := [(.ref x), (.ref aD), (.int (0 : Int32))]) (rest := []) (lenOf own_pd7 rfl) rfl (by show 2 * 0 + _ ≤ _; exact Nat.le_of_eq rfl) (hb hby d38_20) (fun _ _ => ⟨rfl, e31, (by decide : 0 + 1 ≤ _), (by decide : 0 + 10 ≤ _)⟩)
  dsimp only [Pt.U, Pt.locs, Pt.cells, Pt.slots] at X32 l32 y32 z32 st32 hQ32
  subst l32 y32 z32
  obtain ⟨rfl, N32q, K32, t, kt, gt, Vt, Fm, Fe, Fs⟩ := hQ32
  have N0'' := Fr.app N0' N32q
  have ne_a_t : a ≠ t := own_ne2 lt_a gt
  have ne_aD_t : aD ≠ t := own_ne2 lt_aD gt
  have ge_t : n0 ≤ t := Nat.le_trans Z0' gt
  have sz_t : h0.size ≤ t := Nat.le_trans Kp.1 gt
  have Ea := Ea.keep K32
  have VD := VD.keep K32 (ninS nD nin0)
  have Z0'' := Nat.le_trans Z0' K32.1
  have Kp := Kp.trans K32 (allS (P := fun x => x ∈ [a] ∨ h0.size ≤ x) (Or.inl (List.mem_of_getElem? (i := 0) rfl)) all0)
  refine own_tr (T' := T32) (g' := (mkF m 23 #[.val (.ref a), .val (.ref x)] [])) st32 ?_
  refine own_st (T' := T32) (g' := (mkF m 24 #[.val (.ref a), .val (.ref x)] [(.int (1 : Int32))])) (fun _ k => XS.iconst X32.here hx rfl (hb hby d38_23) k) ?_
  exact own_retN X32 hx Bd.returns Bd.notSynchronized rfl (by simp) (hb hby d38_24) ⟨rfl, N0'', Kp, t, kt, sz_t, Vt, Fe, Fs⟩ (by decide) (by decide)
theorem d16_0 : decode jdk_42_method_152_code 0 = .ok (.getstatic 38, 3) := by decide +kernel
theorem d16_3 : decode jdk_42_method_152_code 3 = .ok (.ifCond .eq 10, 3) := by decide +kernel
theorem d16_6 : decode jdk_42_method_152_code 6 = .ok (.aload_n 0, 1) := by decide +kernel
theorem d16_7 : decode jdk_42_method_152_code 7 = .ok (.getfield 15, 3) := by decide +kernel
theorem d16_10 : decode jdk_42_method_152_code 10 = .ok (.goto 4, 3) := by decide +kernel
theorem d16_14 : decode jdk_42_method_152_code 14 = .ok (.ireturn, 1) := by decide +kernel
def own_coder_Q (Z : State) (a : Addr) (cc : Int32) (h0 : Heap) (n0 : Nat) (v : Option Value) (h : Heap) (L : List Loc) : Prop := v = some (.int 0) ∧ Fr n0 L ∧ h = h0
set_option maxRecDepth 65536 in
set_option maxHeartbeats 40000000 in
theorem own_coder (l : Launch) (Z : State) (a0 : Array Value) (hw : ∀ d ∈ tables_1, d.before a0 Z = true) (ws : List Jvm.Cond) (a : Addr) (cc : Int32) (h0 : Heap) (n0 : Nat) (Z0 : n0 ≤ h0.size) (Fc : Fld Z h0 a "java/lang/String" "coder" "B" (.int (0 : Int32))) (SC : Sta Z h0 "java/lang/String" "COMPACT_STRINGS" "Z" (.int cc)) (hcs : ¬ cc = (0 : Int32)) :
    MetFree l (⟨"java/lang/String", "coder", "()B"⟩ : MethodName) (head1 (Jvm.Cond.code (⟨"java/lang/String", "coder", "()B"⟩ : MethodName) jdk_42_method_152_code 1 (some .byte) :: ws) ({ frames := 0, cells := 0, slots := 0, locals := 0 } : Room)) (fun aa U0 => aa = #[(.ref a)] ∧ Z.Warmed39 U0.vm ∧ U0.heap = h0) (fun _ _ _ _ _ => True) (fun _ U0 o0 U1 => ∃ v0 L0, o0 = .returned v0 ∧ own_coder_Q Z a cc h0 n0 v0 U1.heap L0 ∧ FrameEnd U0 o0 U1 L0 ({ frames := 0, cells := 0, slots := 0, locals := 0 } : Room).cells ({ frames := 0, cells := 0, slots := 0, locals := 0 } : Room).slots) := by
  refine MetFree.of_bodySF (plainFor_of_name own_pn1) hisR ?_
  intro p e s m args below meth c s₁ Bd hml0 hP hK
  obtain ⟨rfl, hZ, hh⟩ := hP
  have hx := Bd.exec
  have hby := Bd.bytes
  have hml : c.maxLocals = 1 := hml0
  have hown : s.vm.findClass "java/lang/String" = some m.cls := findClass_of_methodNamed Bd.named
  have hnm := (name_of_methodNamed Bd.named Bd.method).1
  have X0 : Stand p l e ({ frames := 0, cells := 0, slots := 0, locals := 0 } : Room) s m #[(.ref a)] below meth c s₁ [] 0 0 := Stand.of_body Bd
  have e0 : s₁.heap = h0 := by rw [← hh, Bd.state]; rfl
  have N0 := Fr.nil n0
  show own_Go p e below s (own_coder_Q Z a cc h0 n0) 0 0 s₁ (entryFrame m #[(.ref a)] 1)
  rw [show entryFrame m #[(.ref a)] 1 = mkF m 0 #[.val (.ref a)] [] from by first | (simp [entryFrame, mkF, argsToLocals, Value.category]; done) | rfl]
  obtain ⟨T33, X33, e33, st33⟩ := getS2 X0 hx hZ hown (host := "") (Or.inl (hw _ (List.mem_of_getElem? (i := 34) rfl))) Via.refl e0 SC (g := (mkF m 0 #[.val (.ref a)] [])) rfl (hb hby d16_0)
  refine own_st (T' := T33) (g' := (mkF m 3 #[.val (.ref a)] [(.int cc)])) st33 ?_
  refine own_st (T' := T33) (g' := (mkF m 6 #[.val (.ref a)] [])) (fun _ k => XS.ifNo X33.here hx rfl (hb hby d16_3) rfl (Jvm.Free.XT.i0_eq_f hcs) k) ?_
  refine own_st (T' := T33) (g' := (mkF m 7 #[.val (.ref a)] [(.ref a)])) (fun _ k => XS.aloadN X33.here hx rfl (hb hby d16_6) rfl rfl k) ?_
  obtain ⟨T34, X34, e34, st34⟩ := getF X33 hx hZ hown (host := "") (Or.inl (hw _ (List.mem_of_getElem? (i := 49) rfl))) Via.refl e33 Fc (g := (mkF m 7 #[.val (.ref a)] [(.ref a)])) rfl rfl (hb hby d16_7)
  refine own_st (T' := T34) (g' := (mkF m 10 #[.val (.ref a)] [(.int (0 : Int32))])) st34 ?_
  refine own_st (T' := T34) (g' := (mkF m 14 #[.val (.ref a)] [(.int (0 : Int32))])) (fun _ k => XS.goto X34.here hx rfl (pc0 := 10) (pc' := 14) rfl (hb hby d16_10) (by decide) (by decide) k) ?_
  exact own_retN X34 hx Bd.returns Bd.notSynchronized e34 (by simp) (hb hby d16_14) ⟨rfl, N0, rfl⟩ (by decide) (by decide)
theorem own_pd8 : parseMethodDescriptor "()B" = some ⟨[], some .byte⟩ := by decide +kernel
theorem d15_0 : decode jdk_42_method_54_code 0 = .ok (.aload_n 0, 1) := by decide +kernel
theorem d15_1 : decode jdk_42_method_54_code 1 = .ok (.getfield 9, 3) := by decide +kernel
theorem d15_4 : decode jdk_42_method_54_code 4 = .ok (.arraylength, 1) := by decide +kernel
theorem d15_5 : decode jdk_42_method_54_code 5 = .ok (.aload_n 0, 1) := by decide +kernel
theorem d15_6 : decode jdk_42_method_54_code 6 = .ok (.invokevirtual 335, 3) := by decide +kernel
theorem d15_9 : decode jdk_42_method_54_code 9 = .ok (.ishr, 1) := by decide +kernel
theorem d15_10 : decode jdk_42_method_54_code 10 = .ok (.ireturn, 1) := by decide +kernel
def own_len1_Q (Z : State) (a : Addr) (t : Addr) (kt : ClassId) (x : Int32) (cc : Int32) (h0 : Heap) (n0 : Nat) (v : Option Value) (h : Heap) (L : List Loc) : Prop := v = some (.int 1) ∧ Fr n0 L ∧ h = h0
set_option maxRecDepth 65536 in
set_option maxHeartbeats 40000000 in
theorem own_len1 (l : Launch) (Z : State) (a0 : Array Value) (hw : ∀ d ∈ tables_1, d.before a0 Z = true) (ws : List Jvm.Cond) (a : Addr) (t : Addr) (kt : ClassId) (x : Int32) (cc : Int32) (h0 : Heap) (n0 : Nat) (Z0 : n0 ≤ h0.size) (Ea : Exa Z h0 a "java/lang/String") (Fv : Fld Z h0 a "java/lang/String" "value" "[B" (.ref t)) (Fc : Fld Z h0 a "java/lang/String" "coder" "B" (.int (0 : Int32))) (Vt : own_Av Z h0 t kt .byte 1 (fun _ => .int x)) (SC : Sta Z h0 "java/lang/String" "COMPACT_STRINGS" "Z" (.int cc)) (hcs : ¬ cc = (0 : Int32)) :
    MetFree l (⟨"java/lang/String", "length", "()I"⟩ : MethodName) (head1 (Jvm.Cond.code (⟨"java/lang/String", "length", "()I"⟩ : MethodName) jdk_42_method_54_code 1 (some .int) :: ws) ({ frames := 1, cells := 0, slots := 0, locals := 13 } : Room)) (fun aa U0 => aa = #[(.ref a)] ∧ Z.Warmed39 U0.vm ∧ U0.heap = h0) (fun _ _ _ _ _ => True) (fun _ U0 o0 U1 => ∃ v0 L0, o0 = .returned v0 ∧ own_len1_Q Z a t kt x cc h0 n0 v0 U1.heap L0 ∧ FrameEnd U0 o0 U1 L0 ({ frames := 1, cells := 0, slots := 0, locals := 13 } : Room).cells ({ frames := 1, cells := 0, slots := 0, locals := 13 } : Room).slots) := by
  refine MetFree.of_bodySF (plainFor_of_name own_pn1) hisR ?_
  intro p e s m args below meth c s₁ Bd hml0 hP hK
  obtain ⟨rfl, hZ, hh⟩ := hP
  have hx := Bd.exec
  have hby := Bd.bytes
  have hml : c.maxLocals = 1 := hml0
  have hown : s.vm.findClass "java/lang/String" = some m.cls := findClass_of_methodNamed Bd.named
  have hnm := (name_of_methodNamed Bd.named Bd.method).1
  have X0 : Stand p l e ({ frames := 1, cells := 0, slots := 0, locals := 13 } : Room) s m #[(.ref a)] below meth c s₁ [] 0 0 := Stand.of_body Bd
  have e0 : s₁.heap = h0 := by rw [← hh, Bd.state]; rfl
  have N0 := Fr.nil n0
  show own_Go p e below s (own_len1_Q Z a t kt x cc h0 n0) 0 0 s₁ (entryFrame m #[(.ref a)] 1)
  rw [show entryFrame m #[(.ref a)] 1 = mkF m 0 #[.val (.ref a)] [] from by first | (simp [entryFrame, mkF, argsToLocals, Value.category]; done) | rfl]
  refine own_st (T' := s₁) (g' := (mkF m 1 #[.val (.ref a)] [(.ref a)])) (fun _ k => XS.aloadN X0.here hx rfl (hb hby d15_0) rfl rfl k) ?_
  obtain ⟨T35, X35, e35, st35⟩ := getF X0 hx hZ hown (host := "") (Or.inl (hw _ (List.mem_of_getElem? (i := 48) rfl))) Via.refl e0 Fv (g := (mkF m 1 #[.val (.ref a)] [(.ref a)])) rfl rfl (hb hby d15_1)
  refine own_st (T' := T35) (g' := (mkF m 4 #[.val (.ref a)] [(.ref t)])) st35 ?_
  refine own_st (T' := T35) (g' := (mkF m 5 #[.val (.ref a)] [(.int (1 : Int32))])) (own_len X35 hx hZ e35 Vt (z := (1 : Int32)) rfl (g := (mkF m 4 #[.val (.ref a)] [(.ref t)])) rfl rfl (hb hby d15_4)) ?_
  refine own_st (T' := T35) (g' := (mkF m 6 #[.val (.ref a)] [(.ref a), (.int (1 : Int32))])) (fun _ k => XS.aloadN X35.here hx rfl (hb hby d15_5) rfl rfl k) ?_
  obtain ⟨cq36, kq36, q36a, q36b, q36c⟩ := isOf hZ e35 Ea
  obtain ⟨vq36, _, ⟨T36, L36, k36, n36⟩, -, X36, ⟨Lc36, hQ36, l36, y36, z36⟩, st36⟩ := X35.virtualBack hx (y := (⟨"java/lang/String", "coder", "()B"⟩ : MethodName)) (z := (⟨"java/lang/String", "coder", "()B"⟩ : MethodName)) hown (mvT hZ (hw _ (List.mem_of_getElem? (i := 101) rfl))) (mvT hZ (hw _ (List.mem_of_getElem? (i := 102) rfl))) (notFace_of_selects (args := #[]) (mvT hZ (hw _ (List.mem_of_getElem? (i := 104) rfl)))) (mvT hZ (hw _ (List.mem_of_getElem? (i := 104) rfl))) (mvT hZ (hw _ (List.mem_of_getElem? (i := 103) rfl))) (by decide) (backOf (W := 1) (own_coder l Z a0 hw [] a cc h0 n0 Z0 Fc SC hcs) hZ (hw _ (List.mem_of_getElem? (i := 105) rfl)) (hw _ (List.mem_of_getElem? (i := 1) rfl)) (by decide) (by decide)) q36a q36c (g := (mkF m 6 #[.val (.ref a)] [(.ref a), (.int (1 : Int32))])) rfl (by rw [hml]; rfl) (Steps.refl _) (argsL := []) (rest := [(.int (1 : Int32))]) (lenOf own_pd8 rfl) rfl (by show 2 * 0 + _ ≤ _; exact Nat.le_of_eq rfl) (hb hby d15_6) (fun _ _ => ⟨rfl, e35, (by decide : 0 + 0 ≤ _), (by decide : 0 + 0 ≤ _)⟩)
  dsimp only [Pt.U, Pt.locs, Pt.cells, Pt.slots] at X36 l36 y36 z36 st36 hQ36
  subst l36 y36 z36
  obtain ⟨rfl, N36q, e36⟩ := hQ36
  have N0' := Fr.app N0 N36q
  refine own_tr (T' := T36) (g' := (mkF m 9 #[.val (.ref a)] [(.int (0 : Int32)), (.int (1 : Int32))])) st36 ?_
  refine own_st (T' := T36) (g' := (mkF m 10 #[.val (.ref a)] [(.int ((1 : Int32) >>> ((0 : Int32) &&& 31)))])) (fun _ k => XS.ishr X36.here hx rfl (hb hby d15_9) rfl k) ?_
  rw [show ((1 : Int32) >>> ((0 : Int32) &&& 31)) = (1 : Int32) from rfl]
  exact own_retI X36 hx Bd.returns Bd.notSynchronized e36 (hb hby d15_10) ⟨rfl, N0', rfl⟩ (by decide) (by decide)
theorem d21_0 : decode jdk_41_method_11_code 0 = .ok (.iload_n 0, 1) := by decide +kernel
theorem d21_1 : decode jdk_41_method_11_code 1 = .ok (.ifCond .lt 8, 3) := by decide +kernel
theorem d21_4 : decode jdk_41_method_11_code 4 = .ok (.iload_n 0, 1) := by decide +kernel
theorem d21_5 : decode jdk_41_method_11_code 5 = .ok (.iload_n 1, 1) := by decide +kernel
theorem d21_6 : decode jdk_41_method_11_code 6 = .ok (.if_icmp .lt 10, 3) := by decide +kernel
theorem d21_16 : decode jdk_41_method_11_code 16 = .ok (.iload_n 0, 1) := by decide +kernel
theorem d21_17 : decode jdk_41_method_11_code 17 = .ok (.ireturn, 1) := by decide +kernel
theorem own_pn5 : plainName "jdk/internal/util/Preconditions" = true := by first | (simp [plainName, overriddenIn]; done) | decide +kernel
def own_ci_Q (Z : State) (fm : Value) (h0 : Heap) (n0 : Nat) (v : Option Value) (h : Heap) (L : List Loc) : Prop := v = some (.int 0) ∧ Fr n0 L ∧ h = h0
set_option maxRecDepth 65536 in
set_option maxHeartbeats 40000000 in
theorem own_ci (l : Launch) (Z : State) (a0 : Array Value) (hw : ∀ d ∈ tables_1, d.before a0 Z = true) (ws : List Jvm.Cond) (fm : Value) (h0 : Heap) (n0 : Nat) (Z0 : n0 ≤ h0.size) (hfm : fm.isRef = true) :
    MetFree l (⟨"jdk/internal/util/Preconditions", "checkIndex", "(IILjava/util/function/BiFunction;)I"⟩ : MethodName) (head1 (Jvm.Cond.code (⟨"jdk/internal/util/Preconditions", "checkIndex", "(IILjava/util/function/BiFunction;)I"⟩ : MethodName) jdk_41_method_11_code 3 (some .int) :: ws) ({ frames := 0, cells := 0, slots := 0, locals := 0 } : Room)) (fun aa U0 => aa = #[(.int (0 : Int32)), (.int (1 : Int32)), fm] ∧ Z.Warmed39 U0.vm ∧ U0.heap = h0) (fun _ _ _ _ _ => True) (fun _ U0 o0 U1 => ∃ v0 L0, o0 = .returned v0 ∧ own_ci_Q Z fm h0 n0 v0 U1.heap L0 ∧ FrameEnd U0 o0 U1 L0 ({ frames := 0, cells := 0, slots := 0, locals := 0 } : Room).cells ({ frames := 0, cells := 0, slots := 0, locals := 0 } : Room).slots) := by
  refine MetFree.of_bodySF (plainFor_of_name own_pn5) hisR ?_
  intro p e s m args below meth c s₁ Bd hml0 hP hK
  obtain ⟨rfl, hZ, hh⟩ := hP
  have hx := Bd.exec
  have hby := Bd.bytes
  have hml : c.maxLocals = 3 := hml0
  have hown : s.vm.findClass "jdk/internal/util/Preconditions" = some m.cls := findClass_of_methodNamed Bd.named
  have hnm := (name_of_methodNamed Bd.named Bd.method).1
  have X0 : Stand p l e ({ frames := 0, cells := 0, slots := 0, locals := 0 } : Room) s m #[(.int (0 : Int32)), (.int (1 : Int32)), fm] below meth c s₁ [] 0 0 := Stand.of_body Bd
  have e0 : s₁.heap = h0 := by rw [← hh, Bd.state]; rfl
  have N0 := Fr.nil n0
  show own_Go p e below s (own_ci_Q Z fm h0 n0) 0 0 s₁ (entryFrame m #[(.int (0 : Int32)), (.int (1 : Int32)), fm] 3)
  rw [show entryFrame m #[(.int (0 : Int32)), (.int (1 : Int32)), fm] 3 = mkF m 0 #[.val (.int (0 : Int32)), .val (.int (1 : Int32)), .val fm] [] from by (rcases ref_cases hfm with rfl | ⟨_, rfl⟩) <;> first | (simp [entryFrame, mkF, argsToLocals, Value.category]; done) | rfl]
  refine own_st (T' := s₁) (g' := (mkF m 1 #[.val (.int (0 : Int32)), .val (.int (1 : Int32)), .val fm] [(.int (0 : Int32))])) (fun _ k => XS.iloadN X0.here hx rfl (hb hby d21_0) rfl k) ?_
  refine own_st (T' := s₁) (g' := (mkF m 4 #[.val (.int (0 : Int32)), .val (.int (1 : Int32)), .val fm] [])) (fun _ k => XS.ifNo X0.here hx rfl (hb hby d21_1) rfl (Jvm.Free.XT.i0_lt_f (by decide)) k) ?_
  refine own_st (T' := s₁) (g' := (mkF m 5 #[.val (.int (0 : Int32)), .val (.int (1 : Int32)), .val fm] [(.int (0 : Int32))])) (fun _ k => XS.iloadN X0.here hx rfl (hb hby d21_4) rfl k) ?_
  refine own_st (T' := s₁) (g' := (mkF m 6 #[.val (.int (0 : Int32)), .val (.int (1 : Int32)), .val fm] [(.int (1 : Int32)), (.int (0 : Int32))])) (fun _ k => XS.iloadN X0.here hx rfl (hb hby d21_5) rfl k) ?_
  refine own_st (T' := s₁) (g' := (mkF m 16 #[.val (.int (0 : Int32)), .val (.int (1 : Int32)), .val fm] [])) (fun _ k => XS.icmpYes X0.here hx rfl (pc0 := 6) (pc' := 16) rfl (hb hby d21_6) rfl (Jvm.Free.XT.ii_lt_t (by decide)) (by decide) (by decide) k) ?_
  refine own_st (T' := s₁) (g' := (mkF m 17 #[.val (.int (0 : Int32)), .val (.int (1 : Int32)), .val fm] [(.int (0 : Int32))])) (fun _ k => XS.iloadN X0.here hx rfl (hb hby d21_16) rfl k) ?_
  exact own_retI X0 hx Bd.returns Bd.notSynchronized e0 (hb hby d21_17) ⟨rfl, N0, rfl⟩ (by decide) (by decide)
theorem own_pd9 : parseMethodDescriptor "(IILjava/util/function/BiFunction;)I" = some ⟨[.int, .int, (.object "java/util/function/BiFunction")], some .int⟩ := by decide +kernel
theorem d20_0 : decode jdk_42_method_155_code 0 = .ok (.iload_n 0, 1) := by decide +kernel
theorem d20_1 : decode jdk_42_method_155_code 1 = .ok (.iload_n 1, 1) := by decide +kernel
theorem d20_2 : decode jdk_42_method_155_code 2 = .ok (.getstatic 1053, 3) := by decide +kernel
theorem d20_5 : decode jdk_42_method_155_code 5 = .ok (.invokestatic 1059, 3) := by decide +kernel
theorem d20_8 : decode jdk_42_method_155_code 8 = .ok (.pop, 1) := by decide +kernel
theorem d20_9 : decode jdk_42_method_155_code 9 = .ok (.return_, 1) := by decide +kernel
def own_sci_Q (Z : State) (fm : Value) (h0 : Heap) (n0 : Nat) (v : Option Value) (h : Heap) (L : List Loc) : Prop := v = none ∧ Fr n0 L ∧ h = h0
set_option maxRecDepth 65536 in
set_option maxHeartbeats 40000000 in
theorem own_sci (l : Launch) (Z : State) (a0 : Array Value) (hw : ∀ d ∈ tables_1, d.before a0 Z = true) (ws : List Jvm.Cond) (fm : Value) (h0 : Heap) (n0 : Nat) (Z0 : n0 ≤ h0.size) (SF : Sta Z h0 "jdk/internal/util/Preconditions" "SIOOBE_FORMATTER" "Ljava/util/function/BiFunction;" fm) (hfm : fm.isRef = true) :
    MetFree l (⟨"java/lang/String", "checkIndex", "(II)V"⟩ : MethodName) (head1 (Jvm.Cond.code (⟨"java/lang/String", "checkIndex", "(II)V"⟩ : MethodName) jdk_42_method_155_code 2 none :: ws) ({ frames := 1, cells := 0, slots := 0, locals := 14 } : Room)) (fun aa U0 => aa = #[(.int (0 : Int32)), (.int (1 : Int32))] ∧ Z.Warmed39 U0.vm ∧ U0.heap = h0) (fun _ _ _ _ _ => True) (fun _ U0 o0 U1 => ∃ v0 L0, o0 = .returned v0 ∧ own_sci_Q Z fm h0 n0 v0 U1.heap L0 ∧ FrameEnd U0 o0 U1 L0 ({ frames := 1, cells := 0, slots := 0, locals := 14 } : Room).cells ({ frames := 1, cells := 0, slots := 0, locals := 14 } : Room).slots) := by
  refine MetFree.of_bodySF (plainFor_of_name own_pn1) hisR ?_
  intro p e s m args below meth c s₁ Bd hml0 hP hK
  obtain ⟨rfl, hZ, hh⟩ := hP
  have hx := Bd.exec
  have hby := Bd.bytes
  have hml : c.maxLocals = 2 := hml0
  have hown : s.vm.findClass "java/lang/String" = some m.cls := findClass_of_methodNamed Bd.named
  have hnm := (name_of_methodNamed Bd.named Bd.method).1
  have X0 : Stand p l e ({ frames := 1, cells := 0, slots := 0, locals := 14 } : Room) s m #[(.int (0 : Int32)), (.int (1 : Int32))] below meth c s₁ [] 0 0 := Stand.of_body Bd
  have e0 : s₁.heap = h0 := by rw [← hh, Bd.state]; rfl
  have N0 := Fr.nil n0
  show own_Go p e below s (own_sci_Q Z fm h0 n0) 0 0 s₁ (entryFrame m #[(.int (0 : Int32)), (.int (1 : Int32))] 2)
  rw [show entryFrame m #[(.int (0 : Int32)), (.int (1 : Int32))] 2 = mkF m 0 #[.val (.int (0 : Int32)), .val (.int (1 : Int32))] [] from by first | (simp [entryFrame, mkF, argsToLocals, Value.category]; done) | rfl]
  refine own_st (T' := s₁) (g' := (mkF m 1 #[.val (.int (0 : Int32)), .val (.int (1 : Int32))] [(.int (0 : Int32))])) (fun _ k => XS.iloadN X0.here hx rfl (hb hby d20_0) rfl k) ?_
  refine own_st (T' := s₁) (g' := (mkF m 2 #[.val (.int (0 : Int32)), .val (.int (1 : Int32))] [(.int (1 : Int32)), (.int (0 : Int32))])) (fun _ k => XS.iloadN X0.here hx rfl (hb hby d20_1) rfl k) ?_
  obtain ⟨T37, X37, e37, st37⟩ := getS2 X0 hx hZ hown (host := "") (Or.inl (hw _ (List.mem_of_getElem? (i := 122) rfl))) Via.refl e0 SF (g := (mkF m 2 #[.val (.int (0 : Int32)), .val (.int (1 : Int32))] [(.int (1 : Int32)), (.int (0 : Int32))])) rfl (hb hby d20_2)
  refine own_st (T' := T37) (g' := (mkF m 5 #[.val (.int (0 : Int32)), .val (.int (1 : Int32))] [fm, (.int (1 : Int32)), (.int (0 : Int32))])) st37 ?_
  obtain ⟨vq38, _, ⟨T38, L38, k38, n38⟩, -, X38, ⟨Lc38, hQ38, l38, y38, z38⟩, st38⟩ := Jvm.LawKit.callS X37 hx (y := (⟨"jdk/internal/util/Preconditions", "checkIndex", "(IILjava/util/function/BiFunction;)I"⟩ : MethodName)) hown (mvT hZ (hw _ (List.mem_of_getElem? (i := 124) rfl))) (mvT hZ (hw _ (List.mem_of_getElem? (i := 125) rfl))) (mvT hZ (hw _ (List.mem_of_getElem? (i := 123) rfl))) (mvT hZ (hw _ (List.mem_of_getElem? (i := 126) rfl))) (by decide) (backOf (W := 0) (own_ci l Z a0 hw [] fm h0 n0 Z0 hfm) hZ (hw _ (List.mem_of_getElem? (i := 126) rfl)) (hw _ (List.mem_of_getElem? (i := 123) rfl)) (by decide) (by decide)) (g := (mkF m 5 #[.val (.int (0 : Int32)), .val (.int (1 : Int32))] [fm, (.int (1 : Int32)), (.int (0 : Int32))])) rfl (by rw [hml]; rfl) (argsL := [(.int (0 : Int32)), (.int (1 : Int32)), fm]) (rest := []) (lenOf own_pd9 rfl) rfl (by show 2 * 0 + _ ≤ _; exact Nat.le_of_eq rfl) (hb hby d20_5) (fun _ _ => ⟨rfl, e37, (by decide : 0 + 0 ≤ _), (by decide : 0 + 0 ≤ _)⟩)
  dsimp only [Pt.U, Pt.locs, Pt.cells, Pt.slots] at X38 l38 y38 z38 st38 hQ38
  subst l38 y38 z38
  obtain ⟨rfl, N38q, e38⟩ := hQ38
  have N0' := Fr.app N0 N38q
  refine own_st (T' := T38) (g' := (mkF m 8 #[.val (.int (0 : Int32)), .val (.int (1 : Int32))] [(.int (0 : Int32))])) st38 ?_
  refine own_st (T' := T38) (g' := (mkF m 9 #[.val (.int (0 : Int32)), .val (.int (1 : Int32))] [])) (fun _ k => XS.pop X38.here hx rfl (hb hby d20_8) rfl rfl k) ?_
  exact own_ret0 X38 hx Bd.returns Bd.notSynchronized e38 (hb hby d20_9) ⟨rfl, N0', rfl⟩ (by decide) (by decide)
theorem own_pd10 : parseMethodDescriptor "(II)V" = some ⟨[.int, .int], none⟩ := by decide +kernel
theorem d19_0 : decode jdk_43_method_2_code 0 = .ok (.iload_n 1, 1) := by decide +kernel
theorem d19_1 : decode jdk_43_method_2_code 1 = .ok (.aload_n 0, 1) := by decide +kernel
theorem d19_2 : decode jdk_43_method_2_code 2 = .ok (.arraylength, 1) := by decide +kernel
theorem d19_3 : decode jdk_43_method_2_code 3 = .ok (.invokestatic 9, 3) := by decide +kernel
theorem d19_6 : decode jdk_43_method_2_code 6 = .ok (.aload_n 0, 1) := by decide +kernel
theorem d19_7 : decode jdk_43_method_2_code 7 = .ok (.iload_n 1, 1) := by decide +kernel
theorem d19_8 : decode jdk_43_method_2_code 8 = .ok (.baload, 1) := by decide +kernel
theorem d19_9 : decode jdk_43_method_2_code 9 = .ok (.sipush 255, 3) := by decide +kernel
theorem d19_12 : decode jdk_43_method_2_code 12 = .ok (.iand, 1) := by decide +kernel
theorem d19_13 : decode jdk_43_method_2_code 13 = .ok (.i2c, 1) := by decide +kernel
theorem d19_14 : decode jdk_43_method_2_code 14 = .ok (.ireturn, 1) := by decide +kernel
def own_lca_Q (Z : State) (t : Addr) (kt : ClassId) (x : Int32) (q : Int32) (fm : Value) (h0 : Heap) (n0 : Nat) (v : Option Value) (h : Heap) (L : List Loc) : Prop := v = some (.int q) ∧ Fr n0 L ∧ h = h0
set_option maxRecDepth 65536 in
set_option maxHeartbeats 40000000 in
theorem own_lca (l : Launch) (Z : State) (a0 : Array Value) (hw : ∀ d ∈ tables_1, d.before a0 Z = true) (ws : List Jvm.Cond) (t : Addr) (kt : ClassId) (x : Int32) (q : Int32) (fm : Value) (h0 : Heap) (n0 : Nat) (Z0 : n0 ≤ h0.size) (Vt : own_Av Z h0 t kt .byte 1 (fun _ => .int x)) (SF : Sta Z h0 "jdk/internal/util/Preconditions" "SIOOBE_FORMATTER" "Ljava/util/function/BiFunction;" fm) (hfm : fm.isRef = true) (hq : nar .char (x &&& (255 : Int32)).toUInt32.toUInt16.toUInt32.toInt32 = q) (hqq : nar .char q = q) :
    MetFree l (⟨"java/lang/StringLatin1", "charAt", "([BI)C"⟩ : MethodName) (head1 (Jvm.Cond.code (⟨"java/lang/StringLatin1", "charAt", "([BI)C"⟩ : MethodName) jdk_43_method_2_code 2 (some .char) :: ws) ({ frames := 2, cells := 0, slots := 0, locals := 27 } : Room)) (fun aa U0 => aa = #[(.ref t), (.int (0 : Int32))] ∧ Z.Warmed39 U0.vm ∧ U0.heap = h0) (fun _ _ _ _ _ => True) (fun _ U0 o0 U1 => ∃ v0 L0, o0 = .returned v0 ∧ own_lca_Q Z t kt x q fm h0 n0 v0 U1.heap L0 ∧ FrameEnd U0 o0 U1 L0 ({ frames := 2, cells := 0, slots := 0, locals := 27 } : Room).cells ({ frames := 2, cells := 0, slots := 0, locals := 27 } : Room).slots) := by
  refine MetFree.of_bodySF (plainFor_of_name own_pn0) hisR ?_
  intro p e s m args below meth c s₁ Bd hml0 hP hK
  obtain ⟨rfl, hZ, hh⟩ := hP
  have hx := Bd.exec
  have hby := Bd.bytes
  have hml : c.maxLocals = 2 := hml0
  have hown : s.vm.findClass "java/lang/StringLatin1" = some m.cls := findClass_of_methodNamed Bd.named
  have hnm := (name_of_methodNamed Bd.named Bd.method).1
  have X0 : Stand p l e ({ frames := 2, cells := 0, slots := 0, locals := 27 } : Room) s m #[(.ref t), (.int (0 : Int32))] below meth c s₁ [] 0 0 := Stand.of_body Bd
  have e0 : s₁.heap = h0 := by rw [← hh, Bd.state]; rfl
  have N0 := Fr.nil n0
  show own_Go p e below s (own_lca_Q Z t kt x q fm h0 n0) 0 0 s₁ (entryFrame m #[(.ref t), (.int (0 : Int32))] 2)
  rw [show entryFrame m #[(.ref t), (.int (0 : Int32))] 2 = mkF m 0 #[.val (.ref t), .val (.int (0 : Int32))] [] from by first | (simp [entryFrame, mkF, argsToLocals, Value.category]; done) | rfl]
  refine own_st (T' := s₁) (g' := (mkF m 1 #[.val (.ref t), .val (.int (0 : Int32))] [(.int (0 : Int32))])) (fun _ k => XS.iloadN X0.here hx rfl (hb hby d19_0) rfl k) ?_
  refine own_st (T' := s₁) (g' := (mkF m 2 #[.val (.ref t), .val (.int (0 : Int32))] [(.ref t), (.int (0 : Int32))])) (fun _ k => XS.aloadN X0.here hx rfl (hb hby d19_1) rfl rfl k) ?_
  refine own_st (T' := s₁) (g' := (mkF m 3 #[.val (.ref t), .val (.int (0 : Int32))] [(.int (1 : Int32)), (.int (0 : Int32))])) (own_len X0 hx hZ e0 Vt (z := (1 : Int32)) rfl (g := (mkF m 2 #[.val (.ref t), .val (.int (0 : Int32))] [(.ref t), (.int (0 : Int32))])) rfl rfl (hb hby d19_2)) ?_
  obtain ⟨vq39, _, ⟨T39, L39, k39, n39⟩, -, X39, ⟨Lc39, hQ39, l39, y39, z39⟩, st39⟩ := Jvm.LawKit.callS X0 hx (y := (⟨"java/lang/String", "checkIndex", "(II)V"⟩ : MethodName)) hown (mvT hZ (hw _ (List.mem_of_getElem? (i := 119) rfl))) (mvT hZ (hw _ (List.mem_of_getElem? (i := 120) rfl))) (mvT hZ (hw _ (List.mem_of_getElem? (i := 1) rfl))) (mvT hZ (hw _ (List.mem_of_getElem? (i := 121) rfl))) (by decide) (backOf (W := 0) (own_sci l Z a0 hw [] fm h0 n0 Z0 SF hfm) hZ (hw _ (List.mem_of_getElem? (i := 121) rfl)) (hw _ (List.mem_of_getElem? (i := 1) rfl)) (by decide) (by decide)) (g := (mkF m 3 #[.val (.ref t), .val (.int (0 : Int32))] [(.int (1 : Int32)), (.int (0 : Int32))])) rfl (by rw [hml]; rfl) (argsL := [(.int (0 : Int32)), (.int (1 : Int32))]) (rest := []) (lenOf own_pd10 rfl) rfl (by show 2 * 0 + _ ≤ _; exact Nat.le_of_eq rfl) (hb hby d19_3) (fun _ _ => ⟨rfl, e0, (by decide : 0 + 0 ≤ _), (by decide : 0 + 0 ≤ _)⟩)
  dsimp only [Pt.U, Pt.locs, Pt.cells, Pt.slots] at X39 l39 y39 z39 st39 hQ39
  subst l39 y39 z39
  obtain ⟨rfl, N39q, e39⟩ := hQ39
  have N0' := Fr.app N0 N39q
  refine own_st (T' := T39) (g' := (mkF m 6 #[.val (.ref t), .val (.int (0 : Int32))] [])) st39 ?_
  refine own_st (T' := T39) (g' := (mkF m 7 #[.val (.ref t), .val (.int (0 : Int32))] [(.ref t)])) (fun _ k => XS.aloadN X39.here hx rfl (hb hby d19_6) rfl rfl k) ?_
  refine own_st (T' := T39) (g' := (mkF m 8 #[.val (.ref t), .val (.int (0 : Int32))] [(.int (0 : Int32)), (.ref t)])) (fun _ k => XS.iloadN X39.here hx rfl (hb hby d19_7) rfl k) ?_
  refine own_st (T' := T39) (g' := (mkF m 9 #[.val (.ref t), .val (.int (0 : Int32))] [(.int x)])) (own_ldB X39 hx hZ e39 Vt (i := 0) (by decide) (by decide) (v := (.int x)) rfl (g := (mkF m 8 #[.val (.ref t), .val (.int (0 : Int32))] [(.int (0 : Int32)), (.ref t)])) rfl rfl (hb hby d19_8)) ?_
  refine own_st (T' := T39) (g' := (mkF m 12 #[.val (.ref t), .val (.int (0 : Int32))] [(.int (255 : Int32)), (.int x)])) (fun _ k => XS.sipush X39.here hx rfl (hb hby d19_9) k) ?_
  refine own_st (T' := T39) (g' := (mkF m 13 #[.val (.ref t), .val (.int (0 : Int32))] [(.int (x &&& (255 : Int32)))])) (fun _ k => XS.iand X39.here hx rfl (hb hby d19_12) rfl k) ?_
  refine own_st (T' := T39) (g' := (mkF m 14 #[.val (.ref t), .val (.int (0 : Int32))] [(.int ((x &&& (255 : Int32)).toUInt32.toUInt16.toUInt32.toInt32))])) (fun _ k => XS.i2c X39.here hx rfl (hb hby d19_13) rfl k) ?_
  exact own_retN X39 hx Bd.returns Bd.notSynchronized e39 (by simp) (hb hby d19_14) ⟨congrArg (fun z => some (Value.int z)) hq, N0', rfl⟩ (by decide) (by decide)
theorem d18_0 : decode jdk_42_method_154_code 0 = .ok (.getstatic 38, 3) := by decide +kernel
theorem d18_3 : decode jdk_42_method_154_code 3 = .ok (.ifCond .eq 14, 3) := by decide +kernel
theorem d18_6 : decode jdk_42_method_154_code 6 = .ok (.aload_n 0, 1) := by decide +kernel
theorem d18_7 : decode jdk_42_method_154_code 7 = .ok (.getfield 15, 3) := by decide +kernel
theorem d18_10 : decode jdk_42_method_154_code 10 = .ok (.ifCond .ne 7, 3) := by decide +kernel
theorem d18_13 : decode jdk_42_method_154_code 13 = .ok (.iconst 1, 1) := by decide +kernel
theorem d18_14 : decode jdk_42_method_154_code 14 = .ok (.goto 4, 3) := by decide +kernel
theorem d18_18 : decode jdk_42_method_154_code 18 = .ok (.ireturn, 1) := by decide +kernel
def own_il1_Q (Z : State) (a : Addr) (cc : Int32) (h0 : Heap) (n0 : Nat) (v : Option Value) (h : Heap) (L : List Loc) : Prop := v = some (.int 1) ∧ Fr n0 L ∧ h = h0
set_option maxRecDepth 65536 in
set_option maxHeartbeats 40000000 in
theorem own_il1 (l : Launch) (Z : State) (a0 : Array Value) (hw : ∀ d ∈ tables_1, d.before a0 Z = true) (ws : List Jvm.Cond) (a : Addr) (cc : Int32) (h0 : Heap) (n0 : Nat) (Z0 : n0 ≤ h0.size) (Fc : Fld Z h0 a "java/lang/String" "coder" "B" (.int (0 : Int32))) (SC : Sta Z h0 "java/lang/String" "COMPACT_STRINGS" "Z" (.int cc)) (hcs : ¬ cc = (0 : Int32)) :
    MetFree l (⟨"java/lang/String", "isLatin1", "()Z"⟩ : MethodName) (head1 (Jvm.Cond.code (⟨"java/lang/String", "isLatin1", "()Z"⟩ : MethodName) jdk_42_method_154_code 1 (some .boolean) :: ws) ({ frames := 0, cells := 0, slots := 0, locals := 0 } : Room)) (fun aa U0 => aa = #[(.ref a)] ∧ Z.Warmed39 U0.vm ∧ U0.heap = h0) (fun _ _ _ _ _ => True) (fun _ U0 o0 U1 => ∃ v0 L0, o0 = .returned v0 ∧ own_il1_Q Z a cc h0 n0 v0 U1.heap L0 ∧ FrameEnd U0 o0 U1 L0 ({ frames := 0, cells := 0, slots := 0, locals := 0 } : Room).cells ({ frames := 0, cells := 0, slots := 0, locals := 0 } : Room).slots) := by
  refine MetFree.of_bodySF (plainFor_of_name own_pn1) hisR ?_
  intro p e s m args below meth c s₁ Bd hml0 hP hK
  obtain ⟨rfl, hZ, hh⟩ := hP
  have hx := Bd.exec
  have hby := Bd.bytes
  have hml : c.maxLocals = 1 := hml0
  have hown : s.vm.findClass "java/lang/String" = some m.cls := findClass_of_methodNamed Bd.named
  have hnm := (name_of_methodNamed Bd.named Bd.method).1
  have X0 : Stand p l e ({ frames := 0, cells := 0, slots := 0, locals := 0 } : Room) s m #[(.ref a)] below meth c s₁ [] 0 0 := Stand.of_body Bd
  have e0 : s₁.heap = h0 := by rw [← hh, Bd.state]; rfl
  have N0 := Fr.nil n0
  show own_Go p e below s (own_il1_Q Z a cc h0 n0) 0 0 s₁ (entryFrame m #[(.ref a)] 1)
  rw [show entryFrame m #[(.ref a)] 1 = mkF m 0 #[.val (.ref a)] [] from by first | (simp [entryFrame, mkF, argsToLocals, Value.category]; done) | rfl]
  obtain ⟨T40, X40, e40, st40⟩ := getS2 X0 hx hZ hown (host := "") (Or.inl (hw _ (List.mem_of_getElem? (i := 34) rfl))) Via.refl e0 SC (g := (mkF m 0 #[.val (.ref a)] [])) rfl (hb hby d18_0)
  refine own_st (T' := T40) (g' := (mkF m 3 #[.val (.ref a)] [(.int cc)])) st40 ?_
  refine own_st (T' := T40) (g' := (mkF m 6 #[.val (.ref a)] [])) (fun _ k => XS.ifNo X40.here hx rfl (hb hby d18_3) rfl (Jvm.Free.XT.i0_eq_f hcs) k) ?_
  refine own_st (T' := T40) (g' := (mkF m 7 #[.val (.ref a)] [(.ref a)])) (fun _ k => XS.aloadN X40.here hx rfl (hb hby d18_6) rfl rfl k) ?_
  obtain ⟨T41, X41, e41, st41⟩ := getF X40 hx hZ hown (host := "") (Or.inl (hw _ (List.mem_of_getElem? (i := 49) rfl))) Via.refl e40 Fc (g := (mkF m 7 #[.val (.ref a)] [(.ref a)])) rfl rfl (hb hby d18_7)
  refine own_st (T' := T41) (g' := (mkF m 10 #[.val (.ref a)] [(.int (0 : Int32))])) st41 ?_
  refine own_st (T' := T41) (g' := (mkF m 13 #[.val (.ref a)] [])) (fun _ k => XS.ifNo X41.here hx rfl (hb hby d18_10) rfl (Jvm.Free.XT.i0_ne_f rfl) k) ?_
  refine own_st (T' := T41) (g' := (mkF m 14 #[.val (.ref a)] [(.int (1 : Int32))])) (fun _ k => XS.iconst X41.here hx rfl (hb hby d18_13) k) ?_
  refine own_st (T' := T41) (g' := (mkF m 18 #[.val (.ref a)] [(.int (1 : Int32))])) (fun _ k => XS.goto X41.here hx rfl (pc0 := 14) (pc' := 18) rfl (hb hby d18_14) (by decide) (by decide) k) ?_
  exact own_retN X41 hx Bd.returns Bd.notSynchronized e41 (by simp) (hb hby d18_18) ⟨rfl, N0, rfl⟩ (by decide) (by decide)
theorem own_pd11 : parseMethodDescriptor "()Z" = some ⟨[], some .boolean⟩ := by decide +kernel
theorem own_pd12 : parseMethodDescriptor "([BI)C" = some ⟨[(.array .byte), .int], some .char⟩ := by decide +kernel
theorem d17_0 : decode jdk_42_method_56_code 0 = .ok (.aload_n 0, 1) := by decide +kernel
theorem d17_1 : decode jdk_42_method_56_code 1 = .ok (.invokevirtual 492, 3) := by decide +kernel
theorem d17_4 : decode jdk_42_method_56_code 4 = .ok (.ifCond .eq 12, 3) := by decide +kernel
theorem d17_7 : decode jdk_42_method_56_code 7 = .ok (.aload_n 0, 1) := by decide +kernel
theorem d17_8 : decode jdk_42_method_56_code 8 = .ok (.getfield 9, 3) := by decide +kernel
theorem d17_11 : decode jdk_42_method_56_code 11 = .ok (.iload_n 1, 1) := by decide +kernel
theorem d17_12 : decode jdk_42_method_56_code 12 = .ok (.invokestatic 495, 3) := by decide +kernel
theorem d17_15 : decode jdk_42_method_56_code 15 = .ok (.ireturn, 1) := by decide +kernel
def own_ca_Q (Z : State) (a : Addr) (t : Addr) (kt : ClassId) (x : Int32) (q : Int32) (cc : Int32) (fm : Value) (h0 : Heap) (n0 : Nat) (v : Option Value) (h : Heap) (L : List Loc) : Prop := v = some (.int q) ∧ Fr n0 L ∧ h = h0
set_option maxRecDepth 65536 in
set_option maxHeartbeats 40000000 in
theorem own_ca (l : Launch) (Z : State) (a0 : Array Value) (hw : ∀ d ∈ tables_1, d.before a0 Z = true) (ws : List Jvm.Cond) (a : Addr) (t : Addr) (kt : ClassId) (x : Int32) (q : Int32) (cc : Int32) (fm : Value) (h0 : Heap) (n0 : Nat) (Z0 : n0 ≤ h0.size) (Ea : Exa Z h0 a "java/lang/String") (Fv : Fld Z h0 a "java/lang/String" "value" "[B" (.ref t)) (Fc : Fld Z h0 a "java/lang/String" "coder" "B" (.int (0 : Int32))) (Vt : own_Av Z h0 t kt .byte 1 (fun _ => .int x)) (SC : Sta Z h0 "java/lang/String" "COMPACT_STRINGS" "Z" (.int cc)) (hcs : ¬ cc = (0 : Int32)) (SF : Sta Z h0 "jdk/internal/util/Preconditions" "SIOOBE_FORMATTER" "Ljava/util/function/BiFunction;" fm) (hfm : fm.isRef = true) (hq : nar .char (x &&& (255 : Int32)).toUInt32.toUInt16.toUInt32.toInt32 = q) (hqq : nar .char q = q) :
    MetFree l (⟨"java/lang/String", "charAt", "(I)C"⟩ : MethodName) (head1 (Jvm.Cond.code (⟨"java/lang/String", "charAt", "(I)C"⟩ : MethodName) jdk_42_method_56_code 2 (some .char) :: ws) ({ frames := 3, cells := 0, slots := 0, locals := 40 } : Room)) (fun aa U0 => aa = #[(.ref a), (.int (0 : Int32))] ∧ Z.Warmed39 U0.vm ∧ U0.heap = h0) (fun _ _ _ _ _ => True) (fun _ U0 o0 U1 => ∃ v0 L0, o0 = .returned v0 ∧ own_ca_Q Z a t kt x q cc fm h0 n0 v0 U1.heap L0 ∧ FrameEnd U0 o0 U1 L0 ({ frames := 3, cells := 0, slots := 0, locals := 40 } : Room).cells ({ frames := 3, cells := 0, slots := 0, locals := 40 } : Room).slots) := by
  refine MetFree.of_bodySF (plainFor_of_name own_pn1) hisR ?_
  intro p e s m args below meth c s₁ Bd hml0 hP hK
  obtain ⟨rfl, hZ, hh⟩ := hP
  have hx := Bd.exec
  have hby := Bd.bytes
  have hml : c.maxLocals = 2 := hml0
  have hown : s.vm.findClass "java/lang/String" = some m.cls := findClass_of_methodNamed Bd.named
  have hnm := (name_of_methodNamed Bd.named Bd.method).1
  have X0 : Stand p l e ({ frames := 3, cells := 0, slots := 0, locals := 40 } : Room) s m #[(.ref a), (.int (0 : Int32))] below meth c s₁ [] 0 0 := Stand.of_body Bd
  have e0 : s₁.heap = h0 := by rw [← hh, Bd.state]; rfl
  have N0 := Fr.nil n0
  show own_Go p e below s (own_ca_Q Z a t kt x q cc fm h0 n0) 0 0 s₁ (entryFrame m #[(.ref a), (.int (0 : Int32))] 2)
  rw [show entryFrame m #[(.ref a), (.int (0 : Int32))] 2 = mkF m 0 #[.val (.ref a), .val (.int (0 : Int32))] [] from by first | (simp [entryFrame, mkF, argsToLocals, Value.category]; done) | rfl]
  refine own_st (T' := s₁) (g' := (mkF m 1 #[.val (.ref a), .val (.int (0 : Int32))] [(.ref a)])) (fun _ k => XS.aloadN X0.here hx rfl (hb hby d17_0) rfl rfl k) ?_
  obtain ⟨cq42, kq42, q42a, q42b, q42c⟩ := isOf hZ e0 Ea
  obtain ⟨vq42, _, ⟨T42, L42, k42, n42⟩, -, X42, ⟨Lc42, hQ42, l42, y42, z42⟩, st42⟩ := X0.virtualBack hx (y := (⟨"java/lang/String", "isLatin1", "()Z"⟩ : MethodName)) (z := (⟨"java/lang/String", "isLatin1", "()Z"⟩ : MethodName)) hown (mvT hZ (hw _ (List.mem_of_getElem? (i := 111) rfl))) (mvT hZ (hw _ (List.mem_of_getElem? (i := 112) rfl))) (notFace_of_selects (args := #[]) (mvT hZ (hw _ (List.mem_of_getElem? (i := 114) rfl)))) (mvT hZ (hw _ (List.mem_of_getElem? (i := 114) rfl))) (mvT hZ (hw _ (List.mem_of_getElem? (i := 113) rfl))) (by decide) (backOf (W := 0) (own_il1 l Z a0 hw [] a cc h0 n0 Z0 Fc SC hcs) hZ (hw _ (List.mem_of_getElem? (i := 115) rfl)) (hw _ (List.mem_of_getElem? (i := 1) rfl)) (by decide) (by decide)) q42a q42c (g := (mkF m 1 #[.val (.ref a), .val (.int (0 : Int32))] [(.ref a)])) rfl (by rw [hml]; rfl) (Steps.refl _) (argsL := []) (rest := []) (lenOf own_pd11 rfl) rfl (by show 2 * 0 + _ ≤ _; exact Nat.le_of_eq rfl) (hb hby d17_1) (fun _ _ => ⟨rfl, e0, (by decide : 0 + 0 ≤ _), (by decide : 0 + 0 ≤ _)⟩)
  dsimp only [Pt.U, Pt.locs, Pt.cells, Pt.slots] at X42 l42 y42 z42 st42 hQ42
  subst l42 y42 z42
  obtain ⟨rfl, N42q, e42⟩ := hQ42
  have N0' := Fr.app N0 N42q
  refine own_tr (T' := T42) (g' := (mkF m 4 #[.val (.ref a), .val (.int (0 : Int32))] [(.int (1 : Int32))])) st42 ?_
  refine own_st (T' := T42) (g' := (mkF m 7 #[.val (.ref a), .val (.int (0 : Int32))] [])) (fun _ k => XS.ifNo X42.here hx rfl (hb hby d17_4) rfl (Jvm.Free.XT.i0_eq_f (by decide)) k) ?_
  refine own_st (T' := T42) (g' := (mkF m 8 #[.val (.ref a), .val (.int (0 : Int32))] [(.ref a)])) (fun _ k => XS.aloadN X42.here hx rfl (hb hby d17_7) rfl rfl k) ?_
  obtain ⟨T43, X43, e43, st43⟩ := getF X42 hx hZ hown (host := "") (Or.inl (hw _ (List.mem_of_getElem? (i := 48) rfl))) Via.refl e42 Fv (g := (mkF m 8 #[.val (.ref a), .val (.int (0 : Int32))] [(.ref a)])) rfl rfl (hb hby d17_8)
  refine own_st (T' := T43) (g' := (mkF m 11 #[.val (.ref a), .val (.int (0 : Int32))] [(.ref t)])) st43 ?_
  refine own_st (T' := T43) (g' := (mkF m 12 #[.val (.ref a), .val (.int (0 : Int32))] [(.int (0 : Int32)), (.ref t)])) (fun _ k => XS.iloadN X43.here hx rfl (hb hby d17_11) rfl k) ?_
  obtain ⟨vq44, _, ⟨T44, L44, k44, n44⟩, -, X44, ⟨Lc44, hQ44, l44, y44, z44⟩, st44⟩ := Jvm.LawKit.callS X43 hx (y := (⟨"java/lang/StringLatin1", "charAt", "([BI)C"⟩ : MethodName)) hown (mvT hZ (hw _ (List.mem_of_getElem? (i := 116) rfl))) (mvT hZ (hw _ (List.mem_of_getElem? (i := 117) rfl))) (mvT hZ (hw _ (List.mem_of_getElem? (i := 37) rfl))) (mvT hZ (hw _ (List.mem_of_getElem? (i := 118) rfl))) (by decide) (backOf (W := 0) (own_lca l Z a0 hw [] t kt x q fm h0 n0 Z0 Vt SF hfm hq hqq) hZ (hw _ (List.mem_of_getElem? (i := 118) rfl)) (hw _ (List.mem_of_getElem? (i := 37) rfl)) (by decide) (by decide)) (g := (mkF m 12 #[.val (.ref a), .val (.int (0 : Int32))] [(.int (0 : Int32)), (.ref t)])) rfl (by rw [hml]; rfl) (argsL := [(.ref t), (.int (0 : Int32))]) (rest := []) (lenOf own_pd12 rfl) rfl (by show 2 * 0 + _ ≤ _; exact Nat.le_of_eq rfl) (hb hby d17_12) (fun _ _ => ⟨rfl, e43, (by decide : (0 + 0) + 0 ≤ _), (by decide : (0 + 0) + 0 ≤ _)⟩)
  dsimp only [Pt.U, Pt.locs, Pt.cells, Pt.slots] at X44 l44 y44 z44 st44 hQ44
  subst l44 y44 z44
  obtain ⟨rfl, N44q, e44⟩ := hQ44
  have N0'' := Fr.app N0' N44q
  refine own_st (T' := T44) (g' := (mkF m 15 #[.val (.ref a), .val (.int (0 : Int32))] [(.int q)])) st44 ?_
  exact own_retN X44 hx Bd.returns Bd.notSynchronized e44 (by simp) (hb hby d17_15) ⟨congrArg (fun z => some (Value.int z)) hqq, N0'', rfl⟩ (by decide) (by decide)
theorem d51_0 : decode jdk_41_method_12_code 0 = .ok (.iload_n 0, 1) := by decide +kernel
theorem d51_1 : decode jdk_41_method_12_code 1 = .ok (.ifCond .lt 13, 3) := by decide +kernel
theorem d51_4 : decode jdk_41_method_12_code 4 = .ok (.iload_n 0, 1) := by decide +kernel
theorem d51_5 : decode jdk_41_method_12_code 5 = .ok (.iload_n 1, 1) := by decide +kernel
theorem d51_6 : decode jdk_41_method_12_code 6 = .ok (.if_icmp .gt 8, 3) := by decide +kernel
theorem d51_9 : decode jdk_41_method_12_code 9 = .ok (.iload_n 1, 1) := by decide +kernel
theorem d51_10 : decode jdk_41_method_12_code 10 = .ok (.iload_n 2, 1) := by decide +kernel
theorem d51_11 : decode jdk_41_method_12_code 11 = .ok (.if_icmp .le 11, 3) := by decide +kernel
theorem d51_22 : decode jdk_41_method_12_code 22 = .ok (.iload_n 0, 1) := by decide +kernel
theorem d51_23 : decode jdk_41_method_12_code 23 = .ok (.ireturn, 1) := by decide +kernel
def own_cft_Q (Z : State) (fm : Value) (h0 : Heap) (n0 : Nat) (v : Option Value) (h : Heap) (L : List Loc) : Prop := v = some (.int 0) ∧ Fr n0 L ∧ h = h0
set_option maxRecDepth 65536 in
set_option maxHeartbeats 40000000 in
theorem own_cft (l : Launch) (Z : State) (a0 : Array Value) (hw : ∀ d ∈ tables_1, d.before a0 Z = true) (ws : List Jvm.Cond) (fm : Value) (h0 : Heap) (n0 : Nat) (Z0 : n0 ≤ h0.size) (hfm : fm.isRef = true) :
    MetFree l (⟨"jdk/internal/util/Preconditions", "checkFromToIndex", "(IIILjava/util/function/BiFunction;)I"⟩ : MethodName) (head1 (Jvm.Cond.code (⟨"jdk/internal/util/Preconditions", "checkFromToIndex", "(IIILjava/util/function/BiFunction;)I"⟩ : MethodName) jdk_41_method_12_code 4 (some .int) :: ws) ({ frames := 0, cells := 0, slots := 0, locals := 0 } : Room)) (fun aa U0 => aa = #[(.int (0 : Int32)), (.int (1 : Int32)), (.int (1 : Int32)), fm] ∧ Z.Warmed39 U0.vm ∧ U0.heap = h0) (fun _ _ _ _ _ => True) (fun _ U0 o0 U1 => ∃ v0 L0, o0 = .returned v0 ∧ own_cft_Q Z fm h0 n0 v0 U1.heap L0 ∧ FrameEnd U0 o0 U1 L0 ({ frames := 0, cells := 0, slots := 0, locals := 0 } : Room).cells ({ frames := 0, cells := 0, slots := 0, locals := 0 } : Room).slots) := by
  refine MetFree.of_bodySF (plainFor_of_name own_pn5) hisR ?_
  intro p e s m args below meth c s₁ Bd hml0 hP hK
  obtain ⟨rfl, hZ, hh⟩ := hP
  have hx := Bd.exec
  have hby := Bd.bytes
  have hml : c.maxLocals = 4 := hml0
  have hown : s.vm.findClass "jdk/internal/util/Preconditions" = some m.cls := findClass_of_methodNamed Bd.named
  have hnm := (name_of_methodNamed Bd.named Bd.method).1
  have X0 : Stand p l e ({ frames := 0, cells := 0, slots := 0, locals := 0 } : Room) s m #[(.int (0 : Int32)), (.int (1 : Int32)), (.int (1 : Int32)), fm] below meth c s₁ [] 0 0 := Stand.of_body Bd
  have e0 : s₁.heap = h0 := by rw [← hh, Bd.state]; rfl
  have N0 := Fr.nil n0
  show own_Go p e below s (own_cft_Q Z fm h0 n0) 0 0 s₁ (entryFrame m #[(.int (0 : Int32)), (.int (1 : Int32)), (.int (1 : Int32)), fm] 4)
  rw [show entryFrame m #[(.int (0 : Int32)), (.int (1 : Int32)), (.int (1 : Int32)), fm] 4 = mkF m 0 #[.val (.int (0 : Int32)), .val (.int (1 : Int32)), .val (.int (1 : Int32)), .val fm] [] from by (rcases ref_cases hfm with rfl | ⟨_, rfl⟩) <;> first | (simp [entryFrame, mkF, argsToLocals, Value.category]; done) | rfl]
  refine own_st (T' := s₁) (g' := (mkF m 1 #[.val (.int (0 : Int32)), .val (.int (1 : Int32)), .val (.int (1 : Int32)), .val fm] [(.int (0 : Int32))])) (fun _ k => XS.iloadN X0.here hx rfl (hb hby d51_0) rfl k) ?_
  refine own_st (T' := s₁) (g' := (mkF m 4 #[.val (.int (0 : Int32)), .val (.int (1 : Int32)), .val (.int (1 : Int32)), .val fm] [])) (fun _ k => XS.ifNo X0.here hx rfl (hb hby d51_1) rfl (Jvm.Free.XT.i0_lt_f (by decide)) k) ?_
  refine own_st (T' := s₁) (g' := (mkF m 5 #[.val (.int (0 : Int32)), .val (.int (1 : Int32)), .val (.int (1 : Int32)), .val fm] [(.int (0 : Int32))])) (fun _ k => XS.iloadN X0.here hx rfl (hb hby d51_4) rfl k) ?_
  refine own_st (T' := s₁) (g' := (mkF m 6 #[.val (.int (0 : Int32)), .val (.int (1 : Int32)), .val (.int (1 : Int32)), .val fm] [(.int (1 : Int32)), (.int (0 : Int32))])) (fun _ k => XS.iloadN X0.here hx rfl (hb hby d51_5) rfl k) ?_
  refine own_st (T' := s₁) (g' := (mkF m 9 #[.val (.int (0 : Int32)), .val (.int (1 : Int32)), .val (.int (1 : Int32)), .val fm] [])) (fun _ k => XS.icmpNo X0.here hx rfl (hb hby d51_6) rfl (Jvm.Free.XT.ii_gt_f (by decide)) k) ?_
  refine own_st (T' := s₁) (g' := (mkF m 10 #[.val (.int (0 : Int32)), .val (.int (1 : Int32)), .val (.int (1 : Int32)), .val fm] [(.int (1 : Int32))])) (fun _ k => XS.iloadN X0.here hx rfl (hb hby d51_9) rfl k) ?_
  refine own_st (T' := s₁) (g' := (mkF m 11 #[.val (.int (0 : Int32)), .val (.int (1 : Int32)), .val (.int (1 : Int32)), .val fm] [(.int (1 : Int32)), (.int (1 : Int32))])) (fun _ k => XS.iloadN X0.here hx rfl (hb hby d51_10) rfl k) ?_
  refine own_st (T' := s₁) (g' := (mkF m 22 #[.val (.int (0 : Int32)), .val (.int (1 : Int32)), .val (.int (1 : Int32)), .val fm] [])) (fun _ k => XS.icmpYes X0.here hx rfl (pc0 := 11) (pc' := 22) rfl (hb hby d51_11) rfl (Jvm.Free.XT.ii_le_t (by decide)) (by decide) (by decide) k) ?_
  refine own_st (T' := s₁) (g' := (mkF m 23 #[.val (.int (0 : Int32)), .val (.int (1 : Int32)), .val (.int (1 : Int32)), .val fm] [(.int (0 : Int32))])) (fun _ k => XS.iloadN X0.here hx rfl (hb hby d51_22) rfl k) ?_
  exact own_retI X0 hx Bd.returns Bd.notSynchronized e0 (hb hby d51_23) ⟨rfl, N0, rfl⟩ (by decide) (by decide)
theorem own_pd13 : parseMethodDescriptor "(IIILjava/util/function/BiFunction;)I" = some ⟨[.int, .int, .int, (.object "java/util/function/BiFunction")], some .int⟩ := by decide +kernel
theorem d50_0 : decode jdk_42_method_158_code 0 = .ok (.iload_n 0, 1) := by decide +kernel
theorem d50_1 : decode jdk_42_method_158_code 1 = .ok (.iload_n 1, 1) := by decide +kernel
theorem d50_2 : decode jdk_42_method_158_code 2 = .ok (.iload_n 2, 1) := by decide +kernel
theorem d50_3 : decode jdk_42_method_158_code 3 = .ok (.getstatic 1053, 3) := by decide +kernel
theorem d50_6 : decode jdk_42_method_158_code 6 = .ok (.invokestatic 1062, 3) := by decide +kernel
theorem d50_9 : decode jdk_42_method_158_code 9 = .ok (.pop, 1) := by decide +kernel
theorem d50_10 : decode jdk_42_method_158_code 10 = .ok (.return_, 1) := by decide +kernel
def own_cbe_Q (Z : State) (fm : Value) (h0 : Heap) (n0 : Nat) (v : Option Value) (h : Heap) (L : List Loc) : Prop := v = none ∧ Fr n0 L ∧ h = h0
set_option maxRecDepth 65536 in
set_option maxHeartbeats 40000000 in
theorem own_cbe (l : Launch) (Z : State) (a0 : Array Value) (hw : ∀ d ∈ tables_1, d.before a0 Z = true) (ws : List Jvm.Cond) (fm : Value) (h0 : Heap) (n0 : Nat) (Z0 : n0 ≤ h0.size) (SF : Sta Z h0 "jdk/internal/util/Preconditions" "SIOOBE_FORMATTER" "Ljava/util/function/BiFunction;" fm) (hfm : fm.isRef = true) :
    MetFree l (⟨"java/lang/String", "checkBoundsBeginEnd", "(III)V"⟩ : MethodName) (head1 (Jvm.Cond.code (⟨"java/lang/String", "checkBoundsBeginEnd", "(III)V"⟩ : MethodName) jdk_42_method_158_code 3 none :: ws) ({ frames := 1, cells := 0, slots := 0, locals := 15 } : Room)) (fun aa U0 => aa = #[(.int (0 : Int32)), (.int (1 : Int32)), (.int (1 : Int32))] ∧ Z.Warmed39 U0.vm ∧ U0.heap = h0) (fun _ _ _ _ _ => True) (fun _ U0 o0 U1 => ∃ v0 L0, o0 = .returned v0 ∧ own_cbe_Q Z fm h0 n0 v0 U1.heap L0 ∧ FrameEnd U0 o0 U1 L0 ({ frames := 1, cells := 0, slots := 0, locals := 15 } : Room).cells ({ frames := 1, cells := 0, slots := 0, locals := 15 } : Room).slots) := by
  refine MetFree.of_bodySF (plainFor_of_name own_pn1) hisR ?_
  intro p e s m args below meth c s₁ Bd hml0 hP hK
  obtain ⟨rfl, hZ, hh⟩ := hP
  have hx := Bd.exec
  have hby := Bd.bytes
  have hml : c.maxLocals = 3 := hml0
  have hown : s.vm.findClass "java/lang/String" = some m.cls := findClass_of_methodNamed Bd.named
  have hnm := (name_of_methodNamed Bd.named Bd.method).1
  have X0 : Stand p l e ({ frames := 1, cells := 0, slots := 0, locals := 15 } : Room) s m #[(.int (0 : Int32)), (.int (1 : Int32)), (.int (1 : Int32))] below meth c s₁ [] 0 0 := Stand.of_body Bd
  have e0 : s₁.heap = h0 := by rw [← hh, Bd.state]; rfl
  have N0 := Fr.nil n0
  show own_Go p e below s (own_cbe_Q Z fm h0 n0) 0 0 s₁ (entryFrame m #[(.int (0 : Int32)), (.int (1 : Int32)), (.int (1 : Int32))] 3)
  rw [show entryFrame m #[(.int (0 : Int32)), (.int (1 : Int32)), (.int (1 : Int32))] 3 = mkF m 0 #[.val (.int (0 : Int32)), .val (.int (1 : Int32)), .val (.int (1 : Int32))] [] from by first | (simp [entryFrame, mkF, argsToLocals, Value.category]; done) | rfl]
  refine own_st (T' := s₁) (g' := (mkF m 1 #[.val (.int (0 : Int32)), .val (.int (1 : Int32)), .val (.int (1 : Int32))] [(.int (0 : Int32))])) (fun _ k => XS.iloadN X0.here hx rfl (hb hby d50_0) rfl k) ?_
  refine own_st (T' := s₁) (g' := (mkF m 2 #[.val (.int (0 : Int32)), .val (.int (1 : Int32)), .val (.int (1 : Int32))] [(.int (1 : Int32)), (.int (0 : Int32))])) (fun _ k => XS.iloadN X0.here hx rfl (hb hby d50_1) rfl k) ?_
  refine own_st (T' := s₁) (g' := (mkF m 3 #[.val (.int (0 : Int32)), .val (.int (1 : Int32)), .val (.int (1 : Int32))] [(.int (1 : Int32)), (.int (1 : Int32)), (.int (0 : Int32))])) (fun _ k => XS.iloadN X0.here hx rfl (hb hby d50_2) rfl k) ?_
  obtain ⟨T45, X45, e45, st45⟩ := getS2 X0 hx hZ hown (host := "") (Or.inl (hw _ (List.mem_of_getElem? (i := 122) rfl))) Via.refl e0 SF (g := (mkF m 3 #[.val (.int (0 : Int32)), .val (.int (1 : Int32)), .val (.int (1 : Int32))] [(.int (1 : Int32)), (.int (1 : Int32)), (.int (0 : Int32))])) rfl (hb hby d50_3)
  refine own_st (T' := T45) (g' := (mkF m 6 #[.val (.int (0 : Int32)), .val (.int (1 : Int32)), .val (.int (1 : Int32))] [fm, (.int (1 : Int32)), (.int (1 : Int32)), (.int (0 : Int32))])) st45 ?_
  obtain ⟨vq46, _, ⟨T46, L46, k46, n46⟩, -, X46, ⟨Lc46, hQ46, l46, y46, z46⟩, st46⟩ := Jvm.LawKit.callS X45 hx (y := (⟨"jdk/internal/util/Preconditions", "checkFromToIndex", "(IIILjava/util/function/BiFunction;)I"⟩ : MethodName)) hown (mvT hZ (hw _ (List.mem_of_getElem? (i := 286) rfl))) (mvT hZ (hw _ (List.mem_of_getElem? (i := 287) rfl))) (mvT hZ (hw _ (List.mem_of_getElem? (i := 123) rfl))) (mvT hZ (hw _ (List.mem_of_getElem? (i := 288) rfl))) (by decide) (backOf (W := 0) (own_cft l Z a0 hw [] fm h0 n0 Z0 hfm) hZ (hw _ (List.mem_of_getElem? (i := 288) rfl)) (hw _ (List.mem_of_getElem? (i := 123) rfl)) (by decide) (by decide)) (g := (mkF m 6 #[.val (.int (0 : Int32)), .val (.int (1 : Int32)), .val (.int (1 : Int32))] [fm, (.int (1 : Int32)), (.int (1 : Int32)), (.int (0 : Int32))])) rfl (by rw [hml]; rfl) (argsL := [(.int (0 : Int32)), (.int (1 : Int32)), (.int (1 : Int32)), fm]) (rest := []) (lenOf own_pd13 rfl) rfl (by show 2 * 0 + _ ≤ _; exact Nat.le_of_eq rfl) (hb hby d50_6) (fun _ _ => ⟨rfl, e45, (by decide : 0 + 0 ≤ _), (by decide : 0 + 0 ≤ _)⟩)
  dsimp only [Pt.U, Pt.locs, Pt.cells, Pt.slots] at X46 l46 y46 z46 st46 hQ46
  subst l46 y46 z46
  obtain ⟨rfl, N46q, e46⟩ := hQ46
  have N0' := Fr.app N0 N46q
  refine own_st (T' := T46) (g' := (mkF m 9 #[.val (.int (0 : Int32)), .val (.int (1 : Int32)), .val (.int (1 : Int32))] [(.int (0 : Int32))])) st46 ?_
  refine own_st (T' := T46) (g' := (mkF m 10 #[.val (.int (0 : Int32)), .val (.int (1 : Int32)), .val (.int (1 : Int32))] [])) (fun _ k => XS.pop X46.here hx rfl (hb hby d50_9) rfl rfl k) ?_
  exact own_ret0 X46 hx Bd.returns Bd.notSynchronized e46 (hb hby d50_10) ⟨rfl, N0', rfl⟩ (by decide) (by decide)
theorem own_pd14 : parseMethodDescriptor "()I" = some ⟨[], some .int⟩ := by decide +kernel
theorem own_pd15 : parseMethodDescriptor "(III)V" = some ⟨[.int, .int, .int], none⟩ := by decide +kernel
theorem d49_0 : decode jdk_42_method_92_code 0 = .ok (.aload_n 0, 1) := by decide +kernel
theorem d49_1 : decode jdk_42_method_92_code 1 = .ok (.invokevirtual 505, 3) := by decide +kernel
theorem d49_4 : decode jdk_42_method_92_code 4 = .ok (.istore_n 3, 1) := by decide +kernel
theorem d49_5 : decode jdk_42_method_92_code 5 = .ok (.iload_n 1, 1) := by decide +kernel
theorem d49_6 : decode jdk_42_method_92_code 6 = .ok (.iload_n 2, 1) := by decide +kernel
theorem d49_7 : decode jdk_42_method_92_code 7 = .ok (.iload_n 3, 1) := by decide +kernel
theorem d49_8 : decode jdk_42_method_92_code 8 = .ok (.invokestatic 521, 3) := by decide +kernel
theorem d49_11 : decode jdk_42_method_92_code 11 = .ok (.iload_n 1, 1) := by decide +kernel
theorem d49_12 : decode jdk_42_method_92_code 12 = .ok (.ifCond .ne 10, 3) := by decide +kernel
theorem d49_15 : decode jdk_42_method_92_code 15 = .ok (.iload_n 2, 1) := by decide +kernel
theorem d49_16 : decode jdk_42_method_92_code 16 = .ok (.iload_n 3, 1) := by decide +kernel
theorem d49_17 : decode jdk_42_method_92_code 17 = .ok (.if_icmp .ne 5, 3) := by decide +kernel
theorem d49_20 : decode jdk_42_method_92_code 20 = .ok (.aload_n 0, 1) := by decide +kernel
theorem d49_21 : decode jdk_42_method_92_code 21 = .ok (.areturn, 1) := by decide +kernel
def own_sub_Q (Z : State) (a : Addr) (t : Addr) (kt : ClassId) (x : Int32) (cc : Int32) (fm : Value) (h0 : Heap) (n0 : Nat) (v : Option Value) (h : Heap) (L : List Loc) : Prop := v = some (.ref a) ∧ Fr n0 L ∧ h = h0
set_option maxRecDepth 65536 in
set_option maxHeartbeats 40000000 in
theorem own_sub (l : Launch) (Z : State) (a0 : Array Value) (hw : ∀ d ∈ tables_1, d.before a0 Z = true) (ws : List Jvm.Cond) (a : Addr) (t : Addr) (kt : ClassId) (x : Int32) (cc : Int32) (fm : Value) (h0 : Heap) (n0 : Nat) (Z0 : n0 ≤ h0.size) (Ea : Exa Z h0 a "java/lang/String") (Fv : Fld Z h0 a "java/lang/String" "value" "[B" (.ref t)) (Fc : Fld Z h0 a "java/lang/String" "coder" "B" (.int (0 : Int32))) (Vt : own_Av Z h0 t kt .byte 1 (fun _ => .int x)) (SC : Sta Z h0 "java/lang/String" "COMPACT_STRINGS" "Z" (.int cc)) (hcs : ¬ cc = (0 : Int32)) (SF : Sta Z h0 "jdk/internal/util/Preconditions" "SIOOBE_FORMATTER" "Ljava/util/function/BiFunction;" fm) (hfm : fm.isRef = true) :
    MetFree l (⟨"java/lang/String", "substring", "(II)Ljava/lang/String;"⟩ : MethodName) (head1 (Jvm.Cond.code (⟨"java/lang/String", "substring", "(II)Ljava/lang/String;"⟩ : MethodName) jdk_42_method_92_code 5 (some (.object "java/lang/String")) :: ws) ({ frames := 2, cells := 0, slots := 0, locals := 29 } : Room)) (fun aa U0 => aa = #[(.ref a), (.int (0 : Int32)), (.int (1 : Int32))] ∧ Z.Warmed39 U0.vm ∧ U0.heap = h0) (fun _ _ _ _ _ => True) (fun _ U0 o0 U1 => ∃ v0 L0, o0 = .returned v0 ∧ own_sub_Q Z a t kt x cc fm h0 n0 v0 U1.heap L0 ∧ FrameEnd U0 o0 U1 L0 ({ frames := 2, cells := 0, slots := 0, locals := 29 } : Room).cells ({ frames := 2, cells := 0, slots := 0, locals := 29 } : Room).slots) := by
  refine MetFree.of_bodySF (plainFor_of_name own_pn1) hisR ?_
  intro p e s m args below meth c s₁ Bd hml0 hP hK
  obtain ⟨rfl, hZ, hh⟩ := hP
  have hx := Bd.exec
  have hby := Bd.bytes
  have hml : c.maxLocals = 5 := hml0
  have hown : s.vm.findClass "java/lang/String" = some m.cls := findClass_of_methodNamed Bd.named
  have hnm := (name_of_methodNamed Bd.named Bd.method).1
  have X0 : Stand p l e ({ frames := 2, cells := 0, slots := 0, locals := 29 } : Room) s m #[(.ref a), (.int (0 : Int32)), (.int (1 : Int32))] below meth c s₁ [] 0 0 := Stand.of_body Bd
  have e0 : s₁.heap = h0 := by rw [← hh, Bd.state]; rfl
  have N0 := Fr.nil n0
  show own_Go p e below s (own_sub_Q Z a t kt x cc fm h0 n0) 0 0 s₁ (entryFrame m #[(.ref a), (.int (0 : Int32)), (.int (1 : Int32))] 5)
  rw [show entryFrame m #[(.ref a), (.int (0 : Int32)), (.int (1 : Int32))] 5 = mkF m 0 #[.val (.ref a), .val (.int (0 : Int32)), .val (.int (1 : Int32)), .unset, .unset] [] from by first | (simp [entryFrame, mkF, argsToLocals, Value.category]; done) | rfl]
  refine own_st (T' := s₁) (g' := (mkF m 1 #[.val (.ref a), .val (.int (0 : Int32)), .val (.int (1 : Int32)), .unset, .unset] [(.ref a)])) (fun _ k => XS.aloadN X0.here hx rfl (hb hby d49_0) rfl rfl k) ?_
  obtain ⟨cq47, kq47, q47a, q47b, q47c⟩ := isOf hZ e0 Ea
  obtain ⟨vq47, _, ⟨T47, L47, k47, n47⟩, -, X47, ⟨Lc47, hQ47, l47, y47, z47⟩, st47⟩ := X0.virtualBack hx (y := (⟨"java/lang/String", "length", "()I"⟩ : MethodName)) (z := (⟨"java/lang/String", "length", "()I"⟩ : MethodName)) hown (mvT hZ (hw _ (List.mem_of_getElem? (i := 282) rfl))) (mvT hZ (hw _ (List.mem_of_getElem? (i := 97) rfl))) (notFace_of_selects (args := #[]) (mvT hZ (hw _ (List.mem_of_getElem? (i := 99) rfl)))) (mvT hZ (hw _ (List.mem_of_getElem? (i := 99) rfl))) (mvT hZ (hw _ (List.mem_of_getElem? (i := 98) rfl))) (by decide) (backOf (W := 0) (own_len1 l Z a0 hw [] a t kt x cc h0 n0 Z0 Ea Fv Fc Vt SC hcs) hZ (hw _ (List.mem_of_getElem? (i := 100) rfl)) (hw _ (List.mem_of_getElem? (i := 1) rfl)) (by decide) (by decide)) q47a q47c (g := (mkF m 1 #[.val (.ref a), .val (.int (0 : Int32)), .val (.int (1 : Int32)), .unset, .unset] [(.ref a)])) rfl (by rw [hml]; rfl) (Steps.refl _) (argsL := []) (rest := []) (lenOf own_pd14 rfl) rfl (by show 2 * 0 + _ ≤ _; exact Nat.le_of_eq rfl) (hb hby d49_1) (fun _ _ => ⟨rfl, e0, (by decide : 0 + 0 ≤ _), (by decide : 0 + 0 ≤ _)⟩)
  dsimp only [Pt.U, Pt.locs, Pt.cells, Pt.slots] at X47 l47 y47 z47 st47 hQ47
  subst l47 y47 z47
  obtain ⟨rfl, N47q, e47⟩ := hQ47
  have N0' := Fr.app N0 N47q
  refine own_tr (T' := T47) (g' := (mkF m 4 #[.val (.ref a), .val (.int (0 : Int32)), .val (.int (1 : Int32)), .unset, .unset] [(.int (1 : Int32))])) st47 ?_
  refine own_st (T' := T47) (g' := (mkF m 5 #[.val (.ref a), .val (.int (0 : Int32)), .val (.int (1 : Int32)), .val (.int (1 : Int32)), .unset] [])) (fun _ k => XS.istoreN X47.here hx rfl (hb hby d49_4) rfl (l' := #[.val (.ref a), .val (.int (0 : Int32)), .val (.int (1 : Int32)), .val (.int (1 : Int32)), .unset]) rfl k) ?_
  refine own_st (T' := T47) (g' := (mkF m 6 #[.val (.ref a), .val (.int (0 : Int32)), .val (.int (1 : Int32)), .val (.int (1 : Int32)), .unset] [(.int (0 : Int32))])) (fun _ k => XS.iloadN X47.here hx rfl (hb hby d49_5) rfl k) ?_
  refine own_st (T' := T47) (g' := (mkF m 7 #[.val (.ref a), .val (.int (0 : Int32)), .val (.int (1 : Int32)), .val (.int (1 : Int32)), .unset] [(.int (1 : Int32)), (.int (0 : Int32))])) (fun _ k => XS.iloadN X47.here hx rfl (hb hby d49_6) rfl k) ?_
  refine own_st (T' := T47) (g' := (mkF m 8 #[.val (.ref a), .val (.int (0 : Int32)), .val (.int (1 : Int32)), .val (.int (1 : Int32)), .unset] [(.int (1 : Int32)), (.int (1 : Int32)), (.int (0 : Int32))])) (fun _ k => XS.iloadN X47.here hx rfl (hb hby d49_7) rfl k) ?_
  obtain ⟨vq48, _, ⟨T48, L48, k48, n48⟩, -, X48, ⟨Lc48, hQ48, l48, y48, z48⟩, st48⟩ := Jvm.LawKit.callS X47 hx (y := (⟨"java/lang/String", "checkBoundsBeginEnd", "(III)V"⟩ : MethodName)) hown (mvT hZ (hw _ (List.mem_of_getElem? (i := 283) rfl))) (mvT hZ (hw _ (List.mem_of_getElem? (i := 284) rfl))) (mvT hZ (hw _ (List.mem_of_getElem? (i := 1) rfl))) (mvT hZ (hw _ (List.mem_of_getElem? (i := 285) rfl))) (by decide) (backOf (W := 0) (own_cbe l Z a0 hw [] fm h0 n0 Z0 SF hfm) hZ (hw _ (List.mem_of_getElem? (i := 285) rfl)) (hw _ (List.mem_of_getElem? (i := 1) rfl)) (by decide) (by decide)) (g := (mkF m 8 #[.val (.ref a), .val (.int (0 : Int32)), .val (.int (1 : Int32)), .val (.int (1 : Int32)), .unset] [(.int (1 : Int32)), (.int (1 : Int32)), (.int (0 : Int32))])) rfl (by rw [hml]; rfl) (argsL := [(.int (0 : Int32)), (.int (1 : Int32)), (.int (1 : Int32))]) (rest := []) (lenOf own_pd15 rfl) rfl (by show 2 * 0 + _ ≤ _; exact Nat.le_of_eq rfl) (hb hby d49_8) (fun _ _ => ⟨rfl, e47, (by decide : (0 + 0) + 0 ≤ _), (by decide : (0 + 0) + 0 ≤ _)⟩)
  dsimp only [Pt.U, Pt.locs, Pt.cells, Pt.slots] at X48 l48 y48 z48 st48 hQ48
  subst l48 y48 z48
  obtain ⟨rfl, N48q, e48⟩ := hQ48
  have N0'' := Fr.app N0' N48q
  refine own_st (T' := T48) (g' := (mkF m 11 #[.val (.ref a), .val (.int (0 : Int32)), .val (.int (1 : Int32)), .val (.int (1 : Int32)), .unset] [])) st48 ?_
  refine own_st (T' := T48) (g' := (mkF m 12 #[.val (.ref a), .val (.int (0 : Int32)), .val (.int (1 : Int32)), .val (.int (1 : Int32)), .unset] [(.int (0 : Int32))])) (fun _ k => XS.iloadN X48.here hx rfl (hb hby d49_11) rfl k) ?_
  refine own_st (T' := T48) (g' := (mkF m 15 #[.val (.ref a), .val (.int (0 : Int32)), .val (.int (1 : Int32)), .val (.int (1 : Int32)), .unset] [])) (fun _ k => XS.ifNo X48.here hx rfl (hb hby d49_12) rfl (Jvm.Free.XT.i0_ne_f rfl) k) ?_
  refine own_st (T' := T48) (g' := (mkF m 16 #[.val (.ref a), .val (.int (0 : Int32)), .val (.int (1 : Int32)), .val (.int (1 : Int32)), .unset] [(.int (1 : Int32))])) (fun _ k => XS.iloadN X48.here hx rfl (hb hby d49_15) rfl k) ?_
  refine own_st (T' := T48) (g' := (mkF m 17 #[.val (.ref a), .val (.int (0 : Int32)), .val (.int (1 : Int32)), .val (.int (1 : Int32)), .unset] [(.int (1 : Int32)), (.int (1 : Int32))])) (fun _ k => XS.iloadN X48.here hx rfl (hb hby d49_16) rfl k) ?_
  refine own_st (T' := T48) (g' := (mkF m 20 #[.val (.ref a), .val (.int (0 : Int32)), .val (.int (1 : Int32)), .val (.int (1 : Int32)), .unset] [])) (fun _ k => XS.icmpNo X48.here hx rfl (hb hby d49_17) rfl (Jvm.Free.XT.ii_ne_f rfl) k) ?_
  refine own_st (T' := T48) (g' := (mkF m 21 #[.val (.ref a), .val (.int (0 : Int32)), .val (.int (1 : Int32)), .val (.int (1 : Int32)), .unset] [(.ref a)])) (fun _ k => XS.aloadN X48.here hx rfl (hb hby d49_20) rfl rfl k) ?_
  exact own_retR X48 hx Bd.returns Bd.notSynchronized e48 rfl rfl (hb hby d49_21) ⟨rfl, N0'', rfl⟩ (by decide) (by decide)
theorem d2_0 : decode jdk_30_method_1_code 0 = .ok (.aload_n 0, 1) := by decide +kernel
theorem d2_1 : decode jdk_30_method_1_code 1 = .ok (.invokespecial 1, 3) := by decide +kernel
theorem d2_4 : decode jdk_30_method_1_code 4 = .ok (.return_, 1) := by decide +kernel
theorem own_pn6 : plainName "java/lang/Record" = true := by first | (simp [plainName, overriddenIn]; done) | decide +kernel
def own_rec_Q (Z : State) (a : Addr) (h0 : Heap) (n0 : Nat) (v : Option Value) (h : Heap) (L : List Loc) : Prop := v = none ∧ Fr n0 L ∧ h = h0
set_option maxRecDepth 65536 in
set_option maxHeartbeats 40000000 in
theorem own_rec (l : Launch) (Z : State) (a0 : Array Value) (hw : ∀ d ∈ tables_1, d.before a0 Z = true) (ws : List Jvm.Cond) (a : Addr) (h0 : Heap) (n0 : Nat) (Z0 : n0 ≤ h0.size) :
    MetFree l (⟨"java/lang/Record", "<init>", "()V"⟩ : MethodName) (head1 (Jvm.Cond.code (⟨"java/lang/Record", "<init>", "()V"⟩ : MethodName) jdk_30_method_1_code 1 none :: ws) ({ frames := 1, cells := 0, slots := 0, locals := 12 } : Room)) (fun aa U0 => aa = #[(.ref a)] ∧ Z.Warmed39 U0.vm ∧ U0.heap = h0) (fun _ _ _ _ _ => True) (fun _ U0 o0 U1 => ∃ v0 L0, o0 = .returned v0 ∧ own_rec_Q Z a h0 n0 v0 U1.heap L0 ∧ FrameEnd U0 o0 U1 L0 ({ frames := 1, cells := 0, slots := 0, locals := 12 } : Room).cells ({ frames := 1, cells := 0, slots := 0, locals := 12 } : Room).slots) := by
  refine MetFree.of_bodySF (plainFor_of_name own_pn6) hisR ?_
  intro p e s m args below meth c s₁ Bd hml0 hP hK
  obtain ⟨rfl, hZ, hh⟩ := hP
  have hx := Bd.exec
  have hby := Bd.bytes
  have hml : c.maxLocals = 1 := hml0
  have hown : s.vm.findClass "java/lang/Record" = some m.cls := findClass_of_methodNamed Bd.named
  have hnm := (name_of_methodNamed Bd.named Bd.method).1
  have X0 : Stand p l e ({ frames := 1, cells := 0, slots := 0, locals := 12 } : Room) s m #[(.ref a)] below meth c s₁ [] 0 0 := Stand.of_body Bd
  have e0 : s₁.heap = h0 := by rw [← hh, Bd.state]; rfl
  have N0 := Fr.nil n0
  show own_Go p e below s (own_rec_Q Z a h0 n0) 0 0 s₁ (entryFrame m #[(.ref a)] 1)
  rw [show entryFrame m #[(.ref a)] 1 = mkF m 0 #[.val (.ref a)] [] from by first | (simp [entryFrame, mkF, argsToLocals, Value.category]; done) | rfl]
  refine own_st (T' := s₁) (g' := (mkF m 1 #[.val (.ref a)] [(.ref a)])) (fun _ k => XS.aloadN X0.here hx rfl (hb hby d2_0) rfl rfl k) ?_
  obtain ⟨T49, X49, e49, st49⟩ := initO X0 hx hZ hown (hw _ (List.mem_of_getElem? (i := 19) rfl)) (hw _ (List.mem_of_getElem? (i := 20) rfl)) (hw _ (List.mem_of_getElem? (i := 21) rfl)) e0 (g := (mkF m 1 #[.val (.ref a)] [(.ref a)])) rfl (by rw [hml]; rfl) rfl (hb hby d2_1) (by decide) (W := 0) (by show 2 * 0 + _ ≤ _; exact Nat.le_of_eq rfl) (by decide)
  refine own_st (T' := T49) (g' := (mkF m 4 #[.val (.ref a)] [])) st49 ?_
  exact own_ret0 X49 hx Bd.returns Bd.notSynchronized e49 (hb hby d2_4) ⟨rfl, N0, rfl⟩ (by decide) (by decide)
theorem d1_0 : decode prog_79_method_1_code 0 = .ok (.aload_n 0, 1) := by decide +kernel
theorem d1_1 : decode prog_79_method_1_code 1 = .ok (.invokespecial 1, 3) := by decide +kernel
theorem d1_4 : decode prog_79_method_1_code 4 = .ok (.aload_n 0, 1) := by decide +kernel
theorem d1_5 : decode prog_79_method_1_code 5 = .ok (.iload_n 1, 1) := by decide +kernel
theorem d1_6 : decode prog_79_method_1_code 6 = .ok (.putfield 7, 3) := by decide +kernel
theorem d1_9 : decode prog_79_method_1_code 9 = .ok (.aload_n 0, 1) := by decide +kernel
theorem d1_10 : decode prog_79_method_1_code 10 = .ok (.aload_n 2, 1) := by decide +kernel
theorem d1_11 : decode prog_79_method_1_code 11 = .ok (.putfield 13, 3) := by decide +kernel
theorem d1_14 : decode prog_79_method_1_code 14 = .ok (.return_, 1) := by decide +kernel
theorem own_pn7 : plainName "com/example/idiolect/idiolect/internal/datetime/DateTimePatterns$Token" = true := by first | (simp [plainName, overriddenIn]; done) | decide +kernel
def own_ti_Q (Z : State) (a : Addr) (ch : Int32) (r : Value) (h0 : Heap) (n0 : Nat) (v : Option Value) (h : Heap) (L : List Loc) : Prop := v = none ∧ Fr n0 L ∧ Keep h0 h [a] ∧ Exa Z h a "com/example/idiolect/idiolect/internal/datetime/DateTimePatterns$Token" ∧ Fld Z h a "com/example/idiolect/idiolect/internal/datetime/DateTimePatterns$Token" "letter" "C" (.int (nar .char ch))
set_option maxRecDepth 65536 in
set_option maxHeartbeats 40000000 in
theorem own_ti (l : Launch) (Z : State) (a0 : Array Value) (hw : ∀ d ∈ tables_1, d.before a0 Z = true) (ws : List Jvm.Cond) (a : Addr) (ch : Int32) (r : Value) (h0 : Heap) (n0 : Nat) (Z0 : n0 ≤ h0.size) (hr : r.isRef = true) (Fl : Fld Z h0 a "com/example/idiolect/idiolect/internal/datetime/DateTimePatterns$Token" "letter" "C" (.int (0 : Int32))) (Ft : Fld Z h0 a "com/example/idiolect/idiolect/internal/datetime/DateTimePatterns$Token" "text" "Ljava/lang/String;" .null) (Ea : Exa Z h0 a "com/example/idiolect/idiolect/internal/datetime/DateTimePatterns$Token") (ga : n0 ≤ a) :
    MetFree l (⟨"com/example/idiolect/idiolect/internal/datetime/DateTimePatterns$Token", "<init>", "(CLjava/lang/String;)V"⟩ : MethodName) (head1 (Jvm.Cond.code (⟨"com/example/idiolect/idiolect/internal/datetime/DateTimePatterns$Token", "<init>", "(CLjava/lang/String;)V"⟩ : MethodName) prog_79_method_1_code 3 none :: ws) ({ frames := 2, cells := 0, slots := 0, locals := 24 } : Room)) (fun aa U0 => aa = #[(.ref a), (.int ch), r] ∧ Z.Warmed39 U0.vm ∧ U0.heap = h0) (fun _ _ _ _ _ => True) (fun _ U0 o0 U1 => ∃ v0 L0, o0 = .returned v0 ∧ own_ti_Q Z a ch r h0 n0 v0 U1.heap L0 ∧ FrameEnd U0 o0 U1 L0 ({ frames := 2, cells := 0, slots := 0, locals := 24 } : Room).cells ({ frames := 2, cells := 0, slots := 0, locals := 24 } : Room).slots) := by
  refine MetFree.of_bodySF (plainFor_of_name own_pn7) hisR ?_
  intro p e s m args below meth c s₁ Bd hml0 hP hK
  obtain ⟨rfl, hZ, hh⟩ := hP
  have hx := Bd.exec
  have hby := Bd.bytes
  have hml : c.maxLocals = 3 := hml0
  have hown : s.vm.findClass "com/example/idiolect/idiolect/internal/datetime/DateTimePatterns$Token" = some m.cls := findClass_of_methodNamed Bd.named
  have hnm := (name_of_methodNamed Bd.named Bd.method).1
  have X0 : Stand p l e ({ frames := 2, cells := 0, slots := 0, locals := 24 } : Room) s m #[(.ref a), (.int ch), r] below meth c s₁ [] 0 0 := Stand.of_body Bd
  have e0 : s₁.heap = h0 := by rw [← hh, Bd.state]; rfl
  have N0 := Fr.nil n0
  show own_Go p e below s (own_ti_Q Z a ch r h0 n0) 0 0 s₁ (entryFrame m #[(.ref a), (.int ch), r] 3)
  rw [show entryFrame m #[(.ref a), (.int ch), r] 3 = mkF m 0 #[.val (.ref a), .val (.int ch), .val r] [] from by (rcases ref_cases hr with rfl | ⟨_, rfl⟩) <;> first | (simp [entryFrame, mkF, argsToLocals, Value.category]; done) | rfl]
  have Kp := Keep.refl h0 [a]
  refine own_st (T' := s₁) (g' := (mkF m 1 #[.val (.ref a), .val (.int ch), .val r] [(.ref a)])) (fun _ k => XS.aloadN X0.here hx rfl (hb hby d1_0) rfl rfl k) ?_
  obtain ⟨vq50, _, ⟨T50, L50, k50, n50⟩, -, X50, ⟨Lc50, hQ50, l50, y50, z50⟩, st50⟩ := X0.specialBack hx (y := (⟨"java/lang/Record", "<init>", "()V"⟩ : MethodName)) rfl hown (mvT hZ (hw _ (List.mem_of_getElem? (i := 14) rfl))) (mvT hZ (hw _ (List.mem_of_getElem? (i := 15) rfl))) (mvT hZ (hw _ (List.mem_of_getElem? (i := 18) rfl))) (by decide) (backOf (W := 0) (own_rec l Z a0 hw [] a h0 n0 Z0 ) hZ (hw _ (List.mem_of_getElem? (i := 18) rfl)) (hw _ (List.mem_of_getElem? (i := 17) rfl)) (by decide) (by decide)) (g := (mkF m 1 #[.val (.ref a), .val (.int ch), .val r] [(.ref a)])) rfl (by rw [hml]; rfl) (Steps.refl _) (a := a) (argsL := []) (rest := []) (lenOf own_pd3 rfl) rfl (by show 2 * 0 + _ ≤ _; exact Nat.le_of_eq rfl) (hb hby d1_1) (fun _ _ => ⟨rfl, e0, (by decide : 0 + 0 ≤ _), (by decide : 0 + 0 ≤ _)⟩)
  dsimp only [Pt.U, Pt.locs, Pt.cells, Pt.slots] at X50 l50 y50 z50 st50 hQ50
  subst l50 y50 z50
  obtain ⟨rfl, N50q, e50⟩ := hQ50
  have N0' := Fr.app N0 N50q
  refine own_tr (T' := T50) (g' := (mkF m 4 #[.val (.ref a), .val (.int ch), .val r] [])) st50 ?_
  refine own_st (T' := T50) (g' := (mkF m 5 #[.val (.ref a), .val (.int ch), .val r] [(.ref a)])) (fun _ k => XS.aloadN X50.here hx rfl (hb hby d1_4) rfl rfl k) ?_
  refine own_st (T' := T50) (g' := (mkF m 6 #[.val (.ref a), .val (.int ch), .val r] [(.int ch), (.ref a)])) (fun _ k => XS.iloadN X50.here hx rfl (hb hby d1_5) rfl k) ?_
  obtain ⟨T51, h51, X51, e51, W51, st51⟩ := putFN X50 hx hZ hown (hw _ (List.mem_of_getElem? (i := 22) rfl)) Via.refl e50 Fl Ea (Or.inr ⟨(hw _ (List.mem_of_getElem? (i := 23) rfl)), rfl, hnm⟩) (hw _ (List.mem_of_getElem? (i := 9) rfl)) (ty := .char) (v' := (.int (nar .char ch))) (by decide) rfl (fits_nar_char _) (g := (mkF m 6 #[.val (.ref a), .val (.int ch), .val r] [(.int ch), (.ref a)])) rfl rfl (hb hby d1_6)
  have Ft := Ft.other W51 (Or.inr (slot_ne (Or.inr (hw _ (List.mem_of_getElem? (i := 25) rfl))) (Or.inr (hw _ (List.mem_of_getElem? (i := 23) rfl))) (by decide) (t := (.object "java/lang/String")) (t' := .char) (by decide) (by decide)))
  have Ea := Ea.wr W51
  have Z0' := Nat.le_trans Z0 (Keep.of_wr W51).1
  have Kp := Kp.wr W51 (Or.inl (List.mem_of_getElem? (i := 0) rfl))
  have N0'' := Fr.snoc X51 N0' ga
  have Fl := Fl.same W51
  refine own_st (T' := T51) (g' := (mkF m 9 #[.val (.ref a), .val (.int ch), .val r] [])) st51 ?_
  refine own_st (T' := T51) (g' := (mkF m 10 #[.val (.ref a), .val (.int ch), .val r] [(.ref a)])) (fun _ k => XS.aloadN X51.here hx rfl (hb hby d1_9) rfl rfl k) ?_
  refine own_st (T' := T51) (g' := (mkF m 11 #[.val (.ref a), .val (.int ch), .val r] [r, (.ref a)])) (fun _ k => XS.aloadN X51.here hx rfl (hb hby d1_10) rfl hr k) ?_
  obtain ⟨T52, h52, X52, e52, W52, st52⟩ := putF X51 hx hZ hown (host := "") (Or.inl (hw _ (List.mem_of_getElem? (i := 24) rfl))) Via.refl e51 Ft Ea (Or.inr ⟨(hw _ (List.mem_of_getElem? (i := 25) rfl)), rfl, hnm⟩) (hw _ (List.mem_of_getElem? (i := 9) rfl)) (ty := (.object "java/lang/String")) (by decide) (own_nref rfl hr) (own_fref rfl hr) (g := (mkF m 11 #[.val (.ref a), .val (.int ch), .val r] [r, (.ref a)])) rfl rfl (hb hby d1_11)
  have Fl := Fl.other W52 (Or.inr (slot_ne (Or.inr (hw _ (List.mem_of_getElem? (i := 23) rfl))) (Or.inr (hw _ (List.mem_of_getElem? (i := 25) rfl))) (by decide) (t := .char) (t' := (.object "java/lang/String")) (by decide) (by decide)))
  have Ea := Ea.wr W52
  have Z0'' := Nat.le_trans Z0' (Keep.of_wr W52).1
  have Kp := Kp.wr W52 (Or.inl (List.mem_of_getElem? (i := 0) rfl))
  have N0''' := Fr.snoc X52 N0'' ga
  have Ft := Ft.same W52
  refine own_st (T' := T52) (g' := (mkF m 14 #[.val (.ref a), .val (.int ch), .val r] [])) st52 ?_
  exact own_ret0 X52 hx Bd.returns Bd.notSynchronized e52 (hb hby d1_14) ⟨rfl, N0''', Kp, Ea, Fl⟩ (by decide) (by decide)
theorem d4_0 : decode prog_79_method_4_code 0 = .ok (.aload_n 0, 1) := by decide +kernel
theorem d4_1 : decode prog_79_method_4_code 1 = .ok (.getfield 7, 3) := by decide +kernel
theorem d4_4 : decode prog_79_method_4_code 4 = .ok (.ifCond .eq 7, 3) := by decide +kernel
theorem d4_7 : decode prog_79_method_4_code 7 = .ok (.iconst 1, 1) := by decide +kernel
theorem d4_8 : decode prog_79_method_4_code 8 = .ok (.goto 4, 3) := by decide +kernel
theorem d4_11 : decode prog_79_method_4_code 11 = .ok (.iconst 0, 1) := by decide +kernel
theorem d4_12 : decode prog_79_method_4_code 12 = .ok (.ireturn, 1) := by decide +kernel
def own_isf_Q (Z : State) (a : Addr) (z : Int32) (h0 : Heap) (n0 : Nat) (v : Option Value) (h : Heap) (L : List Loc) : Prop := v = some (.int (if z = 0 then 0 else 1)) ∧ Fr n0 L ∧ h = h0
set_option maxRecDepth 65536 in
set_option maxHeartbeats 40000000 in
theorem own_isf (l : Launch) (Z : State) (a0 : Array Value) (hw : ∀ d ∈ tables_1, d.before a0 Z = true) (ws : List Jvm.Cond) (a : Addr) (z : Int32) (h0 : Heap) (n0 : Nat) (Z0 : n0 ≤ h0.size) (Fl : Fld Z h0 a "com/example/idiolect/idiolect/internal/datetime/DateTimePatterns$Token" "letter" "C" (.int z)) :
    MetFree l (⟨"com/example/idiolect/idiolect/internal/datetime/DateTimePatterns$Token", "isField", "()Z"⟩ : MethodName) (head1 (Jvm.Cond.code (⟨"com/example/idiolect/idiolect/internal/datetime/DateTimePatterns$Token", "isField", "()Z"⟩ : MethodName) prog_79_method_4_code 1 (some .boolean) :: ws) ({ frames := 0, cells := 0, slots := 0, locals := 0 } : Room)) (fun aa U0 => aa = #[(.ref a)] ∧ Z.Warmed39 U0.vm ∧ U0.heap = h0) (fun _ _ _ _ _ => True) (fun _ U0 o0 U1 => ∃ v0 L0, o0 = .returned v0 ∧ own_isf_Q Z a z h0 n0 v0 U1.heap L0 ∧ FrameEnd U0 o0 U1 L0 ({ frames := 0, cells := 0, slots := 0, locals := 0 } : Room).cells ({ frames := 0, cells := 0, slots := 0, locals := 0 } : Room).slots) := by
  refine MetFree.of_bodySF (plainFor_of_name own_pn7) hisR ?_
  intro p e s m args below meth c s₁ Bd hml0 hP hK
  obtain ⟨rfl, hZ, hh⟩ := hP
  have hx := Bd.exec
  have hby := Bd.bytes
  have hml : c.maxLocals = 1 := hml0
  have hown : s.vm.findClass "com/example/idiolect/idiolect/internal/datetime/DateTimePatterns$Token" = some m.cls := findClass_of_methodNamed Bd.named
  have hnm := (name_of_methodNamed Bd.named Bd.method).1
  have X0 : Stand p l e ({ frames := 0, cells := 0, slots := 0, locals := 0 } : Room) s m #[(.ref a)] below meth c s₁ [] 0 0 := Stand.of_body Bd
  have e0 : s₁.heap = h0 := by rw [← hh, Bd.state]; rfl
  have N0 := Fr.nil n0
  show own_Go p e below s (own_isf_Q Z a z h0 n0) 0 0 s₁ (entryFrame m #[(.ref a)] 1)
  rw [show entryFrame m #[(.ref a)] 1 = mkF m 0 #[.val (.ref a)] [] from by first | (simp [entryFrame, mkF, argsToLocals, Value.category]; done) | rfl]
  refine own_st (T' := s₁) (g' := (mkF m 1 #[.val (.ref a)] [(.ref a)])) (fun _ k => XS.aloadN X0.here hx rfl (hb hby d4_0) rfl rfl k) ?_
  obtain ⟨T53, X53, e53, st53⟩ := getF X0 hx hZ hown (host := "") (Or.inl (hw _ (List.mem_of_getElem? (i := 22) rfl))) Via.refl e0 Fl (g := (mkF m 1 #[.val (.ref a)] [(.ref a)])) rfl rfl (hb hby d4_1)
  refine own_st (T' := T53) (g' := (mkF m 4 #[.val (.ref a)] [(.int z)])) st53 ?_
  by_cases q1 : z = (0 : Int32)
  · refine own_st (T' := T53) (g' := (mkF m 11 #[.val (.ref a)] [])) (fun _ k => XS.ifYes X53.here hx rfl (pc0 := 4) (pc' := 11) rfl (hb hby d4_4) rfl (Jvm.Free.XT.i0_eq_t q1) (by decide) (by decide) k) ?_
    refine own_st (T' := T53) (g' := (mkF m 12 #[.val (.ref a)] [(.int (0 : Int32))])) (fun _ k => XS.iconst X53.here hx rfl (hb hby d4_11) k) ?_
    exact own_retN X53 hx Bd.returns Bd.notSynchronized e53 (by simp) (hb hby d4_12) ⟨by simp [q1, nar], N0, rfl⟩ (by decide) (by decide)
  · refine own_st (T' := T53) (g' := (mkF m 7 #[.val (.ref a)] [])) (fun _ k => XS.ifNo X53.here hx rfl (hb hby d4_4) rfl (Jvm.Free.XT.i0_eq_f q1) k) ?_
    refine own_st (T' := T53) (g' := (mkF m 8 #[.val (.ref a)] [(.int (1 : Int32))])) (fun _ k => XS.iconst X53.here hx rfl (hb hby d4_7) k) ?_
    refine own_st (T' := T53) (g' := (mkF m 12 #[.val (.ref a)] [(.int (1 : Int32))])) (fun _ k => XS.goto X53.here hx rfl (pc0 := 8) (pc' := 12) rfl (hb hby d4_8) (by decide) (by decide) k) ?_
    exact own_retN X53 hx Bd.returns Bd.notSynchronized e53 (by simp) (hb hby d4_12) ⟨by simp [q1, nar], N0, rfl⟩ (by decide) (by decide)
theorem own_pd16 : parseMethodDescriptor "(CLjava/lang/String;)V" = some ⟨[.char, (.object "java/lang/String")], none⟩ := by decide +kernel
theorem d37_0 : decode prog_79_method_3_code 0 = .ok (.new 8, 3) := by decide +kernel
theorem d37_3 : decode prog_79_method_3_code 3 = .ok (.dup, 1) := by decide +kernel
theorem d37_4 : decode prog_79_method_3_code 4 = .ok (.iconst 0, 1) := by decide +kernel
theorem d37_5 : decode prog_79_method_3_code 5 = .ok (.aload_n 0, 1) := by decide +kernel
theorem d37_6 : decode prog_79_method_3_code 6 = .ok (.invokespecial 23, 3) := by decide +kernel
theorem d37_9 : decode prog_79_method_3_code 9 = .ok (.areturn, 1) := by decide +kernel
def own_lit_Q (Z : State) (sa : Addr) (h0 : Heap) (n0 : Nat) (v : Option Value) (h : Heap) (L : List Loc) : Prop := ∃ x, v = some (.ref x) ∧ Fr n0 L ∧ Keep h0 h [] ∧ h0.size ≤ x ∧ Exa Z h x "com/example/idiolect/idiolect/internal/datetime/DateTimePatterns$Token" ∧ Fld Z h x "com/example/idiolect/idiolect/internal/datetime/DateTimePatterns$Token" "letter" "C" (.int (0 : Int32))
set_option maxRecDepth 65536 in
set_option maxHeartbeats 40000000 in
theorem own_lit (l : Launch) (Z : State) (a0 : Array Value) (hw : ∀ d ∈ tables_1, d.before a0 Z = true) (ws : List Jvm.Cond) (sa : Addr) (h0 : Heap) (n0 : Nat) (Z0 : n0 ≤ h0.size) :
    MetFree l (⟨"com/example/idiolect/idiolect/internal/datetime/DateTimePatterns$Token", "literal", "(Ljava/lang/String;)Lcom/example/idiolect/idiolect/internal/datetime/DateTimePatterns$Token;"⟩ : MethodName) (head1 (Jvm.Cond.code (⟨"com/example/idiolect/idiolect/internal/datetime/DateTimePatterns$Token", "literal", "(Ljava/lang/String;)Lcom/example/idiolect/idiolect/internal/datetime/DateTimePatterns$Token;"⟩ : MethodName) prog_79_method_3_code 1 (some (.object "com/example/idiolect/idiolect/internal/datetime/DateTimePatterns$Token")) :: ws) ({ frames := 3, cells := 1, slots := 2, locals := 39 } : Room)) (fun aa U0 => aa = #[(.ref sa)] ∧ Z.Warmed39 U0.vm ∧ U0.heap = h0) (fun _ _ _ _ _ => True) (fun _ U0 o0 U1 => ∃ v0 L0, o0 = .returned v0 ∧ own_lit_Q Z sa h0 n0 v0 U1.heap L0 ∧ FrameEnd U0 o0 U1 L0 ({ frames := 3, cells := 1, slots := 2, locals := 39 } : Room).cells ({ frames := 3, cells := 1, slots := 2, locals := 39 } : Room).slots) := by
  refine MetFree.of_bodySF (plainFor_of_name own_pn7) hisR ?_
  intro p e s m args below meth c s₁ Bd hml0 hP hK
  obtain ⟨rfl, hZ, hh⟩ := hP
  have hx := Bd.exec
  have hby := Bd.bytes
  have hml : c.maxLocals = 1 := hml0
  have hown : s.vm.findClass "com/example/idiolect/idiolect/internal/datetime/DateTimePatterns$Token" = some m.cls := findClass_of_methodNamed Bd.named
  have hnm := (name_of_methodNamed Bd.named Bd.method).1
  have X0 : Stand p l e ({ frames := 3, cells := 1, slots := 2, locals := 39 } : Room) s m #[(.ref sa)] below meth c s₁ [] 0 0 := Stand.of_body Bd
  have e0 : s₁.heap = h0 := by rw [← hh, Bd.state]; rfl
  have N0 := Fr.nil n0
  show own_Go p e below s (own_lit_Q Z sa h0 n0) 1 2 s₁ (entryFrame m #[(.ref sa)] 1)
  rw [show entryFrame m #[(.ref sa)] 1 = mkF m 0 #[.val (.ref sa)] [] from by first | (simp [entryFrame, mkF, argsToLocals, Value.category]; done) | rfl]
  have Kp := Keep.refl h0 []
  obtain ⟨T54, h54, X54, e54, E54, A54, D54, -, st54⟩ := newO X0 hx hZ hown (hw _ (List.mem_of_getElem? (i := 203) rfl)) (hw _ (List.mem_of_getElem? (i := 9) rfl)) (hw _ (List.mem_of_getElem? (i := 10) rfl)) e0 (g := (mkF m 0 #[.val (.ref sa)] [])) rfl (hb hby d37_0) (by decide) (by decide)
  obtain ⟨tk, gtk⟩ : ∃ z, z = h0.size := ⟨_, rfl⟩
  rw [← gtk] at A54 D54 st54
  have ge_tk : n0 ≤ tk := own_ge Z0 gtk
  have sz_tk : h0.size ≤ tk := own_ge Kp.1 gtk
  have Z0' := Nat.le_trans Z0 E54.1
  have Kp := Kp.ext E54
  have E_tk := A54
  have F_letter_tk : Fld Z h54 tk "com/example/idiolect/idiolect/internal/datetime/DateTimePatterns$Token" "letter" "C" (.int (0 : Int32)) := D54 (Or.inr (hw _ (List.mem_of_getElem? (i := 23) rfl))) (ty := .char) (by decide)
  have F_text_tk : Fld Z h54 tk "com/example/idiolect/idiolect/internal/datetime/DateTimePatterns$Token" "text" "Ljava/lang/String;" .null := D54 (Or.inr (hw _ (List.mem_of_getElem? (i := 25) rfl))) (ty := (.object "java/lang/String")) (by decide)
  refine own_st (T' := T54) (g' := (mkF m 3 #[.val (.ref sa)] [(.ref tk)])) st54 ?_
  refine own_st (T' := T54) (g' := (mkF m 4 #[.val (.ref sa)] [(.ref tk), (.ref tk)])) (fun _ k => XS.dup X54.here hx rfl (hb hby d37_3) rfl rfl k) ?_
  refine own_st (T' := T54) (g' := (mkF m 5 #[.val (.ref sa)] [(.int (0 : Int32)), (.ref tk), (.ref tk)])) (fun _ k => XS.iconst X54.here hx rfl (hb hby d37_4) k) ?_
  refine own_st (T' := T54) (g' := (mkF m 6 #[.val (.ref sa)] [(.ref sa), (.int (0 : Int32)), (.ref tk), (.ref tk)])) (fun _ k => XS.aloadN X54.here hx rfl (hb hby d37_5) rfl rfl k) ?_
  obtain ⟨vq55, _, ⟨T55, L55, k55, n55⟩, -, X55, ⟨Lc55, hQ55, l55, y55, z55⟩, st55⟩ := X54.specialBack hx (y := (⟨"com/example/idiolect/idiolect/internal/datetime/DateTimePatterns$Token", "<init>", "(CLjava/lang/String;)V"⟩ : MethodName)) rfl hown (mvT hZ (hw _ (List.mem_of_getElem? (i := 204) rfl))) (mvT hZ (hw _ (List.mem_of_getElem? (i := 12) rfl))) (mvT hZ (hw _ (List.mem_of_getElem? (i := 13) rfl))) (by decide) (backOf (W := 1) (own_ti l Z a0 hw [] tk (0 : Int32) (.ref sa) h54 n0 Z0' rfl F_letter_tk F_text_tk E_tk ge_tk) hZ (hw _ (List.mem_of_getElem? (i := 13) rfl)) (hw _ (List.mem_of_getElem? (i := 10) rfl)) (by decide) (by decide)) (g := (mkF m 6 #[.val (.ref sa)] [(.ref sa), (.int (0 : Int32)), (.ref tk), (.ref tk)])) rfl (by rw [hml]; rfl) (Steps.refl _) (a := tk) (argsL := [(.int (0 : Int32)), (.ref sa)]) (rest := [(.ref tk)]) (lenOf own_pd16 rfl) rfl (by show 2 * 0 + _ ≤ _; exact Nat.le_of_eq rfl) (hb hby d37_6) (fun _ _ => ⟨rfl, e54, (by decide : (0 + 1) + 0 ≤ _), (by decide : (0 + 2) + 0 ≤ _)⟩)
  dsimp only [Pt.U, Pt.locs, Pt.cells, Pt.slots] at X55 l55 y55 z55 st55 hQ55
  subst l55 y55 z55
  obtain ⟨rfl, N55q, K55, -, Fl_tk⟩ := hQ55
  have N0' := Fr.app N0 N55q
  have E_tk := E_tk.keep K55
  have Z0'' := Nat.le_trans Z0' K55.1
  have Kp := Kp.trans K55 (allS (P := fun x => x ∈ [] ∨ h0.size ≤ x) (Or.inr sz_tk) all0)
  refine own_tr (T' := T55) (g' := (mkF m 9 #[.val (.ref sa)] [(.ref tk)])) st55 ?_
  exact own_retR X55 hx Bd.returns Bd.notSynchronized rfl rfl rfl (hb hby d37_9) ⟨tk, rfl, N0', Kp, sz_tk, E_tk, Fl_tk⟩ (by decide) (by decide)
theorem own_pd17 : parseMethodDescriptor "(I)C" = some ⟨[.int], some .char⟩ := by decide +kernel
theorem d52_0 : decode prog_79_method_2_code 0 = .ok (.new 8, 3) := by decide +kernel
theorem d52_3 : decode prog_79_method_2_code 3 = .ok (.dup, 1) := by decide +kernel
theorem d52_4 : decode prog_79_method_2_code 4 = .ok (.aload_n 0, 1) := by decide +kernel
theorem d52_5 : decode prog_79_method_2_code 5 = .ok (.iconst 0, 1) := by decide +kernel
theorem d52_6 : decode prog_79_method_2_code 6 = .ok (.invokevirtual 17, 3) := by decide +kernel
theorem d52_9 : decode prog_79_method_2_code 9 = .ok (.aload_n 0, 1) := by decide +kernel
theorem d52_10 : decode prog_79_method_2_code 10 = .ok (.invokespecial 23, 3) := by decide +kernel
theorem d52_13 : decode prog_79_method_2_code 13 = .ok (.areturn, 1) := by decide +kernel
def own_fie_Q (Z : State) (a : Addr) (t : Addr) (kt : ClassId) (x : Int32) (q : Int32) (cc : Int32) (fm : Value) (h0 : Heap) (n0 : Nat) (v : Option Value) (h : Heap) (L : List Loc) : Prop := ∃ x, v = some (.ref x) ∧ Fr n0 L ∧ Keep h0 h [] ∧ h0.size ≤ x ∧ Exa Z h x "com/example/idiolect/idiolect/internal/datetime/DateTimePatterns$Token" ∧ Fld Z h x "com/example/idiolect/idiolect/internal/datetime/DateTimePatterns$Token" "letter" "C" (.int q)
set_option maxRecDepth 65536 in
set_option maxHeartbeats 40000000 in
theorem own_fie (l : Launch) (Z : State) (a0 : Array Value) (hw : ∀ d ∈ tables_1, d.before a0 Z = true) (ws : List Jvm.Cond) (a : Addr) (t : Addr) (kt : ClassId) (x : Int32) (q : Int32) (cc : Int32) (fm : Value) (h0 : Heap) (n0 : Nat) (Z0 : n0 ≤ h0.size) (Ea : Exa Z h0 a "java/lang/String") (Fv : Fld Z h0 a "java/lang/String" "value" "[B" (.ref t)) (Fc : Fld Z h0 a "java/lang/String" "coder" "B" (.int (0 : Int32))) (Vt : own_Av Z h0 t kt .byte 1 (fun _ => .int x)) (SC : Sta Z h0 "java/lang/String" "COMPACT_STRINGS" "Z" (.int cc)) (hcs : ¬ cc = (0 : Int32)) (SF : Sta Z h0 "jdk/internal/util/Preconditions" "SIOOBE_FORMATTER" "Ljava/util/function/BiFunction;" fm) (hfm : fm.isRef = true) (hq : nar .char (x &&& (255 : Int32)).toUInt32.toUInt16.toUInt32.toInt32 = q) (hqq : nar .char q = q) :
    MetFree l (⟨"com/example/idiolect/idiolect/internal/datetime/DateTimePatterns$Token", "field", "(Ljava/lang/String;)Lcom/example/idiolect/idiolect/internal/datetime/DateTimePatterns$Token;"⟩ : MethodName) (head1 (Jvm.Cond.code (⟨"com/example/idiolect/idiolect/internal/datetime/DateTimePatterns$Token", "field", "(Ljava/lang/String;)Lcom/example/idiolect/idiolect/internal/datetime/DateTimePatterns$Token;"⟩ : MethodName) prog_79_method_2_code 1 (some (.object "com/example/idiolect/idiolect/internal/datetime/DateTimePatterns$Token")) :: ws) ({ frames := 4, cells := 1, slots := 2, locals := 55 } : Room)) (fun aa U0 => aa = #[(.ref a)] ∧ Z.Warmed39 U0.vm ∧ U0.heap = h0) (fun _ _ _ _ _ => True) (fun _ U0 o0 U1 => ∃ v0 L0, o0 = .returned v0 ∧ own_fie_Q Z a t kt x q cc fm h0 n0 v0 U1.heap L0 ∧ FrameEnd U0 o0 U1 L0 ({ frames := 4, cells := 1, slots := 2, locals := 55 } : Room).cells ({ frames := 4, cells := 1, slots := 2, locals := 55 } : Room).slots) := by
  refine MetFree.of_bodySF (plainFor_of_name own_pn7) hisR ?_
  intro p e s m args below meth c s₁ Bd hml0 hP hK
  obtain ⟨rfl, hZ, hh⟩ := hP
  have hx := Bd.exec
  have hby := Bd.bytes
  have hml : c.maxLocals = 1 := hml0
  have hown : s.vm.findClass "com/example/idiolect/idiolect/internal/datetime/DateTimePatterns$Token" = some m.cls := findClass_of_methodNamed Bd.named
  have hnm := (name_of_methodNamed Bd.named Bd.method).1
  have X0 : Stand p l e ({ frames := 4, cells := 1, slots := 2, locals := 55 } : Room) s m #[(.ref a)] below meth c s₁ [] 0 0 := Stand.of_body Bd
  have e0 : s₁.heap = h0 := by rw [← hh, Bd.state]; rfl
  have N0 := Fr.nil n0
  show own_Go p e below s (own_fie_Q Z a t kt x q cc fm h0 n0) 1 2 s₁ (entryFrame m #[(.ref a)] 1)
  rw [show entryFrame m #[(.ref a)] 1 = mkF m 0 #[.val (.ref a)] [] from by first | (simp [entryFrame, mkF, argsToLocals, Value.category]; done) | rfl]
  have Kp := Keep.refl h0 []
  obtain ⟨T56, h56, X56, e56, E56, A56, D56, -, st56⟩ := newO X0 hx hZ hown (hw _ (List.mem_of_getElem? (i := 203) rfl)) (hw _ (List.mem_of_getElem? (i := 9) rfl)) (hw _ (List.mem_of_getElem? (i := 10) rfl)) e0 (g := (mkF m 0 #[.val (.ref a)] [])) rfl (hb hby d52_0) (by decide) (by decide)
  obtain ⟨tk, gtk⟩ : ∃ z, z = h0.size := ⟨_, rfl⟩
  rw [← gtk] at A56 D56 st56
  have ne_a_tk : a ≠ tk := own_ne Ea.lt gtk
  have ne_t_tk : t ≠ tk := own_ne Vt.lt gtk
  have ge_tk : n0 ≤ tk := own_ge Z0 gtk
  have sz_tk : h0.size ≤ tk := own_ge Kp.1 gtk
  have Ea := Ea.ext E56
  have Fv := Fv.ext E56
  have Fc := Fc.ext E56
  have Vt := Vt.ext E56
  have SC := SC.ext E56
  have SF := SF.ext E56
  have Z0' := Nat.le_trans Z0 E56.1
  have Kp := Kp.ext E56
  have E_tk := A56
  have F_letter_tk : Fld Z h56 tk "com/example/idiolect/idiolect/internal/datetime/DateTimePatterns$Token" "letter" "C" (.int (0 : Int32)) := D56 (Or.inr (hw _ (List.mem_of_getElem? (i := 23) rfl))) (ty := .char) (by decide)
  have F_text_tk : Fld Z h56 tk "com/example/idiolect/idiolect/internal/datetime/DateTimePatterns$Token" "text" "Ljava/lang/String;" .null := D56 (Or.inr (hw _ (List.mem_of_getElem? (i := 25) rfl))) (ty := (.object "java/lang/String")) (by decide)
  refine own_st (T' := T56) (g' := (mkF m 3 #[.val (.ref a)] [(.ref tk)])) st56 ?_
  refine own_st (T' := T56) (g' := (mkF m 4 #[.val (.ref a)] [(.ref tk), (.ref tk)])) (fun _ k => XS.dup X56.here hx rfl (hb hby d52_3) rfl rfl k) ?_
  refine own_st (T' := T56) (g' := (mkF m 5 #[.val (.ref a)] [(.ref a), (.ref tk), (.ref tk)])) (fun _ k => XS.aloadN X56.here hx rfl (hb hby d52_4) rfl rfl k) ?_
  refine own_st (T' := T56) (g' := (mkF m 6 #[.val (.ref a)] [(.int (0 : Int32)), (.ref a), (.ref tk), (.ref tk)])) (fun _ k => XS.iconst X56.here hx rfl (hb hby d52_5) k) ?_
  obtain ⟨cq57, kq57, q57a, q57b, q57c⟩ := isOf hZ e56 Ea
  obtain ⟨vq57, _, ⟨T57, L57, k57, n57⟩, -, X57, ⟨Lc57, hQ57, l57, y57, z57⟩, st57⟩ := X56.virtualBack hx (y := (⟨"java/lang/String", "charAt", "(I)C"⟩ : MethodName)) (z := (⟨"java/lang/String", "charAt", "(I)C"⟩ : MethodName)) hown (mvT hZ (hw _ (List.mem_of_getElem? (i := 292) rfl))) (mvT hZ (hw _ (List.mem_of_getElem? (i := 107) rfl))) (notFace_of_selects (args := #[]) (mvT hZ (hw _ (List.mem_of_getElem? (i := 109) rfl)))) (mvT hZ (hw _ (List.mem_of_getElem? (i := 109) rfl))) (mvT hZ (hw _ (List.mem_of_getElem? (i := 108) rfl))) (by decide) (backOf (W := 2) (own_ca l Z a0 hw [] a t kt x q cc fm h56 n0 Z0' Ea Fv Fc Vt SC hcs SF hfm hq hqq) hZ (hw _ (List.mem_of_getElem? (i := 110) rfl)) (hw _ (List.mem_of_getElem? (i := 1) rfl)) (by decide) (by decide)) q57a q57c (g := (mkF m 6 #[.val (.ref a)] [(.int (0 : Int32)), (.ref a), (.ref tk), (.ref tk)])) rfl (by rw [hml]; rfl) (Steps.refl _) (argsL := [(.int (0 : Int32))]) (rest := [(.ref tk), (.ref tk)]) (lenOf own_pd17 rfl) rfl (by show 2 * 0 + _ ≤ _; exact Nat.le_of_eq rfl) (hb hby d52_6) (fun _ _ => ⟨rfl, e56, (by decide : (0 + 1) + 0 ≤ _), (by decide : (0 + 2) + 0 ≤ _)⟩)
  dsimp only [Pt.U, Pt.locs, Pt.cells, Pt.slots] at X57 l57 y57 z57 st57 hQ57
  subst l57 y57 z57
  obtain ⟨rfl, N57q, e57⟩ := hQ57
  have N0' := Fr.app N0 N57q
  refine own_tr (T' := T57) (g' := (mkF m 9 #[.val (.ref a)] [(.int q), (.ref tk), (.ref tk)])) st57 ?_
  refine own_st (T' := T57) (g' := (mkF m 10 #[.val (.ref a)] [(.ref a), (.int q), (.ref tk), (.ref tk)])) (fun _ k => XS.aloadN X57.here hx rfl (hb hby d52_9) rfl rfl k) ?_
  obtain ⟨vq58, _, ⟨T58, L58, k58, n58⟩, -, X58, ⟨Lc58, hQ58, l58, y58, z58⟩, st58⟩ := X57.specialBack hx (y := (⟨"com/example/idiolect/idiolect/internal/datetime/DateTimePatterns$Token", "<init>", "(CLjava/lang/String;)V"⟩ : MethodName)) rfl hown (mvT hZ (hw _ (List.mem_of_getElem? (i := 204) rfl))) (mvT hZ (hw _ (List.mem_of_getElem? (i := 12) rfl))) (mvT hZ (hw _ (List.mem_of_getElem? (i := 13) rfl))) (by decide) (backOf (W := 1) (own_ti l Z a0 hw [] tk q (.ref a) h56 n0 Z0' rfl F_letter_tk F_text_tk E_tk ge_tk) hZ (hw _ (List.mem_of_getElem? (i := 13) rfl)) (hw _ (List.mem_of_getElem? (i := 10) rfl)) (by decide) (by decide)) (g := (mkF m 10 #[.val (.ref a)] [(.ref a), (.int q), (.ref tk), (.ref tk)])) rfl (by rw [hml]; rfl) (Steps.refl _) (a := tk) (argsL := [(.int q), (.ref a)]) (rest := [(.ref tk)]) (lenOf own_pd16 rfl) rfl (by show 2 * 0 + _ ≤ _; exact Nat.le_of_eq rfl) (hb hby d52_10) (fun _ _ => ⟨rfl, e57, (by decide : ((0 + 1) + 0) + 0 ≤ _), (by decide : ((0 + 2) + 0) + 0 ≤ _)⟩)
  dsimp only [Pt.U, Pt.locs, Pt.cells, Pt.slots] at X58 l58 y58 z58 st58 hQ58
  subst l58 y58 z58
  obtain ⟨rfl, N58q, K58, -, Fl_tk⟩ := hQ58
  have N0'' := Fr.app N0' N58q
  have Ea := Ea.keep K58
  have Fv := Fv.keep K58 (ninS ne_a_tk nin0)
  have Fc := Fc.keep K58 (ninS ne_a_tk nin0)
  have Vt := Vt.keep K58 (ninS ne_t_tk nin0)
  have E_tk := E_tk.keep K58
  have Z0'' := Nat.le_trans Z0' K58.1
  have Kp := Kp.trans K58 (allS (P := fun x => x ∈ [] ∨ h0.size ≤ x) (Or.inr sz_tk) all0)
  refine own_tr (T' := T58) (g' := (mkF m 13 #[.val (.ref a)] [(.ref tk)])) st58 ?_
  exact own_retR X58 hx Bd.returns Bd.notSynchronized rfl rfl rfl (hb hby d52_13) ⟨tk, rfl, N0'', Kp, sz_tk, E_tk, by rw [hqq] at Fl_tk; exact Fl_tk⟩ (by decide) (by decide)
theorem d45_0 : decode jdk_38_method_8_code 0 = .ok (.aload_n 0, 1) := by decide +kernel
theorem d45_1 : decode jdk_38_method_8_code 1 = .ok (.getfield 48, 3) := by decide +kernel
theorem d45_4 : decode jdk_38_method_8_code 4 = .ok (.ireturn, 1) := by decide +kernel
def own_sz_Q (Z : State) (a : Addr) (h0 : Heap) (n0 : Nat) (v : Option Value) (h : Heap) (L : List Loc) : Prop := v = some (.int 1) ∧ Fr n0 L ∧ h = h0
set_option maxRecDepth 65536 in
set_option maxHeartbeats 40000000 in
theorem own_sz (l : Launch) (Z : State) (a0 : Array Value) (hw : ∀ d ∈ tables_1, d.before a0 Z = true) (ws : List Jvm.Cond) (a : Addr) (h0 : Heap) (n0 : Nat) (Z0 : n0 ≤ h0.size) (Fs : Fld Z h0 a "java/util/ArrayList" "size" "I" (.int (1 : Int32))) :
    MetFree l (⟨"java/util/ArrayList", "size", "()I"⟩ : MethodName) (head1 (Jvm.Cond.code (⟨"java/util/ArrayList", "size", "()I"⟩ : MethodName) jdk_38_method_8_code 1 (some .int) :: ws) ({ frames := 0, cells := 0, slots := 0, locals := 0 } : Room)) (fun aa U0 => aa = #[(.ref a)] ∧ Z.Warmed39 U0.vm ∧ U0.heap = h0) (fun _ _ _ _ _ => True) (fun _ U0 o0 U1 => ∃ v0 L0, o0 = .returned v0 ∧ own_sz_Q Z a h0 n0 v0 U1.heap L0 ∧ FrameEnd U0 o0 U1 L0 ({ frames := 0, cells := 0, slots := 0, locals := 0 } : Room).cells ({ frames := 0, cells := 0, slots := 0, locals := 0 } : Room).slots) := by
  refine MetFree.of_bodySF (plainFor_of_name own_pn4) hisR ?_
  intro p e s m args below meth c s₁ Bd hml0 hP hK
  obtain ⟨rfl, hZ, hh⟩ := hP
  have hx := Bd.exec
  have hby := Bd.bytes
  have hml : c.maxLocals = 1 := hml0
  have hown : s.vm.findClass "java/util/ArrayList" = some m.cls := findClass_of_methodNamed Bd.named
  have hnm := (name_of_methodNamed Bd.named Bd.method).1
  have X0 : Stand p l e ({ frames := 0, cells := 0, slots := 0, locals := 0 } : Room) s m #[(.ref a)] below meth c s₁ [] 0 0 := Stand.of_body Bd
  have e0 : s₁.heap = h0 := by rw [← hh, Bd.state]; rfl
  have N0 := Fr.nil n0
  show own_Go p e below s (own_sz_Q Z a h0 n0) 0 0 s₁ (entryFrame m #[(.ref a)] 1)
  rw [show entryFrame m #[(.ref a)] 1 = mkF m 0 #[.val (.ref a)] [] from by first | (simp [entryFrame, mkF, argsToLocals, Value.category]; done) | rfl]
  refine own_st (T' := s₁) (g' := (mkF m 1 #[.val (.ref a)] [(.ref a)])) (fun _ k => XS.aloadN X0.here hx rfl (hb hby d45_0) rfl rfl k) ?_
  obtain ⟨T59, X59, e59, st59⟩ := getF X0 hx hZ hown (host := "") (Or.inl (hw _ (List.mem_of_getElem? (i := 216) rfl))) Via.refl e0 Fs (g := (mkF m 1 #[.val (.ref a)] [(.ref a)])) rfl rfl (hb hby d45_1)
  refine own_st (T' := T59) (g' := (mkF m 4 #[.val (.ref a)] [(.int (1 : Int32))])) st59 ?_
  exact own_retI X59 hx Bd.returns Bd.notSynchronized e59 (hb hby d45_4) ⟨rfl, N0, rfl⟩ (by decide) (by decide)
theorem d47_0 : decode jdk_31_method_17_code 0 = .ok (.iload_n 0, 1) := by decide +kernel
theorem d47_1 : decode jdk_31_method_17_code 1 = .ok (.iload_n 1, 1) := by decide +kernel
theorem d47_2 : decode jdk_31_method_17_code 2 = .ok (.aconst_null, 1) := by decide +kernel
theorem d47_3 : decode jdk_31_method_17_code 3 = .ok (.invokestatic 105, 3) := by decide +kernel
theorem d47_6 : decode jdk_31_method_17_code 6 = .ok (.ireturn, 1) := by decide +kernel
theorem own_pn8 : plainName "java/util/Objects" = true := by first | (simp [plainName, overriddenIn]; done) | decide +kernel
def own_oci_Q (Z : State)  (h0 : Heap) (n0 : Nat) (v : Option Value) (h : Heap) (L : List Loc) : Prop := v = some (.int 0) ∧ Fr n0 L ∧ h = h0
set_option maxRecDepth 65536 in
set_option maxHeartbeats 40000000 in
theorem own_oci (l : Launch) (Z : State) (a0 : Array Value) (hw : ∀ d ∈ tables_1, d.before a0 Z = true) (ws : List Jvm.Cond)  (h0 : Heap) (n0 : Nat) (Z0 : n0 ≤ h0.size) :
    MetFree l (⟨"java/util/Objects", "checkIndex", "(II)I"⟩ : MethodName) (head1 (Jvm.Cond.code (⟨"java/util/Objects", "checkIndex", "(II)I"⟩ : MethodName) jdk_31_method_17_code 2 (some .int) :: ws) ({ frames := 1, cells := 0, slots := 0, locals := 14 } : Room)) (fun aa U0 => aa = #[(.int (0 : Int32)), (.int (1 : Int32))] ∧ Z.Warmed39 U0.vm ∧ U0.heap = h0) (fun _ _ _ _ _ => True) (fun _ U0 o0 U1 => ∃ v0 L0, o0 = .returned v0 ∧ own_oci_Q Z  h0 n0 v0 U1.heap L0 ∧ FrameEnd U0 o0 U1 L0 ({ frames := 1, cells := 0, slots := 0, locals := 14 } : Room).cells ({ frames := 1, cells := 0, slots := 0, locals := 14 } : Room).slots) := by
  refine MetFree.of_bodySF (plainFor_of_name own_pn8) hisR ?_
  intro p e s m args below meth c s₁ Bd hml0 hP hK
  obtain ⟨rfl, hZ, hh⟩ := hP
  have hx := Bd.exec
  have hby := Bd.bytes
  have hml : c.maxLocals = 2 := hml0
  have hown : s.vm.findClass "java/util/Objects" = some m.cls := findClass_of_methodNamed Bd.named
  have hnm := (name_of_methodNamed Bd.named Bd.method).1
  have X0 : Stand p l e ({ frames := 1, cells := 0, slots := 0, locals := 14 } : Room) s m #[(.int (0 : Int32)), (.int (1 : Int32))] below meth c s₁ [] 0 0 := Stand.of_body Bd
  have e0 : s₁.heap = h0 := by rw [← hh, Bd.state]; rfl
  have N0 := Fr.nil n0
  show own_Go p e below s (own_oci_Q Z  h0 n0) 0 0 s₁ (entryFrame m #[(.int (0 : Int32)), (.int (1 : Int32))] 2)
  rw [show entryFrame m #[(.int (0 : Int32)), (.int (1 : Int32))] 2 = mkF m 0 #[.val (.int (0 : Int32)), .val (.int (1 : Int32))] [] from by first | (simp [entryFrame, mkF, argsToLocals, Value.category]; done) | rfl]
  refine own_st (T' := s₁) (g' := (mkF m 1 #[.val (.int (0 : Int32)), .val (.int (1 : Int32))] [(.int (0 : Int32))])) (fun _ k => XS.iloadN X0.here hx rfl (hb hby d47_0) rfl k) ?_
  refine own_st (T' := s₁) (g' := (mkF m 2 #[.val (.int (0 : Int32)), .val (.int (1 : Int32))] [(.int (1 : Int32)), (.int (0 : Int32))])) (fun _ k => XS.iloadN X0.here hx rfl (hb hby d47_1) rfl k) ?_
  refine own_st (T' := s₁) (g' := (mkF m 3 #[.val (.int (0 : Int32)), .val (.int (1 : Int32))] [.null, (.int (1 : Int32)), (.int (0 : Int32))])) (fun _ k => XS.aconstNull X0.here hx rfl (hb hby d47_2) k) ?_
  obtain ⟨vq60, _, ⟨T60, L60, k60, n60⟩, -, X60, ⟨Lc60, hQ60, l60, y60, z60⟩, st60⟩ := Jvm.LawKit.callS X0 hx (y := (⟨"jdk/internal/util/Preconditions", "checkIndex", "(IILjava/util/function/BiFunction;)I"⟩ : MethodName)) hown (mvT hZ (hw _ (List.mem_of_getElem? (i := 270) rfl))) (mvT hZ (hw _ (List.mem_of_getElem? (i := 125) rfl))) (mvT hZ (hw _ (List.mem_of_getElem? (i := 123) rfl))) (mvT hZ (hw _ (List.mem_of_getElem? (i := 126) rfl))) (by decide) (backOf (W := 0) (own_ci l Z a0 hw [] .null h0 n0 Z0 rfl) hZ (hw _ (List.mem_of_getElem? (i := 126) rfl)) (hw _ (List.mem_of_getElem? (i := 123) rfl)) (by decide) (by decide)) (g := (mkF m 3 #[.val (.int (0 : Int32)), .val (.int (1 : Int32))] [.null, (.int (1 : Int32)), (.int (0 : Int32))])) rfl (by rw [hml]; rfl) (argsL := [(.int (0 : Int32)), (.int (1 : Int32)), .null]) (rest := []) (lenOf own_pd9 rfl) rfl (by show 2 * 0 + _ ≤ _; exact Nat.le_of_eq rfl) (hb hby d47_3) (fun _ _ => ⟨rfl, e0, (by decide : 0 + 0 ≤ _), (by decide : 0 + 0 ≤ _)⟩)
  dsimp only [Pt.U, Pt.locs, Pt.cells, Pt.slots] at X60 l60 y60 z60 st60 hQ60
  subst l60 y60 z60
  obtain ⟨rfl, N60q, e60⟩ := hQ60
  have N0' := Fr.app N0 N60q
  refine own_st (T' := T60) (g' := (mkF m 6 #[.val (.int (0 : Int32)), .val (.int (1 : Int32))] [(.int (0 : Int32))])) st60 ?_
  exact own_retI X60 hx Bd.returns Bd.notSynchronized e60 (hb hby d47_6) ⟨rfl, N0', rfl⟩ (by decide) (by decide)
theorem d48_0 : decode jdk_38_method_18_code 0 = .ok (.aload_n 0, 1) := by decide +kernel
theorem d48_1 : decode jdk_38_method_18_code 1 = .ok (.getfield 9, 3) := by decide +kernel
theorem d48_4 : decode jdk_38_method_18_code 4 = .ok (.iload_n 1, 1) := by decide +kernel
theorem d48_5 : decode jdk_38_method_18_code 5 = .ok (.aaload, 1) := by decide +kernel
theorem d48_6 : decode jdk_38_method_18_code 6 = .ok (.areturn, 1) := by decide +kernel
def own_ed_Q (Z : State) (a : Addr) (t : Addr) (kt : ClassId) (x : Addr) (h0 : Heap) (n0 : Nat) (v : Option Value) (h : Heap) (L : List Loc) : Prop := v = some (.ref x) ∧ Fr n0 L ∧ h = h0
set_option maxRecDepth 65536 in
set_option maxHeartbeats 40000000 in
theorem own_ed (l : Launch) (Z : State) (a0 : Array Value) (hw : ∀ d ∈ tables_1, d.before a0 Z = true) (ws : List Jvm.Cond) (a : Addr) (t : Addr) (kt : ClassId) (x : Addr) (h0 : Heap) (n0 : Nat) (Z0 : n0 ≤ h0.size) (Fe : Fld Z h0 a "java/util/ArrayList" "elementData" "[Ljava/lang/Object;" (.ref t)) (Vt : own_Av Z h0 t kt (.object "java/lang/Object") 10 (fun q => if q = 0 then (.ref x) else .null)) :
    MetFree l (⟨"java/util/ArrayList", "elementData", "(I)Ljava/lang/Object;"⟩ : MethodName) (head1 (Jvm.Cond.code (⟨"java/util/ArrayList", "elementData", "(I)Ljava/lang/Object;"⟩ : MethodName) jdk_38_method_18_code 2 (some (.object "java/lang/Object")) :: ws) ({ frames := 0, cells := 0, slots := 0, locals := 0 } : Room)) (fun aa U0 => aa = #[(.ref a), (.int (0 : Int32))] ∧ Z.Warmed39 U0.vm ∧ U0.heap = h0) (fun _ _ _ _ _ => True) (fun _ U0 o0 U1 => ∃ v0 L0, o0 = .returned v0 ∧ own_ed_Q Z a t kt x h0 n0 v0 U1.heap L0 ∧ FrameEnd U0 o0 U1 L0 ({ frames := 0, cells := 0, slots := 0, locals := 0 } : Room).cells ({ frames := 0, cells := 0, slots := 0, locals := 0 } : Room).slots) := by
  refine MetFree.of_bodySF (plainFor_of_name own_pn4) hisR ?_
  intro p e s m args below meth c s₁ Bd hml0 hP hK
  obtain ⟨rfl, hZ, hh⟩ := hP
  have hx := Bd.exec
  have hby := Bd.bytes
  have hml : c.maxLocals = 2 := hml0
  have hown : s.vm.findClass "java/util/ArrayList" = some m.cls := findClass_of_methodNamed Bd.named
  have hnm := (name_of_methodNamed Bd.named Bd.method).1
  have X0 : Stand p l e ({ frames := 0, cells := 0, slots := 0, locals := 0 } : Room) s m #[(.ref a), (.int (0 : Int32))] below meth c s₁ [] 0 0 := Stand.of_body Bd
  have e0 : s₁.heap = h0 := by rw [← hh, Bd.state]; rfl
  have N0 := Fr.nil n0
  show own_Go p e below s (own_ed_Q Z a t kt x h0 n0) 0 0 s₁ (entryFrame m #[(.ref a), (.int (0 : Int32))] 2)
  rw [show entryFrame m #[(.ref a), (.int (0 : Int32))] 2 = mkF m 0 #[.val (.ref a), .val (.int (0 : Int32))] [] from by first | (simp [entryFrame, mkF, argsToLocals, Value.category]; done) | rfl]
  refine own_st (T' := s₁) (g' := (mkF m 1 #[.val (.ref a), .val (.int (0 : Int32))] [(.ref a)])) (fun _ k => XS.aloadN X0.here hx rfl (hb hby d48_0) rfl rfl k) ?_
  obtain ⟨T61, X61, e61, st61⟩ := getF X0 hx hZ hown (host := "") (Or.inl (hw _ (List.mem_of_getElem? (i := 76) rfl))) Via.refl e0 Fe (g := (mkF m 1 #[.val (.ref a), .val (.int (0 : Int32))] [(.ref a)])) rfl rfl (hb hby d48_1)
  refine own_st (T' := T61) (g' := (mkF m 4 #[.val (.ref a), .val (.int (0 : Int32))] [(.ref t)])) st61 ?_
  refine own_st (T' := T61) (g' := (mkF m 5 #[.val (.ref a), .val (.int (0 : Int32))] [(.int (0 : Int32)), (.ref t)])) (fun _ k => XS.iloadN X61.here hx rfl (hb hby d48_4) rfl k) ?_
  refine own_st (T' := T61) (g' := (mkF m 6 #[.val (.ref a), .val (.int (0 : Int32))] [(.ref x)])) (own_ldR X61 hx hZ e61 Vt rfl (i := 0) (by decide) (by decide) (v := (.ref x)) rfl (g := (mkF m 5 #[.val (.ref a), .val (.int (0 : Int32))] [(.int (0 : Int32)), (.ref t)])) rfl rfl (hb hby d48_5)) ?_
  exact own_retR X61 hx Bd.returns Bd.notSynchronized e61 rfl rfl (hb hby d48_6) ⟨rfl, N0, rfl⟩ (by decide) (by decide)
theorem own_pd18 : parseMethodDescriptor "(I)Ljava/lang/Object;" = some ⟨[.int], some (.object "java/lang/Object")⟩ := by decide +kernel
theorem d46_0 : decode jdk_38_method_20_code 0 = .ok (.iload_n 1, 1) := by decide +kernel
theorem d46_1 : decode jdk_38_method_20_code 1 = .ok (.aload_n 0, 1) := by decide +kernel
theorem d46_2 : decode jdk_38_method_20_code 2 = .ok (.getfield 48, 3) := by decide +kernel
theorem d46_5 : decode jdk_38_method_20_code 5 = .ok (.invokestatic 118, 3) := by decide +kernel
theorem d46_8 : decode jdk_38_method_20_code 8 = .ok (.pop, 1) := by decide +kernel
theorem d46_9 : decode jdk_38_method_20_code 9 = .ok (.aload_n 0, 1) := by decide +kernel
theorem d46_10 : decode jdk_38_method_20_code 10 = .ok (.iload_n 1, 1) := by decide +kernel
theorem d46_11 : decode jdk_38_method_20_code 11 = .ok (.invokevirtual 123, 3) := by decide +kernel
theorem d46_14 : decode jdk_38_method_20_code 14 = .ok (.areturn, 1) := by decide +kernel
def own_get_Q (Z : State) (a : Addr) (t : Addr) (kt : ClassId) (x : Addr) (h0 : Heap) (n0 : Nat) (v : Option Value) (h : Heap) (L : List Loc) : Prop := v = some (.ref x) ∧ Fr n0 L ∧ h = h0
set_option maxRecDepth 65536 in
set_option maxHeartbeats 40000000 in
theorem own_get (l : Launch) (Z : State) (a0 : Array Value) (hw : ∀ d ∈ tables_1, d.before a0 Z = true) (ws : List Jvm.Cond) (a : Addr) (t : Addr) (kt : ClassId) (x : Addr) (h0 : Heap) (n0 : Nat) (Z0 : n0 ≤ h0.size) (Fe : Fld Z h0 a "java/util/ArrayList" "elementData" "[Ljava/lang/Object;" (.ref t)) (Vt : own_Av Z h0 t kt (.object "java/lang/Object") 10 (fun q => if q = 0 then (.ref x) else .null)) (Fs : Fld Z h0 a "java/util/ArrayList" "size" "I" (.int (1 : Int32))) (Ea : Exa Z h0 a "java/util/ArrayList") :
    MetFree l (⟨"java/util/ArrayList", "get", "(I)Ljava/lang/Object;"⟩ : MethodName) (head1 (Jvm.Cond.code (⟨"java/util/ArrayList", "get", "(I)Ljava/lang/Object;"⟩ : MethodName) jdk_38_method_20_code 2 (some (.object "java/lang/Object")) :: ws) ({ frames := 2, cells := 0, slots := 0, locals := 27 } : Room)) (fun aa U0 => aa = #[(.ref a), (.int (0 : Int32))] ∧ Z.Warmed39 U0.vm ∧ U0.heap = h0) (fun _ _ _ _ _ => True) (fun _ U0 o0 U1 => ∃ v0 L0, o0 = .returned v0 ∧ own_get_Q Z a t kt x h0 n0 v0 U1.heap L0 ∧ FrameEnd U0 o0 U1 L0 ({ frames := 2, cells := 0, slots := 0, locals := 27 } : Room).cells ({ frames := 2, cells := 0, slots := 0, locals := 27 } : Room).slots) := by
  refine MetFree.of_bodySF (plainFor_of_name own_pn4) hisR ?_
  intro p e s m args below meth c s₁ Bd hml0 hP hK
  obtain ⟨rfl, hZ, hh⟩ := hP
  have hx := Bd.exec
  have hby := Bd.bytes
  have hml : c.maxLocals = 2 := hml0
  have hown : s.vm.findClass "java/util/ArrayList" = some m.cls := findClass_of_methodNamed Bd.named
  have hnm := (name_of_methodNamed Bd.named Bd.method).1
  have X0 : Stand p l e ({ frames := 2, cells := 0, slots := 0, locals := 27 } : Room) s m #[(.ref a), (.int (0 : Int32))] below meth c s₁ [] 0 0 := Stand.of_body Bd
  have e0 : s₁.heap = h0 := by rw [← hh, Bd.state]; rfl
  have N0 := Fr.nil n0
  show own_Go p e below s (own_get_Q Z a t kt x h0 n0) 0 0 s₁ (entryFrame m #[(.ref a), (.int (0 : Int32))] 2)
  rw [show entryFrame m #[(.ref a), (.int (0 : Int32))] 2 = mkF m 0 #[.val (.ref a), .val (.int (0 : Int32))] [] from by first | (simp [entryFrame, mkF, argsToLocals, Value.category]; done) | rfl]
  refine own_st (T' := s₁) (g' := (mkF m 1 #[.val (.ref a), .val (.int (0 : Int32))] [(.int (0 : Int32))])) (fun _ k => XS.iloadN X0.here hx rfl (hb hby d46_0) rfl k) ?_
  refine own_st (T' := s₁) (g' := (mkF m 2 #[.val (.ref a), .val (.int (0 : Int32))] [(.ref a), (.int (0 : Int32))])) (fun _ k => XS.aloadN X0.here hx rfl (hb hby d46_1) rfl rfl k) ?_
  obtain ⟨T62, X62, e62, st62⟩ := getF X0 hx hZ hown (host := "") (Or.inl (hw _ (List.mem_of_getElem? (i := 216) rfl))) Via.refl e0 Fs (g := (mkF m 2 #[.val (.ref a), .val (.int (0 : Int32))] [(.ref a), (.int (0 : Int32))])) rfl rfl (hb hby d46_2)
  refine own_st (T' := T62) (g' := (mkF m 5 #[.val (.ref a), .val (.int (0 : Int32))] [(.int (1 : Int32)), (.int (0 : Int32))])) st62 ?_
  obtain ⟨vq63, _, ⟨T63, L63, k63, n63⟩, -, X63, ⟨Lc63, hQ63, l63, y63, z63⟩, st63⟩ := Jvm.LawKit.callS X62 hx (y := (⟨"java/util/Objects", "checkIndex", "(II)I"⟩ : MethodName)) hown (mvT hZ (hw _ (List.mem_of_getElem? (i := 266) rfl))) (mvT hZ (hw _ (List.mem_of_getElem? (i := 267) rfl))) (mvT hZ (hw _ (List.mem_of_getElem? (i := 268) rfl))) (mvT hZ (hw _ (List.mem_of_getElem? (i := 269) rfl))) (by decide) (backOf (W := 0) (own_oci l Z a0 hw []  h0 n0 Z0 ) hZ (hw _ (List.mem_of_getElem? (i := 269) rfl)) (hw _ (List.mem_of_getElem? (i := 268) rfl)) (by decide) (by decide)) (g := (mkF m 5 #[.val (.ref a), .val (.int (0 : Int32))] [(.int (1 : Int32)), (.int (0 : Int32))])) rfl (by rw [hml]; rfl) (argsL := [(.int (0 : Int32)), (.int (1 : Int32))]) (rest := []) (lenOf own_pd4 rfl) rfl (by show 2 * 0 + _ ≤ _; exact Nat.le_of_eq rfl) (hb hby d46_5) (fun _ _ => ⟨rfl, e62, (by decide : 0 + 0 ≤ _), (by decide : 0 + 0 ≤ _)⟩)
  dsimp only [Pt.U, Pt.locs, Pt.cells, Pt.slots] at X63 l63 y63 z63 st63 hQ63
  subst l63 y63 z63
  obtain ⟨rfl, N63q, e63⟩ := hQ63
  have N0' := Fr.app N0 N63q
  refine own_st (T' := T63) (g' := (mkF m 8 #[.val (.ref a), .val (.int (0 : Int32))] [(.int (0 : Int32))])) st63 ?_
  refine own_st (T' := T63) (g' := (mkF m 9 #[.val (.ref a), .val (.int (0 : Int32))] [])) (fun _ k => XS.pop X63.here hx rfl (hb hby d46_8) rfl rfl k) ?_
  refine own_st (T' := T63) (g' := (mkF m 10 #[.val (.ref a), .val (.int (0 : Int32))] [(.ref a)])) (fun _ k => XS.aloadN X63.here hx rfl (hb hby d46_9) rfl rfl k) ?_
  refine own_st (T' := T63) (g' := (mkF m 11 #[.val (.ref a), .val (.int (0 : Int32))] [(.int (0 : Int32)), (.ref a)])) (fun _ k => XS.iloadN X63.here hx rfl (hb hby d46_10) rfl k) ?_
  obtain ⟨cq64, kq64, q64a, q64b, q64c⟩ := isOf hZ e63 Ea
  obtain ⟨vq64, _, ⟨T64, L64, k64, n64⟩, -, X64, ⟨Lc64, hQ64, l64, y64, z64⟩, st64⟩ := X63.virtualBack hx (y := (⟨"java/util/ArrayList", "elementData", "(I)Ljava/lang/Object;"⟩ : MethodName)) (z := (⟨"java/util/ArrayList", "elementData", "(I)Ljava/lang/Object;"⟩ : MethodName)) hown (mvT hZ (hw _ (List.mem_of_getElem? (i := 271) rfl))) (mvT hZ (hw _ (List.mem_of_getElem? (i := 272) rfl))) (notFace_of_selects (args := #[]) (mvT hZ (hw _ (List.mem_of_getElem? (i := 274) rfl)))) (mvT hZ (hw _ (List.mem_of_getElem? (i := 274) rfl))) (mvT hZ (hw _ (List.mem_of_getElem? (i := 273) rfl))) (by decide) (backOf (W := 0) (own_ed l Z a0 hw [] a t kt x h0 n0 Z0 Fe Vt) hZ (hw _ (List.mem_of_getElem? (i := 275) rfl)) (hw _ (List.mem_of_getElem? (i := 56) rfl)) (by decide) (by decide)) q64a q64c (g := (mkF m 11 #[.val (.ref a), .val (.int (0 : Int32))] [(.int (0 : Int32)), (.ref a)])) rfl (by rw [hml]; rfl) (Steps.refl _) (argsL := [(.int (0 : Int32))]) (rest := []) (lenOf own_pd18 rfl) rfl (by show 2 * 0 + _ ≤ _; exact Nat.le_of_eq rfl) (hb hby d46_11) (fun _ _ => ⟨rfl, e63, (by decide : (0 + 0) + 0 ≤ _), (by decide : (0 + 0) + 0 ≤ _)⟩)
  dsimp only [Pt.U, Pt.locs, Pt.cells, Pt.slots] at X64 l64 y64 z64 st64 hQ64
  subst l64 y64 z64
  obtain ⟨rfl, N64q, e64⟩ := hQ64
  have N0'' := Fr.app N0' N64q
  refine own_tr (T' := T64) (g' := (mkF m 14 #[.val (.ref a), .val (.int (0 : Int32))] [(.ref x)])) st64 ?_
  exact own_retR X64 hx Bd.returns Bd.notSynchronized e64 rfl rfl (hb hby d46_14) ⟨rfl, N0'', rfl⟩ (by decide) (by decide)
theorem d14_0 : decode jdk_68_method_2_code 0 = .ok (.aload_n 0, 1) := by decide +kernel
theorem d14_1 : decode jdk_68_method_2_code 1 = .ok (.invokespecial 3, 3) := by decide +kernel
theorem d14_4 : decode jdk_68_method_2_code 4 = .ok (.getstatic 18, 3) := by decide +kernel
theorem d14_7 : decode jdk_68_method_2_code 7 = .ok (.ifCond .eq 18, 3) := by decide +kernel
theorem d14_10 : decode jdk_68_method_2_code 10 = .ok (.aload_n 0, 1) := by decide +kernel
theorem d14_11 : decode jdk_68_method_2_code 11 = .ok (.iload_n 1, 1) := by decide +kernel
theorem d14_12 : decode jdk_68_method_2_code 12 = .ok (.newarray .byte, 2) := by decide +kernel
theorem d14_14 : decode jdk_68_method_2_code 14 = .ok (.putfield 15, 3) := by decide +kernel
theorem d14_17 : decode jdk_68_method_2_code 17 = .ok (.aload_n 0, 1) := by decide +kernel
theorem d14_18 : decode jdk_68_method_2_code 18 = .ok (.iconst 0, 1) := by decide +kernel
theorem d14_19 : decode jdk_68_method_2_code 19 = .ok (.putfield 22, 3) := by decide +kernel
theorem d14_22 : decode jdk_68_method_2_code 22 = .ok (.goto 16, 3) := by decide +kernel
theorem d14_38 : decode jdk_68_method_2_code 38 = .ok (.return_, 1) := by decide +kernel
theorem own_pn9 : plainName "java/lang/AbstractStringBuilder" = true := by first | (simp [plainName, overriddenIn]; done) | decide +kernel
def own_asbi_Q (Z : State) (a : Addr) (cc : Int32) (h0 : Heap) (n0 : Nat) (v : Option Value) (h : Heap) (L : List Loc) : Prop := v = none ∧ Fr n0 L ∧ Keep h0 h [a] ∧ ∃ t kt, h0.size ≤ t ∧ Exa Z h a "java/lang/StringBuilder" ∧ Fld Z h a "java/lang/AbstractStringBuilder" "value" "[B" (.ref t) ∧ Fld Z h a "java/lang/AbstractStringBuilder" "coder" "B" (.int (0 : Int32)) ∧ Fld Z h a "java/lang/AbstractStringBuilder" "count" "I" (.int (0 : Int32)) ∧ Fld Z h a "java/lang/AbstractStringBuilder" "maybeLatin1" "Z" (.int (0 : Int32)) ∧ own_Av Z h t kt .byte 16 (fun _ => .int 0)
set_option maxRecDepth 65536 in
set_option maxHeartbeats 40000000 in
theorem own_asbi (l : Launch) (Z : State) (a0 : Array Value) (hw : ∀ d ∈ tables_1, d.before a0 Z = true) (ws : List Jvm.Cond) (a : Addr) (cc : Int32) (h0 : Heap) (n0 : Nat) (Z0 : n0 ≤ h0.size) (Gv : Fld Z h0 a "java/lang/AbstractStringBuilder" "value" "[B" .null) (Gc : Fld Z h0 a "java/lang/AbstractStringBuilder" "coder" "B" (.int (0 : Int32))) (Gn : Fld Z h0 a "java/lang/AbstractStringBuilder" "count" "I" (.int (0 : Int32))) (Gm : Fld Z h0 a "java/lang/AbstractStringBuilder" "maybeLatin1" "Z" (.int (0 : Int32))) (Eb : Exa Z h0 a "java/lang/StringBuilder") (ga : n0 ≤ a) (SC : Sta Z h0 "java/lang/String" "COMPACT_STRINGS" "Z" (.int cc)) (hcs : ¬ cc = (0 : Int32)) :
    MetFree l (⟨"java/lang/AbstractStringBuilder", "<init>", "(I)V"⟩ : MethodName) (head1 (Jvm.Cond.code (⟨"java/lang/AbstractStringBuilder", "<init>", "(I)V"⟩ : MethodName) jdk_68_method_2_code 2 none :: ws) ({ frames := 1, cells := 1, slots := 16, locals := 12 } : Room)) (fun aa U0 => aa = #[(.ref a), (.int (16 : Int32))] ∧ Z.Warmed39 U0.vm ∧ U0.heap = h0) (fun _ _ _ _ _ => True) (fun _ U0 o0 U1 => ∃ v0 L0, o0 = .returned v0 ∧ own_asbi_Q Z a cc h0 n0 v0 U1.heap L0 ∧ FrameEnd U0 o0 U1 L0 ({ frames := 1, cells := 1, slots := 16, locals := 12 } : Room).cells ({ frames := 1, cells := 1, slots := 16, locals := 12 } : Room).slots) := by
  refine MetFree.of_bodySF (plainFor_of_name own_pn9) hisR ?_
  intro p e s m args below meth c s₁ Bd hml0 hP hK
  obtain ⟨rfl, hZ, hh⟩ := hP
  have hx := Bd.exec
  have hby := Bd.bytes
  have hml : c.maxLocals = 2 := hml0
  have hown : s.vm.findClass "java/lang/AbstractStringBuilder" = some m.cls := findClass_of_methodNamed Bd.named
  have hnm := (name_of_methodNamed Bd.named Bd.method).1
  have X0 : Stand p l e ({ frames := 1, cells := 1, slots := 16, locals := 12 } : Room) s m #[(.ref a), (.int (16 : Int32))] below meth c s₁ [] 0 0 := Stand.of_body Bd
  have e0 : s₁.heap = h0 := by rw [← hh, Bd.state]; rfl
  have N0 := Fr.nil n0
  show own_Go p e below s (own_asbi_Q Z a cc h0 n0) 1 16 s₁ (entryFrame m #[(.ref a), (.int (16 : Int32))] 2)
  rw [show entryFrame m #[(.ref a), (.int (16 : Int32))] 2 = mkF m 0 #[.val (.ref a), .val (.int (16 : Int32))] [] from by first | (simp [entryFrame, mkF, argsToLocals, Value.category]; done) | rfl]
  have Kp := Keep.refl h0 [a]
  refine own_st (T' := s₁) (g' := (mkF m 1 #[.val (.ref a), .val (.int (16 : Int32))] [(.ref a)])) (fun _ k => XS.aloadN X0.here hx rfl (hb hby d14_0) rfl rfl k) ?_
  obtain ⟨T65, X65, e65, st65⟩ := initO X0 hx hZ hown (hw _ (List.mem_of_getElem? (i := 90) rfl)) (hw _ (List.mem_of_getElem? (i := 20) rfl)) (hw _ (List.mem_of_getElem? (i := 21) rfl)) e0 (g := (mkF m 1 #[.val (.ref a), .val (.int (16 : Int32))] [(.ref a)])) rfl (by rw [hml]; rfl) rfl (hb hby d14_1) (by decide) (W := 0) (by show 2 * 0 + _ ≤ _; exact Nat.le_of_eq rfl) (by decide)
  refine own_st (T' := T65) (g' := (mkF m 4 #[.val (.ref a), .val (.int (16 : Int32))] [])) st65 ?_
  obtain ⟨T66, X66, e66, st66⟩ := getS2 X65 hx hZ hown (host := "") (Or.inl (hw _ (List.mem_of_getElem? (i := 91) rfl))) Via.refl e65 SC (g := (mkF m 4 #[.val (.ref a), .val (.int (16 : Int32))] [])) rfl (hb hby d14_4)
  refine own_st (T' := T66) (g' := (mkF m 7 #[.val (.ref a), .val (.int (16 : Int32))] [(.int cc)])) st66 ?_
  refine own_st (T' := T66) (g' := (mkF m 10 #[.val (.ref a), .val (.int (16 : Int32))] [])) (fun _ k => XS.ifNo X66.here hx rfl (hb hby d14_7) rfl (Jvm.Free.XT.i0_eq_f hcs) k) ?_
  refine own_st (T' := T66) (g' := (mkF m 11 #[.val (.ref a), .val (.int (16 : Int32))] [(.ref a)])) (fun _ k => XS.aloadN X66.here hx rfl (hb hby d14_10) rfl rfl k) ?_
  refine own_st (T' := T66) (g' := (mkF m 12 #[.val (.ref a), .val (.int (16 : Int32))] [(.int (16 : Int32)), (.ref a)])) (fun _ k => XS.iloadN X66.here hx rfl (hb hby d14_11) rfl k) ?_
  obtain ⟨T67, h67, k67, X67, e67, E67, A67, st67⟩ := newP X66 hx hZ (hw _ (List.mem_of_getElem? (i := 3) rfl)) e66 (g := (mkF m 12 #[.val (.ref a), .val (.int (16 : Int32))] [(.int (16 : Int32)), (.ref a)])) rfl (hb hby d14_12) rfl (by decide) (cap := 16) (by decide) (by decide) (by decide) (by decide)
  obtain ⟨t, gt⟩ : ∃ z, z = h0.size := ⟨_, rfl⟩
  rw [← gt] at A67 st67
  have ne_a_t : a ≠ t := own_ne Gv.lt gt
  have ge_t : n0 ≤ t := own_ge Z0 gt
  have sz_t : h0.size ≤ t := own_ge Kp.1 gt
  have Gv := Gv.ext E67
  have Gc := Gc.ext E67
  have Gn := Gn.ext E67
  have Gm := Gm.ext E67
  have Eb := Eb.ext E67
  have Z0' := Nat.le_trans Z0 E67.1
  have Kp := Kp.ext E67
  have V_t := own_Av.new (n := 16) A67 rfl
  refine own_st (T' := T67) (g' := (mkF m 14 #[.val (.ref a), .val (.int (16 : Int32))] [(.ref t), (.ref a)])) st67 ?_
  obtain ⟨T68, h68, X68, e68, W68, st68⟩ := putF X67 hx hZ hown (host := "") (Or.inl (hw _ (List.mem_of_getElem? (i := 92) rfl))) Via.refl e67 Gv Eb (Or.inl (hw _ (List.mem_of_getElem? (i := 93) rfl))) (hw _ (List.mem_of_getElem? (i := 79) rfl)) (ty := (.array .byte)) (by decide) rfl rfl (g := (mkF m 14 #[.val (.ref a), .val (.int (16 : Int32))] [(.ref t), (.ref a)])) rfl rfl (hb hby d14_14)
  have Gc := Gc.other W68 (Or.inr (slot_ne (Or.inl (hw _ (List.mem_of_getElem? (i := 95) rfl))) (Or.inl (hw _ (List.mem_of_getElem? (i := 93) rfl))) (by decide) (t := .byte) (t' := (.array .byte)) (by decide) (by decide)))
  have Gn := Gn.other W68 (Or.inr (slot_ne (Or.inl (hw _ (List.mem_of_getElem? (i := 138) rfl))) (Or.inl (hw _ (List.mem_of_getElem? (i := 93) rfl))) (by decide) (t := .int) (t' := (.array .byte)) (by decide) (by decide)))
  have Gm := Gm.other W68 (Or.inr (slot_ne (Or.inl (hw _ (List.mem_of_getElem? (i := 249) rfl))) (Or.inl (hw _ (List.mem_of_getElem? (i := 93) rfl))) (by decide) (t := .boolean) (t' := (.array .byte)) (by decide) (by decide)))
  have Eb := Eb.wr W68
  have V_t := V_t.other W68 (Ne.symm ne_a_t)
  have Z0'' := Nat.le_trans Z0' (Keep.of_wr W68).1
  have Kp := Kp.wr W68 (Or.inl (List.mem_of_getElem? (i := 0) rfl))
  have N0' := Fr.snoc X68 N0 ga
  have Gv := Gv.same W68
  refine own_st (T' := T68) (g' := (mkF m 17 #[.val (.ref a), .val (.int (16 : Int32))] [])) st68 ?_
  refine own_st (T' := T68) (g' := (mkF m 18 #[.val (.ref a), .val (.int (16 : Int32))] [(.ref a)])) (fun _ k => XS.aloadN X68.here hx rfl (hb hby d14_17) rfl rfl k) ?_
  refine own_st (T' := T68) (g' := (mkF m 19 #[.val (.ref a), .val (.int (16 : Int32))] [(.int (0 : Int32)), (.ref a)])) (fun _ k => XS.iconst X68.here hx rfl (hb hby d14_18) k) ?_
  obtain ⟨T69, h69, X69, e69, W69, st69⟩ := putFN X68 hx hZ hown (hw _ (List.mem_of_getElem? (i := 94) rfl)) Via.refl e68 Gc Eb (Or.inl (hw _ (List.mem_of_getElem? (i := 95) rfl))) (hw _ (List.mem_of_getElem? (i := 79) rfl)) (ty := .byte) (v' := (.int (0 : Int32))) (by decide) rfl rfl (g := (mkF m 19 #[.val (.ref a), .val (.int (16 : Int32))] [(.int (0 : Int32)), (.ref a)])) rfl rfl (hb hby d14_19)
  have Gv := Gv.other W69 (Or.inr (slot_ne (Or.inl (hw _ (List.mem_of_getElem? (i := 93) rfl))) (Or.inl (hw _ (List.mem_of_getElem? (i := 95) rfl))) (by decide) (t := (.array .byte)) (t' := .byte) (by decide) (by decide)))
  have Gn := Gn.other W69 (Or.inr (slot_ne (Or.inl (hw _ (List.mem_of_getElem? (i := 138) rfl))) (Or.inl (hw _ (List.mem_of_getElem? (i := 95) rfl))) (by decide) (t := .int) (t' := .byte) (by decide) (by decide)))
  have Gm := Gm.other W69 (Or.inr (slot_ne (Or.inl (hw _ (List.mem_of_getElem? (i := 249) rfl))) (Or.inl (hw _ (List.mem_of_getElem? (i := 95) rfl))) (by decide) (t := .boolean) (t' := .byte) (by decide) (by decide)))
  have Eb := Eb.wr W69
  have V_t := V_t.other W69 (Ne.symm ne_a_t)
  have Z0''' := Nat.le_trans Z0'' (Keep.of_wr W69).1
  have Kp := Kp.wr W69 (Or.inl (List.mem_of_getElem? (i := 0) rfl))
  have N0'' := Fr.snoc X69 N0' ga
  have Gc := Gc.same W69
  refine own_st (T' := T69) (g' := (mkF m 22 #[.val (.ref a), .val (.int (16 : Int32))] [])) st69 ?_
  refine own_st (T' := T69) (g' := (mkF m 38 #[.val (.ref a), .val (.int (16 : Int32))] [])) (fun _ k => XS.goto X69.here hx rfl (pc0 := 22) (pc' := 38) rfl (hb hby d14_22) (by decide) (by decide) k) ?_
  exact own_ret0 X69 hx Bd.returns Bd.notSynchronized e69 (hb hby d14_38) ⟨rfl, N0'', Kp, t, _, sz_t, Eb, Gv, Gc, Gn, Gm, V_t.to (fun _ _ => rfl)⟩ (by decide) (by decide)
theorem own_pd19 : parseMethodDescriptor "(I)V" = some ⟨[.int], none⟩ := by decide +kernel
theorem d13_0 : decode jdk_67_method_1_code 0 = .ok (.aload_n 0, 1) := by decide +kernel
theorem d13_1 : decode jdk_67_method_1_code 1 = .ok (.bipush 16, 2) := by decide +kernel
theorem d13_3 : decode jdk_67_method_1_code 3 = .ok (.invokespecial 1, 3) := by decide +kernel
theorem d13_6 : decode jdk_67_method_1_code 6 = .ok (.return_, 1) := by decide +kernel
theorem own_pn10 : plainName "java/lang/StringBuilder" = true := by first | (simp [plainName, overriddenIn]; done) | decide +kernel
def own_sbi_Q (Z : State) (a : Addr) (cc : Int32) (h0 : Heap) (n0 : Nat) (v : Option Value) (h : Heap) (L : List Loc) : Prop := v = none ∧ Fr n0 L ∧ Keep h0 h [a] ∧ ∃ t kt, h0.size ≤ t ∧ Exa Z h a "java/lang/StringBuilder" ∧ Fld Z h a "java/lang/AbstractStringBuilder" "value" "[B" (.ref t) ∧ Fld Z h a "java/lang/AbstractStringBuilder" "coder" "B" (.int (0 : Int32)) ∧ Fld Z h a "java/lang/AbstractStringBuilder" "count" "I" (.int (0 : Int32)) ∧ Fld Z h a "java/lang/AbstractStringBuilder" "maybeLatin1" "Z" (.int (0 : Int32)) ∧ own_Av Z h t kt .byte 16 (fun _ => .int 0)
set_option maxRecDepth 65536 in
set_option maxHeartbeats 40000000 in
theorem own_sbi (l : Launch) (Z : State) (a0 : Array Value) (hw : ∀ d ∈ tables_1, d.before a0 Z = true) (ws : List Jvm.Cond) (a : Addr) (cc : Int32) (h0 : Heap) (n0 : Nat) (Z0 : n0 ≤ h0.size) (Gv : Fld Z h0 a "java/lang/AbstractStringBuilder" "value" "[B" .null) (Gc : Fld Z h0 a "java/lang/AbstractStringBuilder" "coder" "B" (.int (0 : Int32))) (Gn : Fld Z h0 a "java/lang/AbstractStringBuilder" "count" "I" (.int (0 : Int32))) (Gm : Fld Z h0 a "java/lang/AbstractStringBuilder" "maybeLatin1" "Z" (.int (0 : Int32))) (Eb : Exa Z h0 a "java/lang/StringBuilder") (ga : n0 ≤ a) (SC : Sta Z h0 "java/lang/String" "COMPACT_STRINGS" "Z" (.int cc)) (hcs : ¬ cc = (0 : Int32)) :
    MetFree l (⟨"java/lang/StringBuilder", "<init>", "()V"⟩ : MethodName) (head1 (Jvm.Cond.code (⟨"java/lang/StringBuilder", "<init>", "()V"⟩ : MethodName) jdk_67_method_1_code 1 none :: ws) ({ frames := 2, cells := 1, slots := 16, locals := 25 } : Room)) (fun aa U0 => aa = #[(.ref a)] ∧ Z.Warmed39 U0.vm ∧ U0.heap = h0) (fun _ _ _ _ _ => True) (fun _ U0 o0 U1 => ∃ v0 L0, o0 = .returned v0 ∧ own_sbi_Q Z a cc h0 n0 v0 U1.heap L0 ∧ FrameEnd U0 o0 U1 L0 ({ frames := 2, cells := 1, slots := 16, locals := 25 } : Room).cells ({ frames := 2, cells := 1, slots := 16, locals := 25 } : Room).slots) := by
  refine MetFree.of_bodySF (plainFor_of_name own_pn10) hisR ?_
  intro p e s m args below meth c s₁ Bd hml0 hP hK
  obtain ⟨rfl, hZ, hh⟩ := hP
  have hx := Bd.exec
  have hby := Bd.bytes
  have hml : c.maxLocals = 1 := hml0
  have hown : s.vm.findClass "java/lang/StringBuilder" = some m.cls := findClass_of_methodNamed Bd.named
  have hnm := (name_of_methodNamed Bd.named Bd.method).1
  have X0 : Stand p l e ({ frames := 2, cells := 1, slots := 16, locals := 25 } : Room) s m #[(.ref a)] below meth c s₁ [] 0 0 := Stand.of_body Bd
  have e0 : s₁.heap = h0 := by rw [← hh, Bd.state]; rfl
  have N0 := Fr.nil n0
  show own_Go p e below s (own_sbi_Q Z a cc h0 n0) 1 16 s₁ (entryFrame m #[(.ref a)] 1)
  rw [show entryFrame m #[(.ref a)] 1 = mkF m 0 #[.val (.ref a)] [] from by first | (simp [entryFrame, mkF, argsToLocals, Value.category]; done) | rfl]
  have Kp := Keep.refl h0 [a]
  refine own_st (T' := s₁) (g' := (mkF m 1 #[.val (.ref a)] [(.ref a)])) (fun _ k => XS.aloadN X0.here hx rfl (hb hby d13_0) rfl rfl k) ?_
  refine own_st (T' := s₁) (g' := (mkF m 3 #[.val (.ref a)] [(.int (16 : Int32)), (.ref a)])) (fun _ k => XS.bipush X0.here hx rfl (hb hby d13_1) k) ?_
  have lt_a := Gv.lt
  obtain ⟨vq70, _, ⟨T70, L70, k70, n70⟩, -, X70, ⟨Lc70, hQ70, l70, y70, z70⟩, st70⟩ := X0.specialBack hx (y := (⟨"java/lang/AbstractStringBuilder", "<init>", "(I)V"⟩ : MethodName)) rfl hown (mvT hZ (hw _ (List.mem_of_getElem? (i := 84) rfl))) (mvT hZ (hw _ (List.mem_of_getElem? (i := 85) rfl))) (mvT hZ (hw _ (List.mem_of_getElem? (i := 89) rfl))) (by decide) (backOf (W := 0) (own_asbi l Z a0 hw [] a cc h0 n0 Z0 Gv Gc Gn Gm Eb ga SC hcs) hZ (hw _ (List.mem_of_getElem? (i := 89) rfl)) (hw _ (List.mem_of_getElem? (i := 88) rfl)) (by decide) (by decide)) (g := (mkF m 3 #[.val (.ref a)] [(.int (16 : Int32)), (.ref a)])) rfl (by rw [hml]; rfl) (Steps.refl _) (a := a) (argsL := [(.int (16 : Int32))]) (rest := []) (lenOf own_pd19 rfl) rfl (by show 2 * 0 + _ ≤ _; exact Nat.le_of_eq rfl) (hb hby d13_3) (fun _ _ => ⟨rfl, e0, (by decide : 0 + 1 ≤ _), (by decide : 0 + 16 ≤ _)⟩)
  dsimp only [Pt.U, Pt.locs, Pt.cells, Pt.slots] at X70 l70 y70 z70 st70 hQ70
  subst l70 y70 z70
  obtain ⟨rfl, N70q, K70, t, kt, gt, -, Gv, Gc, Gn, Gm, Vt⟩ := hQ70
  have N0' := Fr.app N0 N70q
  have ne_a_t : a ≠ t := own_ne2 lt_a gt
  have ge_t : n0 ≤ t := Nat.le_trans Z0 gt
  have sz_t : h0.size ≤ t := Nat.le_trans Kp.1 gt
  have Eb := Eb.keep K70
  have Z0' := Nat.le_trans Z0 K70.1
  have Kp := Kp.trans K70 (allS (P := fun x => x ∈ [a] ∨ h0.size ≤ x) (Or.inl (List.mem_of_getElem? (i := 0) rfl)) all0)
  refine own_tr (T' := T70) (g' := (mkF m 6 #[.val (.ref a)] [])) st70 ?_
  exact own_ret0 X70 hx Bd.returns Bd.notSynchronized rfl (hb hby d13_6) ⟨rfl, N0', Kp, t, kt, sz_t, Eb, Gv, Gc, Gn, Gm, Vt⟩ (by decide) (by decide)
theorem d24_0 : decode jdk_68_method_9_code 0 = .ok (.aload_n 0, 1) := by decide +kernel
theorem d24_1 : decode jdk_68_method_9_code 1 = .ok (.getfield 15, 3) := by decide +kernel
theorem d24_4 : decode jdk_68_method_9_code 4 = .ok (.arraylength, 1) := by decide +kernel
theorem d24_5 : decode jdk_68_method_9_code 5 = .ok (.aload_n 0, 1) := by decide +kernel
theorem d24_6 : decode jdk_68_method_9_code 6 = .ok (.getfield 22, 3) := by decide +kernel
theorem d24_9 : decode jdk_68_method_9_code 9 = .ok (.ishr, 1) := by decide +kernel
theorem d24_10 : decode jdk_68_method_9_code 10 = .ok (.istore_n 2, 1) := by decide +kernel
theorem d24_11 : decode jdk_68_method_9_code 11 = .ok (.iload_n 1, 1) := by decide +kernel
theorem d24_12 : decode jdk_68_method_9_code 12 = .ok (.iload_n 2, 1) := by decide +kernel
theorem d24_13 : decode jdk_68_method_9_code 13 = .ok (.isub, 1) := by decide +kernel
theorem d24_14 : decode jdk_68_method_9_code 14 = .ok (.ifCond .le 24, 3) := by decide +kernel
theorem d24_38 : decode jdk_68_method_9_code 38 = .ok (.return_, 1) := by decide +kernel
def own_ec_Q (Z : State) (a : Addr) (t : Addr) (kt : ClassId) (f : Nat → Value) (z : Int32) (h0 : Heap) (n0 : Nat) (v : Option Value) (h : Heap) (L : List Loc) : Prop := v = none ∧ Fr n0 L ∧ h = h0
set_option maxRecDepth 65536 in
set_option maxHeartbeats 40000000 in
theorem own_ec (l : Launch) (Z : State) (a0 : Array Value) (hw : ∀ d ∈ tables_1, d.before a0 Z = true) (ws : List Jvm.Cond) (a : Addr) (t : Addr) (kt : ClassId) (f : Nat → Value) (z : Int32) (h0 : Heap) (n0 : Nat) (Z0 : n0 ≤ h0.size) (Gv : Fld Z h0 a "java/lang/AbstractStringBuilder" "value" "[B" (.ref t)) (Gc : Fld Z h0 a "java/lang/AbstractStringBuilder" "coder" "B" (.int (0 : Int32))) (Vt : own_Av Z h0 t kt .byte 16 f) (hz : ¬ (0 : Int32) < (z - (16 : Int32))) :
    MetFree l (⟨"java/lang/AbstractStringBuilder", "ensureCapacityInternal", "(I)V"⟩ : MethodName) (head1 (Jvm.Cond.code (⟨"java/lang/AbstractStringBuilder", "ensureCapacityInternal", "(I)V"⟩ : MethodName) jdk_68_method_9_code 3 none :: ws) ({ frames := 0, cells := 0, slots := 0, locals := 0 } : Room)) (fun aa U0 => aa = #[(.ref a), (.int z)] ∧ Z.Warmed39 U0.vm ∧ U0.heap = h0) (fun _ _ _ _ _ => True) (fun _ U0 o0 U1 => ∃ v0 L0, o0 = .returned v0 ∧ own_ec_Q Z a t kt f z h0 n0 v0 U1.heap L0 ∧ FrameEnd U0 o0 U1 L0 ({ frames := 0, cells := 0, slots := 0, locals := 0 } : Room).cells ({ frames := 0, cells := 0, slots := 0, locals := 0 } : Room).slots) := by
  refine MetFree.of_bodySF (plainFor_of_name own_pn9) hisR ?_
  intro p e s m args below meth c s₁ Bd hml0 hP hK
  obtain ⟨rfl, hZ, hh⟩ := hP
  have hx := Bd.exec
  have hby := Bd.bytes
  have hml : c.maxLocals = 3 := hml0
  have hown : s.vm.findClass "java/lang/AbstractStringBuilder" = some m.cls := findClass_of_methodNamed Bd.named
  have hnm := (name_of_methodNamed Bd.named Bd.method).1
  have X0 : Stand p l e ({ frames := 0, cells := 0, slots := 0, locals := 0 } : Room) s m #[(.ref a), (.int z)] below meth c s₁ [] 0 0 := Stand.of_body Bd
  have e0 : s₁.heap = h0 := by rw [← hh, Bd.state]; rfl
  have N0 := Fr.nil n0
  show own_Go p e below s (own_ec_Q Z a t kt f z h0 n0) 0 0 s₁ (entryFrame m #[(.ref a), (.int z)] 3)
  rw [show entryFrame m #[(.ref a), (.int z)] 3 = mkF m 0 #[.val (.ref a), .val (.int z), .unset] [] from by first | (simp [entryFrame, mkF, argsToLocals, Value.category]; done) | rfl]
  refine own_st (T' := s₁) (g' := (mkF m 1 #[.val (.ref a), .val (.int z), .unset] [(.ref a)])) (fun _ k => XS.aloadN X0.here hx rfl (hb hby d24_0) rfl rfl k) ?_
  obtain ⟨T71, X71, e71, st71⟩ := getF X0 hx hZ hown (host := "") (Or.inl (hw _ (List.mem_of_getElem? (i := 92) rfl))) Via.refl e0 Gv (g := (mkF m 1 #[.val (.ref a), .val (.int z), .unset] [(.ref a)])) rfl rfl (hb hby d24_1)
  refine own_st (T' := T71) (g' := (mkF m 4 #[.val (.ref a), .val (.int z), .unset] [(.ref t)])) st71 ?_
  refine own_st (T' := T71) (g' := (mkF m 5 #[.val (.ref a), .val (.int z), .unset] [(.int (16 : Int32))])) (own_len X71 hx hZ e71 Vt (z := (16 : Int32)) rfl (g := (mkF m 4 #[.val (.ref a), .val (.int z), .unset] [(.ref t)])) rfl rfl (hb hby d24_4)) ?_
  refine own_st (T' := T71) (g' := (mkF m 6 #[.val (.ref a), .val (.int z), .unset] [(.ref a), (.int (16 : Int32))])) (fun _ k => XS.aloadN X71.here hx rfl (hb hby d24_5) rfl rfl k) ?_
  obtain ⟨T72, X72, e72, st72⟩ := getF X71 hx hZ hown (host := "") (Or.inl (hw _ (List.mem_of_getElem? (i := 94) rfl))) Via.refl e71 Gc (g := (mkF m 6 #[.val (.ref a), .val (.int z), .unset] [(.ref a), (.int (16 : Int32))])) rfl rfl (hb hby d24_6)
  refine own_st (T' := T72) (g' := (mkF m 9 #[.val (.ref a), .val (.int z), .unset] [(.int (0 : Int32)), (.int (16 : Int32))])) st72 ?_
  refine own_st (T' := T72) (g' := (mkF m 10 #[.val (.ref a), .val (.int z), .unset] [(.int ((16 : Int32) >>> ((0 : Int32) &&& 31)))])) (fun _ k => XS.ishr X72.here hx rfl (hb hby d24_9) rfl k) ?_
  rw [show ((16 : Int32) >>> ((0 : Int32) &&& 31)) = (16 : Int32) from rfl]
  refine own_st (T' := T72) (g' := (mkF m 11 #[.val (.ref a), .val (.int z), .val (.int (16 : Int32))] [])) (fun _ k => XS.istoreN X72.here hx rfl (hb hby d24_10) rfl (l' := #[.val (.ref a), .val (.int z), .val (.int (16 : Int32))]) rfl k) ?_
  refine own_st (T' := T72) (g' := (mkF m 12 #[.val (.ref a), .val (.int z), .val (.int (16 : Int32))] [(.int z)])) (fun _ k => XS.iloadN X72.here hx rfl (hb hby d24_11) rfl k) ?_
  refine own_st (T' := T72) (g' := (mkF m 13 #[.val (.ref a), .val (.int z), .val (.int (16 : Int32))] [(.int (16 : Int32)), (.int z)])) (fun _ k => XS.iloadN X72.here hx rfl (hb hby d24_12) rfl k) ?_
  refine own_st (T' := T72) (g' := (mkF m 14 #[.val (.ref a), .val (.int z), .val (.int (16 : Int32))] [(.int (z - (16 : Int32)))])) (fun _ k => XS.isub X72.here hx rfl (hb hby d24_13) rfl k) ?_
  refine own_st (T' := T72) (g' := (mkF m 38 #[.val (.ref a), .val (.int z), .val (.int (16 : Int32))] [])) (fun _ k => XS.ifYes X72.here hx rfl (pc0 := 14) (pc' := 38) rfl (hb hby d24_14) rfl (Jvm.Free.XT.i0_le_t hz) (by decide) (by decide) k) ?_
  exact own_ret0 X72 hx Bd.returns Bd.notSynchronized e72 (hb hby d24_38) ⟨rfl, N0, rfl⟩ (by decide) (by decide)
theorem d25_0 : decode jdk_68_method_68_code 0 = .ok (.getstatic 18, 3) := by decide +kernel
theorem d25_3 : decode jdk_68_method_68_code 3 = .ok (.ifCond .eq 14, 3) := by decide +kernel
theorem d25_6 : decode jdk_68_method_68_code 6 = .ok (.aload_n 0, 1) := by decide +kernel
theorem d25_7 : decode jdk_68_method_68_code 7 = .ok (.getfield 22, 3) := by decide +kernel
theorem d25_10 : decode jdk_68_method_68_code 10 = .ok (.ifCond .ne 7, 3) := by decide +kernel
theorem d25_13 : decode jdk_68_method_68_code 13 = .ok (.iconst 1, 1) := by decide +kernel
theorem d25_14 : decode jdk_68_method_68_code 14 = .ok (.goto 4, 3) := by decide +kernel
theorem d25_18 : decode jdk_68_method_68_code 18 = .ok (.ireturn, 1) := by decide +kernel
def own_ail_Q (Z : State) (a : Addr) (cc : Int32) (h0 : Heap) (n0 : Nat) (v : Option Value) (h : Heap) (L : List Loc) : Prop := v = some (.int 1) ∧ Fr n0 L ∧ h = h0
set_option maxRecDepth 65536 in
set_option maxHeartbeats 40000000 in
theorem own_ail (l : Launch) (Z : State) (a0 : Array Value) (hw : ∀ d ∈ tables_1, d.before a0 Z = true) (ws : List Jvm.Cond) (a : Addr) (cc : Int32) (h0 : Heap) (n0 : Nat) (Z0 : n0 ≤ h0.size) (Gc : Fld Z h0 a "java/lang/AbstractStringBuilder" "coder" "B" (.int (0 : Int32))) (SC : Sta Z h0 "java/lang/String" "COMPACT_STRINGS" "Z" (.int cc)) (hcs : ¬ cc = (0 : Int32)) :
    MetFree l (⟨"java/lang/AbstractStringBuilder", "isLatin1", "()Z"⟩ : MethodName) (head1 (Jvm.Cond.code (⟨"java/lang/AbstractStringBuilder", "isLatin1", "()Z"⟩ : MethodName) jdk_68_method_68_code 1 (some .boolean) :: ws) ({ frames := 0, cells := 0, slots := 0, locals := 0 } : Room)) (fun aa U0 => aa = #[(.ref a)] ∧ Z.Warmed39 U0.vm ∧ U0.heap = h0) (fun _ _ _ _ _ => True) (fun _ U0 o0 U1 => ∃ v0 L0, o0 = .returned v0 ∧ own_ail_Q Z a cc h0 n0 v0 U1.heap L0 ∧ FrameEnd U0 o0 U1 L0 ({ frames := 0, cells := 0, slots := 0, locals := 0 } : Room).cells ({ frames := 0, cells := 0, slots := 0, locals := 0 } : Room).slots) := by
  refine MetFree.of_bodySF (plainFor_of_name own_pn9) hisR ?_
  intro p e s m args below meth c s₁ Bd hml0 hP hK
  obtain ⟨rfl, hZ, hh⟩ := hP
  have hx := Bd.exec
  have hby := Bd.bytes
  have hml : c.maxLocals = 1 := hml0
  have hown : s.vm.findClass "java/lang/AbstractStringBuilder" = some m.cls := findClass_of_methodNamed Bd.named
  have hnm := (name_of_methodNamed Bd.named Bd.method).1
  have X0 : Stand p l e ({ frames := 0, cells := 0, slots := 0, locals := 0 } : Room) s m #[(.ref a)] below meth c s₁ [] 0 0 := Stand.of_body Bd
  have e0 : s₁.heap = h0 := by rw [← hh, Bd.state]; rfl
  have N0 := Fr.nil n0
  show own_Go p e below s (own_ail_Q Z a cc h0 n0) 0 0 s₁ (entryFrame m #[(.ref a)] 1)
  rw [show entryFrame m #[(.ref a)] 1 = mkF m 0 #[.val (.ref a)] [] from by first | (simp [entryFrame, mkF, argsToLocals, Value.category]; done) | rfl]
  obtain ⟨T73, X73, e73, st73⟩ := getS2 X0 hx hZ hown (host := "") (Or.inl (hw _ (List.mem_of_getElem? (i := 91) rfl))) Via.refl e0 SC (g := (mkF m 0 #[.val (.ref a)] [])) rfl (hb hby d25_0)
  refine own_st (T' := T73) (g' := (mkF m 3 #[.val (.ref a)] [(.int cc)])) st73 ?_
  refine own_st (T' := T73) (g' := (mkF m 6 #[.val (.ref a)] [])) (fun _ k => XS.ifNo X73.here hx rfl (hb hby d25_3) rfl (Jvm.Free.XT.i0_eq_f hcs) k) ?_
  refine own_st (T' := T73) (g' := (mkF m 7 #[.val (.ref a)] [(.ref a)])) (fun _ k => XS.aloadN X73.here hx rfl (hb hby d25_6) rfl rfl k) ?_
  obtain ⟨T74, X74, e74, st74⟩ := getF X73 hx hZ hown (host := "") (Or.inl (hw _ (List.mem_of_getElem? (i := 94) rfl))) Via.refl e73 Gc (g := (mkF m 7 #[.val (.ref a)] [(.ref a)])) rfl rfl (hb hby d25_7)
  refine own_st (T' := T74) (g' := (mkF m 10 #[.val (.ref a)] [(.int (0 : Int32))])) st74 ?_
  refine own_st (T' := T74) (g' := (mkF m 13 #[.val (.ref a)] [])) (fun _ k => XS.ifNo X74.here hx rfl (hb hby d25_10) rfl (Jvm.Free.XT.i0_ne_f rfl) k) ?_
  refine own_st (T' := T74) (g' := (mkF m 14 #[.val (.ref a)] [(.int (1 : Int32))])) (fun _ k => XS.iconst X74.here hx rfl (hb hby d25_13) k) ?_
  refine own_st (T' := T74) (g' := (mkF m 18 #[.val (.ref a)] [(.int (1 : Int32))])) (fun _ k => XS.goto X74.here hx rfl (pc0 := 14) (pc' := 18) rfl (hb hby d25_14) (by decide) (by decide) k) ?_
  exact own_retN X74 hx Bd.returns Bd.notSynchronized e74 (by simp) (hb hby d25_18) ⟨rfl, N0, rfl⟩ (by decide) (by decide)
theorem d28_0 : decode jdk_68_method_6_code 0 = .ok (.aload_n 0, 1) := by decide +kernel
theorem d28_1 : decode jdk_68_method_6_code 1 = .ok (.getfield 79, 3) := by decide +kernel
theorem d28_4 : decode jdk_68_method_6_code 4 = .ok (.ireturn, 1) := by decide +kernel
def own_aln_Q (Z : State) (a : Addr) (z : Int32) (h0 : Heap) (n0 : Nat) (v : Option Value) (h : Heap) (L : List Loc) : Prop := v = some (.int z) ∧ Fr n0 L ∧ h = h0
set_option maxRecDepth 65536 in
set_option maxHeartbeats 40000000 in
theorem own_aln (l : Launch) (Z : State) (a0 : Array Value) (hw : ∀ d ∈ tables_1, d.before a0 Z = true) (ws : List Jvm.Cond) (a : Addr) (z : Int32) (h0 : Heap) (n0 : Nat) (Z0 : n0 ≤ h0.size) (Gn : Fld Z h0 a "java/lang/AbstractStringBuilder" "count" "I" (.int z)) :
    MetFree l (⟨"java/lang/AbstractStringBuilder", "length", "()I"⟩ : MethodName) (head1 (Jvm.Cond.code (⟨"java/lang/AbstractStringBuilder", "length", "()I"⟩ : MethodName) jdk_68_method_6_code 1 (some .int) :: ws) ({ frames := 0, cells := 0, slots := 0, locals := 0 } : Room)) (fun aa U0 => aa = #[(.ref a)] ∧ Z.Warmed39 U0.vm ∧ U0.heap = h0) (fun _ _ _ _ _ => True) (fun _ U0 o0 U1 => ∃ v0 L0, o0 = .returned v0 ∧ own_aln_Q Z a z h0 n0 v0 U1.heap L0 ∧ FrameEnd U0 o0 U1 L0 ({ frames := 0, cells := 0, slots := 0, locals := 0 } : Room).cells ({ frames := 0, cells := 0, slots := 0, locals := 0 } : Room).slots) := by
  refine MetFree.of_bodySF (plainFor_of_name own_pn9) hisR ?_
  intro p e s m args below meth c s₁ Bd hml0 hP hK
  obtain ⟨rfl, hZ, hh⟩ := hP
  have hx := Bd.exec
  have hby := Bd.bytes
  have hml : c.maxLocals = 1 := hml0
  have hown : s.vm.findClass "java/lang/AbstractStringBuilder" = some m.cls := findClass_of_methodNamed Bd.named
  have hnm := (name_of_methodNamed Bd.named Bd.method).1
  have X0 : Stand p l e ({ frames := 0, cells := 0, slots := 0, locals := 0 } : Room) s m #[(.ref a)] below meth c s₁ [] 0 0 := Stand.of_body Bd
  have e0 : s₁.heap = h0 := by rw [← hh, Bd.state]; rfl
  have N0 := Fr.nil n0
  show own_Go p e below s (own_aln_Q Z a z h0 n0) 0 0 s₁ (entryFrame m #[(.ref a)] 1)
  rw [show entryFrame m #[(.ref a)] 1 = mkF m 0 #[.val (.ref a)] [] from by first | (simp [entryFrame, mkF, argsToLocals, Value.category]; done) | rfl]
  refine own_st (T' := s₁) (g' := (mkF m 1 #[.val (.ref a)] [(.ref a)])) (fun _ k => XS.aloadN X0.here hx rfl (hb hby d28_0) rfl rfl k) ?_
  obtain ⟨T75, X75, e75, st75⟩ := getF X0 hx hZ hown (host := "") (Or.inl (hw _ (List.mem_of_getElem? (i := 137) rfl))) Via.refl e0 Gn (g := (mkF m 1 #[.val (.ref a)] [(.ref a)])) rfl rfl (hb hby d28_1)
  refine own_st (T' := T75) (g' := (mkF m 4 #[.val (.ref a)] [(.int z)])) st75 ?_
  exact own_retI X75 hx Bd.returns Bd.notSynchronized e75 (hb hby d28_4) ⟨rfl, N0, rfl⟩ (by decide) (by decide)
theorem d27_0 : decode jdk_67_method_93_code 0 = .ok (.aload_n 0, 1) := by decide +kernel
theorem d27_1 : decode jdk_67_method_93_code 1 = .ok (.invokespecial 343, 3) := by decide +kernel
theorem d27_4 : decode jdk_67_method_93_code 4 = .ok (.ireturn, 1) := by decide +kernel
def own_sln_Q (Z : State) (a : Addr) (z : Int32) (h0 : Heap) (n0 : Nat) (v : Option Value) (h : Heap) (L : List Loc) : Prop := v = some (.int z) ∧ Fr n0 L ∧ h = h0
set_option maxRecDepth 65536 in
set_option maxHeartbeats 40000000 in
theorem own_sln (l : Launch) (Z : State) (a0 : Array Value) (hw : ∀ d ∈ tables_1, d.before a0 Z = true) (ws : List Jvm.Cond) (a : Addr) (z : Int32) (h0 : Heap) (n0 : Nat) (Z0 : n0 ≤ h0.size) (Gn : Fld Z h0 a "java/lang/AbstractStringBuilder" "count" "I" (.int z)) (Eb : Exa Z h0 a "java/lang/StringBuilder") :
    MetFree l (⟨"java/lang/StringBuilder", "length", "()I"⟩ : MethodName) (head1 (Jvm.Cond.code (⟨"java/lang/StringBuilder", "length", "()I"⟩ : MethodName) jdk_67_method_93_code 1 (some .int) :: ws) ({ frames := 1, cells := 0, slots := 0, locals := 12 } : Room)) (fun aa U0 => aa = #[(.ref a)] ∧ Z.Warmed39 U0.vm ∧ U0.heap = h0) (fun _ _ _ _ _ => True) (fun _ U0 o0 U1 => ∃ v0 L0, o0 = .returned v0 ∧ own_sln_Q Z a z h0 n0 v0 U1.heap L0 ∧ FrameEnd U0 o0 U1 L0 ({ frames := 1, cells := 0, slots := 0, locals := 12 } : Room).cells ({ frames := 1, cells := 0, slots := 0, locals := 12 } : Room).slots) := by
  refine MetFree.of_bodySF (plainFor_of_name own_pn10) hisR ?_
  intro p e s m args below meth c s₁ Bd hml0 hP hK
  obtain ⟨rfl, hZ, hh⟩ := hP
  have hx := Bd.exec
  have hby := Bd.bytes
  have hml : c.maxLocals = 1 := hml0
  have hown : s.vm.findClass "java/lang/StringBuilder" = some m.cls := findClass_of_methodNamed Bd.named
  have hnm := (name_of_methodNamed Bd.named Bd.method).1
  have X0 : Stand p l e ({ frames := 1, cells := 0, slots := 0, locals := 12 } : Room) s m #[(.ref a)] below meth c s₁ [] 0 0 := Stand.of_body Bd
  have e0 : s₁.heap = h0 := by rw [← hh, Bd.state]; rfl
  have N0 := Fr.nil n0
  show own_Go p e below s (own_sln_Q Z a z h0 n0) 0 0 s₁ (entryFrame m #[(.ref a)] 1)
  rw [show entryFrame m #[(.ref a)] 1 = mkF m 0 #[.val (.ref a)] [] from by first | (simp [entryFrame, mkF, argsToLocals, Value.category]; done) | rfl]
  refine own_st (T' := s₁) (g' := (mkF m 1 #[.val (.ref a)] [(.ref a)])) (fun _ k => XS.aloadN X0.here hx rfl (hb hby d27_0) rfl rfl k) ?_
  obtain ⟨vq76, _, ⟨T76, L76, k76, n76⟩, -, X76, ⟨Lc76, hQ76, l76, y76, z76⟩, st76⟩ := superBack X0 hx hZ (y := (⟨"java/lang/AbstractStringBuilder", "length", "()I"⟩ : MethodName)) hown (hw _ (List.mem_of_getElem? (i := 158) rfl)) (own_same (hw _ (List.mem_of_getElem? (i := 159) rfl)) (own_face (y := (⟨"java/lang/AbstractStringBuilder", "ensureCapacityInternal", "(I)V"⟩ : MethodName)) (hw _ (List.mem_of_getElem? (i := 142) rfl))) (by decide)) (hw _ (List.mem_of_getElem? (i := 159) rfl)) (hw _ (List.mem_of_getElem? (i := 134) rfl)) (by decide) (backOf (W := 0) (own_aln l Z a0 hw [] a z h0 n0 Z0 Gn) hZ (hw _ (List.mem_of_getElem? (i := 161) rfl)) (hw _ (List.mem_of_getElem? (i := 88) rfl)) (by decide) (by decide)) e0 (Ins.self Eb) (g := (mkF m 1 #[.val (.ref a)] [(.ref a)])) rfl (by rw [hml]; rfl) (hw _ (List.mem_of_getElem? (i := 161) rfl)) (argsL := []) (rest := []) (lenOf own_pd14 rfl) rfl (by show 2 * 0 + _ ≤ _; exact Nat.le_of_eq rfl) (hb hby d27_1) (fun _ _ => ⟨rfl, e0, (by decide : 0 + 0 ≤ _), (by decide : 0 + 0 ≤ _)⟩)
  dsimp only [Pt.U, Pt.locs, Pt.cells, Pt.slots] at X76 l76 y76 z76 st76 hQ76
  subst l76 y76 z76
  obtain ⟨rfl, N76q, e76⟩ := hQ76
  have N0' := Fr.app N0 N76q
  refine own_tr (T' := T76) (g' := (mkF m 4 #[.val (.ref a)] [(.int z)])) st76 ?_
  exact own_retI X76 hx Bd.returns Bd.notSynchronized e76 (hb hby d27_4) ⟨rfl, N0', rfl⟩ (by decide) (by decide)
theorem d32_0 : decode jdk_68_method_64_code 0 = .ok (.aload_n 0, 1) := by decide +kernel
theorem d32_1 : decode jdk_68_method_64_code 1 = .ok (.getfield 15, 3) := by decide +kernel
theorem d32_4 : decode jdk_68_method_64_code 4 = .ok (.areturn, 1) := by decide +kernel
def own_gv_Q (Z : State) (a : Addr) (t : Addr) (h0 : Heap) (n0 : Nat) (v : Option Value) (h : Heap) (L : List Loc) : Prop := v = some (.ref t) ∧ Fr n0 L ∧ h = h0
set_option maxRecDepth 65536 in
set_option maxHeartbeats 40000000 in
theorem own_gv (l : Launch) (Z : State) (a0 : Array Value) (hw : ∀ d ∈ tables_1, d.before a0 Z = true) (ws : List Jvm.Cond) (a : Addr) (t : Addr) (h0 : Heap) (n0 : Nat) (Z0 : n0 ≤ h0.size) (Gv : Fld Z h0 a "java/lang/AbstractStringBuilder" "value" "[B" (.ref t)) :
    MetFree l (⟨"java/lang/AbstractStringBuilder", "getValue", "()[B"⟩ : MethodName) (head1 (Jvm.Cond.code (⟨"java/lang/AbstractStringBuilder", "getValue", "()[B"⟩ : MethodName) jdk_68_method_64_code 1 (some (.array .byte)) :: ws) ({ frames := 0, cells := 0, slots := 0, locals := 0 } : Room)) (fun aa U0 => aa = #[(.ref a)] ∧ Z.Warmed39 U0.vm ∧ U0.heap = h0) (fun _ _ _ _ _ => True) (fun _ U0 o0 U1 => ∃ v0 L0, o0 = .returned v0 ∧ own_gv_Q Z a t h0 n0 v0 U1.heap L0 ∧ FrameEnd U0 o0 U1 L0 ({ frames := 0, cells := 0, slots := 0, locals := 0 } : Room).cells ({ frames := 0, cells := 0, slots := 0, locals := 0 } : Room).slots) := by
  refine MetFree.of_bodySF (plainFor_of_name own_pn9) hisR ?_
  intro p e s m args below meth c s₁ Bd hml0 hP hK
  obtain ⟨rfl, hZ, hh⟩ := hP
  have hx := Bd.exec
  have hby := Bd.bytes
  have hml : c.maxLocals = 1 := hml0
  have hown : s.vm.findClass "java/lang/AbstractStringBuilder" = some m.cls := findClass_of_methodNamed Bd.named
  have hnm := (name_of_methodNamed Bd.named Bd.method).1
  have X0 : Stand p l e ({ frames := 0, cells := 0, slots := 0, locals := 0 } : Room) s m #[(.ref a)] below meth c s₁ [] 0 0 := Stand.of_body Bd
  have e0 : s₁.heap = h0 := by rw [← hh, Bd.state]; rfl
  have N0 := Fr.nil n0
  show own_Go p e below s (own_gv_Q Z a t h0 n0) 0 0 s₁ (entryFrame m #[(.ref a)] 1)
  rw [show entryFrame m #[(.ref a)] 1 = mkF m 0 #[.val (.ref a)] [] from by first | (simp [entryFrame, mkF, argsToLocals, Value.category]; done) | rfl]
  refine own_st (T' := s₁) (g' := (mkF m 1 #[.val (.ref a)] [(.ref a)])) (fun _ k => XS.aloadN X0.here hx rfl (hb hby d32_0) rfl rfl k) ?_
  obtain ⟨T77, X77, e77, st77⟩ := getF X0 hx hZ hown (host := "") (Or.inl (hw _ (List.mem_of_getElem? (i := 92) rfl))) Via.refl e0 Gv (g := (mkF m 1 #[.val (.ref a)] [(.ref a)])) rfl rfl (hb hby d32_1)
  refine own_st (T' := T77) (g' := (mkF m 4 #[.val (.ref a)] [(.ref t)])) st77 ?_
  exact own_retR X77 hx Bd.returns Bd.notSynchronized e77 rfl rfl (hb hby d32_4) ⟨rfl, N0, rfl⟩ (by decide) (by decide)
theorem d23_0 : decode jdk_68_method_31_code 0 = .ok (.aload_n 0, 1) := by decide +kernel
theorem d23_1 : decode jdk_68_method_31_code 1 = .ok (.aload_n 0, 1) := by decide +kernel
theorem d23_2 : decode jdk_68_method_31_code 2 = .ok (.getfield 79, 3) := by decide +kernel
theorem d23_5 : decode jdk_68_method_31_code 5 = .ok (.iconst 1, 1) := by decide +kernel
theorem d23_6 : decode jdk_68_method_31_code 6 = .ok (.iadd, 1) := by decide +kernel
theorem d23_7 : decode jdk_68_method_31_code 7 = .ok (.invokevirtual 100, 3) := by decide +kernel
theorem d23_10 : decode jdk_68_method_31_code 10 = .ok (.aload_n 0, 1) := by decide +kernel
theorem d23_11 : decode jdk_68_method_31_code 11 = .ok (.invokevirtual 83, 3) := by decide +kernel
theorem d23_14 : decode jdk_68_method_31_code 14 = .ok (.ifCond .eq 31, 3) := by decide +kernel
theorem d23_17 : decode jdk_68_method_31_code 17 = .ok (.iload_n 1, 1) := by decide +kernel
theorem d23_18 : decode jdk_68_method_31_code 18 = .ok (.invokestatic 191, 3) := by decide +kernel
theorem d23_21 : decode jdk_68_method_31_code 21 = .ok (.ifCond .eq 24, 3) := by decide +kernel
theorem d23_24 : decode jdk_68_method_31_code 24 = .ok (.aload_n 0, 1) := by decide +kernel
theorem d23_25 : decode jdk_68_method_31_code 25 = .ok (.getfield 15, 3) := by decide +kernel
theorem d23_28 : decode jdk_68_method_31_code 28 = .ok (.aload_n 0, 1) := by decide +kernel
theorem d23_29 : decode jdk_68_method_31_code 29 = .ok (.dup, 1) := by decide +kernel
theorem d23_30 : decode jdk_68_method_31_code 30 = .ok (.getfield 79, 3) := by decide +kernel
theorem d23_33 : decode jdk_68_method_31_code 33 = .ok (.dup_x1, 1) := by decide +kernel
theorem d23_34 : decode jdk_68_method_31_code 34 = .ok (.iconst 1, 1) := by decide +kernel
theorem d23_35 : decode jdk_68_method_31_code 35 = .ok (.iadd, 1) := by decide +kernel
theorem d23_36 : decode jdk_68_method_31_code 36 = .ok (.putfield 79, 3) := by decide +kernel
theorem d23_39 : decode jdk_68_method_31_code 39 = .ok (.iload_n 1, 1) := by decide +kernel
theorem d23_40 : decode jdk_68_method_31_code 40 = .ok (.i2b, 1) := by decide +kernel
theorem d23_41 : decode jdk_68_method_31_code 41 = .ok (.bastore, 1) := by decide +kernel
theorem d23_42 : decode jdk_68_method_31_code 42 = .ok (.goto 33, 3) := by decide +kernel
theorem d23_75 : decode jdk_68_method_31_code 75 = .ok (.aload_n 0, 1) := by decide +kernel
theorem d23_76 : decode jdk_68_method_31_code 76 = .ok (.areturn, 1) := by decide +kernel
def own_asa_Q (Z : State) (a : Addr) (t : Addr) (kt : ClassId) (f : Nat → Value) (ch : Int32) (cc : Int32) (h0 : Heap) (n0 : Nat) (v : Option Value) (h : Heap) (L : List Loc) : Prop := v = some (.ref a) ∧ Fr n0 L ∧ Keep h0 h [a, t] ∧ Fld Z h a "java/lang/AbstractStringBuilder" "value" "[B" (.ref t) ∧ Fld Z h a "java/lang/AbstractStringBuilder" "coder" "B" (.int (0 : Int32)) ∧ Fld Z h a "java/lang/AbstractStringBuilder" "count" "I" (.int (1 : Int32)) ∧ Fld Z h a "java/lang/AbstractStringBuilder" "maybeLatin1" "Z" (.int (0 : Int32)) ∧ ∃ f2, own_Av Z h t kt .byte 16 f2 ∧ ∀ j, j < 16 → fits .byte (f2 j) = true
set_option maxRecDepth 65536 in
set_option maxHeartbeats 40000000 in
theorem own_asa (l : Launch) (Z : State) (a0 : Array Value) (hw : ∀ d ∈ tables_1, d.before a0 Z = true) (ws : List Jvm.Cond) (a : Addr) (t : Addr) (kt : ClassId) (f : Nat → Value) (ch : Int32) (cc : Int32) (h0 : Heap) (n0 : Nat) (Z0 : n0 ≤ h0.size) (Gv : Fld Z h0 a "java/lang/AbstractStringBuilder" "value" "[B" (.ref t)) (Gc : Fld Z h0 a "java/lang/AbstractStringBuilder" "coder" "B" (.int (0 : Int32))) (Gn : Fld Z h0 a "java/lang/AbstractStringBuilder" "count" "I" (.int (0 : Int32))) (Gm : Fld Z h0 a "java/lang/AbstractStringBuilder" "maybeLatin1" "Z" (.int (0 : Int32))) (Eb : Exa Z h0 a "java/lang/StringBuilder") (ga : n0 ≤ a) (Vt : own_Av Z h0 t kt .byte 16 f) (hf : ∀ j, j < 16 → fits .byte (f j) = true) (gt : n0 ≤ t) (nt : a ≠ t) (hch : ¬ (255 : Int32) < ch) (SC : Sta Z h0 "java/lang/String" "COMPACT_STRINGS" "Z" (.int cc)) (hcs : ¬ cc = (0 : Int32)) :
    MetFree l (⟨"java/lang/AbstractStringBuilder", "append", "(C)Ljava/lang/AbstractStringBuilder;"⟩ : MethodName) (head1 (Jvm.Cond.code (⟨"java/lang/AbstractStringBuilder", "append", "(C)Ljava/lang/AbstractStringBuilder;"⟩ : MethodName) jdk_68_method_31_code 2 (some (.object "java/lang/AbstractStringBuilder")) :: ws) ({ frames := 1, cells := 0, slots := 0, locals := 14 } : Room)) (fun aa U0 => aa = #[(.ref a), (.int ch)] ∧ Z.Warmed39 U0.vm ∧ U0.heap = h0) (fun _ _ _ _ _ => True) (fun _ U0 o0 U1 => ∃ v0 L0, o0 = .returned v0 ∧ own_asa_Q Z a t kt f ch cc h0 n0 v0 U1.heap L0 ∧ FrameEnd U0 o0 U1 L0 ({ frames := 1, cells := 0, slots := 0, locals := 14 } : Room).cells ({ frames := 1, cells := 0, slots := 0, locals := 14 } : Room).slots) := by
  refine MetFree.of_bodySF (plainFor_of_name own_pn9) hisR ?_
  intro p e s m args below meth c s₁ Bd hml0 hP hK
  obtain ⟨rfl, hZ, hh⟩ := hP
  have hx := Bd.exec
  have hby := Bd.bytes
  have hml : c.maxLocals = 2 := hml0
  have hown : s.vm.findClass "java/lang/AbstractStringBuilder" = some m.cls := findClass_of_methodNamed Bd.named
  have hnm := (name_of_methodNamed Bd.named Bd.method).1
  have X0 : Stand p l e ({ frames := 1, cells := 0, slots := 0, locals := 14 } : Room) s m #[(.ref a), (.int ch)] below meth c s₁ [] 0 0 := Stand.of_body Bd
  have e0 : s₁.heap = h0 := by rw [← hh, Bd.state]; rfl
  have N0 := Fr.nil n0
  show own_Go p e below s (own_asa_Q Z a t kt f ch cc h0 n0) 0 0 s₁ (entryFrame m #[(.ref a), (.int ch)] 2)
  rw [show entryFrame m #[(.ref a), (.int ch)] 2 = mkF m 0 #[.val (.ref a), .val (.int ch)] [] from by first | (simp [entryFrame, mkF, argsToLocals, Value.category]; done) | rfl]
  have Kp := Keep.refl h0 [a, t]
  refine own_st (T' := s₁) (g' := (mkF m 1 #[.val (.ref a), .val (.int ch)] [(.ref a)])) (fun _ k => XS.aloadN X0.here hx rfl (hb hby d23_0) rfl rfl k) ?_
  refine own_st (T' := s₁) (g' := (mkF m 2 #[.val (.ref a), .val (.int ch)] [(.ref a), (.ref a)])) (fun _ k => XS.aloadN X0.here hx rfl (hb hby d23_1) rfl rfl k) ?_
  obtain ⟨T78, X78, e78, st78⟩ := getF X0 hx hZ hown (host := "") (Or.inl (hw _ (List.mem_of_getElem? (i := 137) rfl))) Via.refl e0 Gn (g := (mkF m 2 #[.val (.ref a), .val (.int ch)] [(.ref a), (.ref a)])) rfl rfl (hb hby d23_2)
  refine own_st (T' := T78) (g' := (mkF m 5 #[.val (.ref a), .val (.int ch)] [(.int (0 : Int32)), (.ref a)])) st78 ?_
  refine own_st (T' := T78) (g' := (mkF m 6 #[.val (.ref a), .val (.int ch)] [(.int (1 : Int32)), (.int (0 : Int32)), (.ref a)])) (fun _ k => XS.iconst X78.here hx rfl (hb hby d23_5) k) ?_
  refine own_st (T' := T78) (g' := (mkF m 7 #[.val (.ref a), .val (.int ch)] [(.int ((0 : Int32) + (1 : Int32))), (.ref a)])) (fun _ k => XS.iadd X78.here hx rfl (hb hby d23_6) rfl k) ?_
  rw [show ((0 : Int32) + (1 : Int32)) = (1 : Int32) from rfl]
  obtain ⟨cq79, kq79, q79a, q79b, q79c⟩ := isOf hZ e78 Eb
  obtain ⟨vq79, _, ⟨T79, L79, k79, n79⟩, -, X79, ⟨Lc79, hQ79, l79, y79, z79⟩, st79⟩ := X78.virtualBack hx (y := (⟨"java/lang/AbstractStringBuilder", "ensureCapacityInternal", "(I)V"⟩ : MethodName)) (z := (⟨"java/lang/AbstractStringBuilder", "ensureCapacityInternal", "(I)V"⟩ : MethodName)) hown (mvT hZ (hw _ (List.mem_of_getElem? (i := 139) rfl))) (mvT hZ (own_decl (hw _ (List.mem_of_getElem? (i := 140) rfl)) (hw _ (List.mem_of_getElem? (i := 143) rfl)))) (notFace_of_selects (args := #[]) (mvT hZ (hw _ (List.mem_of_getElem? (i := 142) rfl)))) (mvT hZ (hw _ (List.mem_of_getElem? (i := 142) rfl))) (mvT hZ (hw _ (List.mem_of_getElem? (i := 140) rfl))) (by decide) (backOf (W := 0) (own_ec l Z a0 hw [] a t kt f (1 : Int32) h0 n0 Z0 Gv Gc Vt (by decide)) hZ (hw _ (List.mem_of_getElem? (i := 143) rfl)) (hw _ (List.mem_of_getElem? (i := 88) rfl)) (by decide) (by decide)) q79a q79c (g := (mkF m 7 #[.val (.ref a), .val (.int ch)] [(.int (1 : Int32)), (.ref a)])) rfl (by rw [hml]; rfl) (Steps.refl _) (argsL := [(.int (1 : Int32))]) (rest := []) (lenOf own_pd19 rfl) rfl (by show 2 * 0 + _ ≤ _; exact Nat.le_of_eq rfl) (hb hby d23_7) (fun _ _ => ⟨rfl, e78, (by decide : 0 + 0 ≤ _), (by decide : 0 + 0 ≤ _)⟩)
  dsimp only [Pt.U, Pt.locs, Pt.cells, Pt.slots] at X79 l79 y79 z79 st79 hQ79
  subst l79 y79 z79
  obtain ⟨rfl, N79q, e79⟩ := hQ79
  have N0' := Fr.app N0 N79q
  refine own_tr (T' := T79) (g' := (mkF m 10 #[.val (.ref a), .val (.int ch)] [])) st79 ?_
  refine own_st (T' := T79) (g' := (mkF m 11 #[.val (.ref a), .val (.int ch)] [(.ref a)])) (fun _ k => XS.aloadN X79.here hx rfl (hb hby d23_10) rfl rfl k) ?_
  obtain ⟨cq80, kq80, q80a, q80b, q80c⟩ := isOf hZ e79 Eb
  obtain ⟨vq80, _, ⟨T80, L80, k80, n80⟩, -, X80, ⟨Lc80, hQ80, l80, y80, z80⟩, st80⟩ := X79.virtualBack hx (y := (⟨"java/lang/AbstractStringBuilder", "isLatin1", "()Z"⟩ : MethodName)) (z := (⟨"java/lang/AbstractStringBuilder", "isLatin1", "()Z"⟩ : MethodName)) hown (mvT hZ (hw _ (List.mem_of_getElem? (i := 144) rfl))) (mvT hZ (hw _ (List.mem_of_getElem? (i := 145) rfl))) (notFace_of_selects (args := #[]) (mvT hZ (hw _ (List.mem_of_getElem? (i := 147) rfl)))) (mvT hZ (hw _ (List.mem_of_getElem? (i := 147) rfl))) (mvT hZ (hw _ (List.mem_of_getElem? (i := 146) rfl))) (by decide) (backOf (W := 0) (own_ail l Z a0 hw [] a cc h0 n0 Z0 Gc SC hcs) hZ (hw _ (List.mem_of_getElem? (i := 148) rfl)) (hw _ (List.mem_of_getElem? (i := 88) rfl)) (by decide) (by decide)) q80a q80c (g := (mkF m 11 #[.val (.ref a), .val (.int ch)] [(.ref a)])) rfl (by rw [hml]; rfl) (Steps.refl _) (argsL := []) (rest := []) (lenOf own_pd11 rfl) rfl (by show 2 * 0 + _ ≤ _; exact Nat.le_of_eq rfl) (hb hby d23_11) (fun _ _ => ⟨rfl, e79, (by decide : (0 + 0) + 0 ≤ _), (by decide : (0 + 0) + 0 ≤ _)⟩)
  dsimp only [Pt.U, Pt.locs, Pt.cells, Pt.slots] at X80 l80 y80 z80 st80 hQ80
  subst l80 y80 z80
  obtain ⟨rfl, N80q, e80⟩ := hQ80
  have N0'' := Fr.app N0' N80q
  refine own_tr (T' := T80) (g' := (mkF m 14 #[.val (.ref a), .val (.int ch)] [(.int (1 : Int32))])) st80 ?_
  refine own_st (T' := T80) (g' := (mkF m 17 #[.val (.ref a), .val (.int ch)] [])) (fun _ k => XS.ifNo X80.here hx rfl (hb hby d23_14) rfl (Jvm.Free.XT.i0_eq_f (by decide)) k) ?_
  refine own_st (T' := T80) (g' := (mkF m 18 #[.val (.ref a), .val (.int ch)] [(.int ch)])) (fun _ k => XS.iloadN X80.here hx rfl (hb hby d23_17) rfl k) ?_
  obtain ⟨vq81, _, ⟨T81, L81, k81, n81⟩, -, X81, ⟨Lc81, hQ81, l81, y81, z81⟩, st81⟩ := Jvm.LawKit.callS X80 hx (y := (⟨"java/lang/StringLatin1", "canEncode", "(C)Z"⟩ : MethodName)) hown (mvT hZ (hw _ (List.mem_of_getElem? (i := 149) rfl))) (mvT hZ (hw _ (List.mem_of_getElem? (i := 36) rfl))) (mvT hZ (hw _ (List.mem_of_getElem? (i := 37) rfl))) (mvT hZ (hw _ (List.mem_of_getElem? (i := 38) rfl))) (by decide) (backOf (W := 0) (own_canEnc l Z a0 hw [] ch h0 n0 Z0 hch) hZ (hw _ (List.mem_of_getElem? (i := 38) rfl)) (hw _ (List.mem_of_getElem? (i := 37) rfl)) (by decide) (by decide)) (g := (mkF m 18 #[.val (.ref a), .val (.int ch)] [(.int ch)])) rfl (by rw [hml]; rfl) (argsL := [(.int ch)]) (rest := []) (lenOf own_pd0 rfl) rfl (by show 2 * 0 + _ ≤ _; exact Nat.le_of_eq rfl) (hb hby d23_18) (fun _ _ => ⟨rfl, e80, (by decide : ((0 + 0) + 0) + 0 ≤ _), (by decide : ((0 + 0) + 0) + 0 ≤ _)⟩)
  dsimp only [Pt.U, Pt.locs, Pt.cells, Pt.slots] at X81 l81 y81 z81 st81 hQ81
  subst l81 y81 z81
  obtain ⟨rfl, N81q, e81⟩ := hQ81
  have N0''' := Fr.app N0'' N81q
  refine own_st (T' := T81) (g' := (mkF m 21 #[.val (.ref a), .val (.int ch)] [(.int (1 : Int32))])) st81 ?_
  refine own_st (T' := T81) (g' := (mkF m 24 #[.val (.ref a), .val (.int ch)] [])) (fun _ k => XS.ifNo X81.here hx rfl (hb hby d23_21) rfl (Jvm.Free.XT.i0_eq_f (by decide)) k) ?_
  refine own_st (T' := T81) (g' := (mkF m 25 #[.val (.ref a), .val (.int ch)] [(.ref a)])) (fun _ k => XS.aloadN X81.here hx rfl (hb hby d23_24) rfl rfl k) ?_
  obtain ⟨T82, X82, e82, st82⟩ := getF X81 hx hZ hown (host := "") (Or.inl (hw _ (List.mem_of_getElem? (i := 92) rfl))) Via.refl e81 Gv (g := (mkF m 25 #[.val (.ref a), .val (.int ch)] [(.ref a)])) rfl rfl (hb hby d23_25)
  refine own_st (T' := T82) (g' := (mkF m 28 #[.val (.ref a), .val (.int ch)] [(.ref t)])) st82 ?_
  refine own_st (T' := T82) (g' := (mkF m 29 #[.val (.ref a), .val (.int ch)] [(.ref a), (.ref t)])) (fun _ k => XS.aloadN X82.here hx rfl (hb hby d23_28) rfl rfl k) ?_
  refine own_st (T' := T82) (g' := (mkF m 30 #[.val (.ref a), .val (.int ch)] [(.ref a), (.ref a), (.ref t)])) (fun _ k => XS.dup X82.here hx rfl (hb hby d23_29) rfl rfl k) ?_
  obtain ⟨T83, X83, e83, st83⟩ := getF X82 hx hZ hown (host := "") (Or.inl (hw _ (List.mem_of_getElem? (i := 137) rfl))) Via.refl e82 Gn (g := (mkF m 30 #[.val (.ref a), .val (.int ch)] [(.ref a), (.ref a), (.ref t)])) rfl rfl (hb hby d23_30)
  refine own_st (T' := T83) (g' := (mkF m 33 #[.val (.ref a), .val (.int ch)] [(.int (0 : Int32)), (.ref a), (.ref t)])) st83 ?_
  refine own_st (T' := T83) (g' := (mkF m 34 #[.val (.ref a), .val (.int ch)] [(.int (0 : Int32)), (.ref a), (.int (0 : Int32)), (.ref t)])) (fun _ k => XS.dupX1 X83.here hx rfl (hb hby d23_33) rfl rfl rfl k) ?_
  refine own_st (T' := T83) (g' := (mkF m 35 #[.val (.ref a), .val (.int ch)] [(.int (1 : Int32)), (.int (0 : Int32)), (.ref a), (.int (0 : Int32)), (.ref t)])) (fun _ k => XS.iconst X83.here hx rfl (hb hby d23_34) k) ?_
  refine own_st (T' := T83) (g' := (mkF m 36 #[.val (.ref a), .val (.int ch)] [(.int ((0 : Int32) + (1 : Int32))), (.ref a), (.int (0 : Int32)), (.ref t)])) (fun _ k => XS.iadd X83.here hx rfl (hb hby d23_35) rfl k) ?_
  rw [show ((0 : Int32) + (1 : Int32)) = (1 : Int32) from rfl]
  obtain ⟨T84, h84, X84, e84, W84, st84⟩ := putF X83 hx hZ hown (host := "") (Or.inl (hw _ (List.mem_of_getElem? (i := 137) rfl))) Via.refl e83 Gn Eb (Or.inl (hw _ (List.mem_of_getElem? (i := 138) rfl))) (hw _ (List.mem_of_getElem? (i := 79) rfl)) (ty := .int) (by decide) rfl rfl (g := (mkF m 36 #[.val (.ref a), .val (.int ch)] [(.int (1 : Int32)), (.ref a), (.int (0 : Int32)), (.ref t)])) rfl rfl (hb hby d23_36)
  have Gv := Gv.other W84 (Or.inr (slot_ne (Or.inl (hw _ (List.mem_of_getElem? (i := 93) rfl))) (Or.inl (hw _ (List.mem_of_getElem? (i := 138) rfl))) (by decide) (t := (.array .byte)) (t' := .int) (by decide) (by decide)))
  have Gc := Gc.other W84 (Or.inr (slot_ne (Or.inl (hw _ (List.mem_of_getElem? (i := 95) rfl))) (Or.inl (hw _ (List.mem_of_getElem? (i := 138) rfl))) (by decide) (t := .byte) (t' := .int) (by decide) (by decide)))
  have Gm := Gm.other W84 (Or.inr (slot_ne (Or.inl (hw _ (List.mem_of_getElem? (i := 249) rfl))) (Or.inl (hw _ (List.mem_of_getElem? (i := 138) rfl))) (by decide) (t := .boolean) (t' := .int) (by decide) (by decide)))
  have Eb := Eb.wr W84
  have Vt := Vt.other W84 (Ne.symm nt)
  have Z0' := Nat.le_trans Z0 (Keep.of_wr W84).1
  have Kp := Kp.wr W84 (Or.inl (List.mem_of_getElem? (i := 0) rfl))
  have N0'''' := Fr.snoc X84 N0''' ga
  have Gn := Gn.same W84
  refine own_st (T' := T84) (g' := (mkF m 39 #[.val (.ref a), .val (.int ch)] [(.int (0 : Int32)), (.ref t)])) st84 ?_
  refine own_st (T' := T84) (g' := (mkF m 40 #[.val (.ref a), .val (.int ch)] [(.int ch), (.int (0 : Int32)), (.ref t)])) (fun _ k => XS.iloadN X84.here hx rfl (hb hby d23_39) rfl k) ?_
  refine own_st (T' := T84) (g' := (mkF m 41 #[.val (.ref a), .val (.int ch)] [(.int (ch.toInt8.toInt32)), (.int (0 : Int32)), (.ref t)])) (fun _ k => XS.i2b X84.here hx rfl (hb hby d23_40) rfl k) ?_
  obtain ⟨T85, h85, X85, e85, W85, V85, st85⟩ := own_stB X84 hx hZ e84 Vt (i := 0) (by decide) (by decide) (g := (mkF m 41 #[.val (.ref a), .val (.int ch)] [(.int (ch.toInt8.toInt32)), (.int (0 : Int32)), (.ref t)])) rfl rfl (hb hby d23_41)
  have Gv := Gv.other W85 (Or.inl nt)
  have Gc := Gc.other W85 (Or.inl nt)
  have Gn := Gn.other W85 (Or.inl nt)
  have Gm := Gm.other W85 (Or.inl nt)
  have Eb := Eb.wr W85
  have Z0'' := Nat.le_trans Z0' (Keep.of_wr W85).1
  have Kp := Kp.wr W85 (Or.inl (List.mem_of_getElem? (i := 1) rfl))
  have N0''''' := Fr.snoc X85 N0'''' gt
  have Vt := V85
  refine own_st (T' := T85) (g' := (mkF m 42 #[.val (.ref a), .val (.int ch)] [])) st85 ?_
  refine own_st (T' := T85) (g' := (mkF m 75 #[.val (.ref a), .val (.int ch)] [])) (fun _ k => XS.goto X85.here hx rfl (pc0 := 42) (pc' := 75) rfl (hb hby d23_42) (by decide) (by decide) k) ?_
  refine own_st (T' := T85) (g' := (mkF m 76 #[.val (.ref a), .val (.int ch)] [(.ref a)])) (fun _ k => XS.aloadN X85.here hx rfl (hb hby d23_75) rfl rfl k) ?_
  exact own_retR X85 hx Bd.returns Bd.notSynchronized e85 rfl rfl (hb hby d23_76) ⟨rfl, N0''''', Kp, Gv, Gc, Gn, Gm, _, Vt, fun j hj => by by_cases u : j = 0 <;> simp only [u, if_true, if_false] <;> first | exact fits_nar_byte _ | exact hf j hj⟩ (by decide) (by decide)
theorem own_pd20 : parseMethodDescriptor "(C)Ljava/lang/AbstractStringBuilder;" = some ⟨[.char], some (.object "java/lang/AbstractStringBuilder")⟩ := by decide +kernel
theorem d22_0 : decode jdk_67_method_14_code 0 = .ok (.aload_n 0, 1) := by decide +kernel
theorem d22_1 : decode jdk_67_method_14_code 1 = .ok (.iload_n 1, 1) := by decide +kernel
theorem d22_2 : decode jdk_67_method_14_code 2 = .ok (.invokespecial 50, 3) := by decide +kernel
theorem d22_5 : decode jdk_67_method_14_code 5 = .ok (.pop, 1) := by decide +kernel
theorem d22_6 : decode jdk_67_method_14_code 6 = .ok (.aload_n 0, 1) := by decide +kernel
theorem d22_7 : decode jdk_67_method_14_code 7 = .ok (.areturn, 1) := by decide +kernel
def own_sba_Q (Z : State) (a : Addr) (t : Addr) (kt : ClassId) (f : Nat → Value) (ch : Int32) (cc : Int32) (h0 : Heap) (n0 : Nat) (v : Option Value) (h : Heap) (L : List Loc) : Prop := v = some (.ref a) ∧ Fr n0 L ∧ Keep h0 h [a, t] ∧ Fld Z h a "java/lang/AbstractStringBuilder" "value" "[B" (.ref t) ∧ Fld Z h a "java/lang/AbstractStringBuilder" "coder" "B" (.int (0 : Int32)) ∧ Fld Z h a "java/lang/AbstractStringBuilder" "count" "I" (.int (1 : Int32)) ∧ Fld Z h a "java/lang/AbstractStringBuilder" "maybeLatin1" "Z" (.int (0 : Int32)) ∧ ∃ f2, own_Av Z h t kt .byte 16 f2 ∧ ∀ j, j < 16 → fits .byte (f2 j) = true
set_option maxRecDepth 65536 in
set_option maxHeartbeats 40000000 in
theorem own_sba (l : Launch) (Z : State) (a0 : Array Value) (hw : ∀ d ∈ tables_1, d.before a0 Z = true) (ws : List Jvm.Cond) (a : Addr) (t : Addr) (kt : ClassId) (f : Nat → Value) (ch : Int32) (cc : Int32) (h0 : Heap) (n0 : Nat) (Z0 : n0 ≤ h0.size) (Gv : Fld Z h0 a "java/lang/AbstractStringBuilder" "value" "[B" (.ref t)) (Gc : Fld Z h0 a "java/lang/AbstractStringBuilder" "coder" "B" (.int (0 : Int32))) (Gn : Fld Z h0 a "java/lang/AbstractStringBuilder" "count" "I" (.int (0 : Int32))) (Gm : Fld Z h0 a "java/lang/AbstractStringBuilder" "maybeLatin1" "Z" (.int (0 : Int32))) (Eb : Exa Z h0 a "java/lang/StringBuilder") (ga : n0 ≤ a) (Vt : own_Av Z h0 t kt .byte 16 f) (hf : ∀ j, j < 16 → fits .byte (f j) = true) (gt : n0 ≤ t) (nt : a ≠ t) (hch : ¬ (255 : Int32) < ch) (SC : Sta Z h0 "java/lang/String" "COMPACT_STRINGS" "Z" (.int cc)) (hcs : ¬ cc = (0 : Int32)) :
    MetFree l (⟨"java/lang/StringBuilder", "append", "(C)Ljava/lang/StringBuilder;"⟩ : MethodName) (head1 (Jvm.Cond.code (⟨"java/lang/StringBuilder", "append", "(C)Ljava/lang/StringBuilder;"⟩ : MethodName) jdk_67_method_14_code 2 (some (.object "java/lang/StringBuilder")) :: ws) ({ frames := 2, cells := 0, slots := 0, locals := 27 } : Room)) (fun aa U0 => aa = #[(.ref a), (.int ch)] ∧ Z.Warmed39 U0.vm ∧ U0.heap = h0) (fun _ _ _ _ _ => True) (fun _ U0 o0 U1 => ∃ v0 L0, o0 = .returned v0 ∧ own_sba_Q Z a t kt f ch cc h0 n0 v0 U1.heap L0 ∧ FrameEnd U0 o0 U1 L0 ({ frames := 2, cells := 0, slots := 0, locals := 27 } : Room).cells ({ frames := 2, cells := 0, slots := 0, locals := 27 } : Room).slots) := by
  refine MetFree.of_bodySF (plainFor_of_name own_pn10) hisR ?_
  intro p e s m args below meth c s₁ Bd hml0 hP hK
  obtain ⟨rfl, hZ, hh⟩ := hP
  have hx := Bd.exec
  have hby := Bd.bytes
  have hml : c.maxLocals = 2 := hml0
  have hown : s.vm.findClass "java/lang/StringBuilder" = some m.cls := findClass_of_methodNamed Bd.named
  have hnm := (name_of_methodNamed Bd.named Bd.method).1
  have X0 : Stand p l e ({ frames := 2, cells := 0, slots := 0, locals := 27 } : Room) s m #[(.ref a), (.int ch)] below meth c s₁ [] 0 0 := Stand.of_body Bd
  have e0 : s₁.heap = h0 := by rw [← hh, Bd.state]; rfl
  have N0 := Fr.nil n0
  show own_Go p e below s (own_sba_Q Z a t kt f ch cc h0 n0) 0 0 s₁ (entryFrame m #[(.ref a), (.int ch)] 2)
  rw [show entryFrame m #[(.ref a), (.int ch)] 2 = mkF m 0 #[.val (.ref a), .val (.int ch)] [] from by first | (simp [entryFrame, mkF, argsToLocals, Value.category]; done) | rfl]
  have Kp := Keep.refl h0 [a, t]
  refine own_st (T' := s₁) (g' := (mkF m 1 #[.val (.ref a), .val (.int ch)] [(.ref a)])) (fun _ k => XS.aloadN X0.here hx rfl (hb hby d22_0) rfl rfl k) ?_
  refine own_st (T' := s₁) (g' := (mkF m 2 #[.val (.ref a), .val (.int ch)] [(.int ch), (.ref a)])) (fun _ k => XS.iloadN X0.here hx rfl (hb hby d22_1) rfl k) ?_
  obtain ⟨vq86, _, ⟨T86, L86, k86, n86⟩, -, X86, ⟨Lc86, hQ86, l86, y86, z86⟩, st86⟩ := superBack X0 hx hZ (y := (⟨"java/lang/AbstractStringBuilder", "append", "(C)Ljava/lang/AbstractStringBuilder;"⟩ : MethodName)) hown (hw _ (List.mem_of_getElem? (i := 132) rfl)) (own_same (hw _ (List.mem_of_getElem? (i := 133) rfl)) (own_face (y := (⟨"java/lang/AbstractStringBuilder", "ensureCapacityInternal", "(I)V"⟩ : MethodName)) (hw _ (List.mem_of_getElem? (i := 142) rfl))) (by decide)) (hw _ (List.mem_of_getElem? (i := 133) rfl)) (hw _ (List.mem_of_getElem? (i := 134) rfl)) (by decide) (backOf (W := 0) (own_asa l Z a0 hw [] a t kt f ch cc h0 n0 Z0 Gv Gc Gn Gm Eb ga Vt hf gt nt hch SC hcs) hZ (hw _ (List.mem_of_getElem? (i := 136) rfl)) (hw _ (List.mem_of_getElem? (i := 88) rfl)) (by decide) (by decide)) e0 (Ins.self Eb) (g := (mkF m 2 #[.val (.ref a), .val (.int ch)] [(.int ch), (.ref a)])) rfl (by rw [hml]; rfl) (hw _ (List.mem_of_getElem? (i := 136) rfl)) (argsL := [(.int ch)]) (rest := []) (lenOf own_pd20 rfl) rfl (by show 2 * 0 + _ ≤ _; exact Nat.le_of_eq rfl) (hb hby d22_2) (fun _ _ => ⟨rfl, e0, (by decide : 0 + 0 ≤ _), (by decide : 0 + 0 ≤ _)⟩)
  dsimp only [Pt.U, Pt.locs, Pt.cells, Pt.slots] at X86 l86 y86 z86 st86 hQ86
  subst l86 y86 z86
  obtain ⟨rfl, N86q, K86, Gv, Gc, Gn, Gm, f2, Vt, hf2⟩ := hQ86
  have N0' := Fr.app N0 N86q
  have Eb := Eb.keep K86
  have Z0' := Nat.le_trans Z0 K86.1
  have Kp := Kp.trans K86 (allS (P := fun x => x ∈ [a, t] ∨ h0.size ≤ x) (Or.inl (List.mem_of_getElem? (i := 0) rfl)) (allS (P := fun x => x ∈ [a, t] ∨ h0.size ≤ x) (Or.inl (List.mem_of_getElem? (i := 1) rfl)) all0))
  refine own_tr (T' := T86) (g' := (mkF m 5 #[.val (.ref a), .val (.int ch)] [(.ref a)])) st86 ?_
  refine own_st (T' := T86) (g' := (mkF m 6 #[.val (.ref a), .val (.int ch)] [])) (fun _ k => XS.pop X86.here hx rfl (hb hby d22_5) rfl rfl k) ?_
  refine own_st (T' := T86) (g' := (mkF m 7 #[.val (.ref a), .val (.int ch)] [(.ref a)])) (fun _ k => XS.aloadN X86.here hx rfl (hb hby d22_6) rfl rfl k) ?_
  exact own_retR X86 hx Bd.returns Bd.notSynchronized rfl rfl rfl (hb hby d22_7) ⟨rfl, N0', Kp, Gv, Gc, Gn, Gm, f2, Vt, hf2⟩ (by decide) (by decide)
theorem d35_0 : decode jdk_65_method_131_code 0 = .ok (.iload_n 1, 1) := by decide +kernel
theorem d35_1 : decode jdk_65_method_131_code 1 = .ok (.iload_n 0, 1) := by decide +kernel
theorem d35_2 : decode jdk_65_method_131_code 2 = .ok (.if_icmp .ge 35, 3) := by decide +kernel
theorem d35_37 : decode jdk_65_method_131_code 37 = .ok (.return_, 1) := by decide +kernel
theorem own_pn11 : plainName "java/util/Arrays" = true := by first | (simp [plainName, overriddenIn]; done) | decide +kernel
def own_cl_Q (Z : State)  (h0 : Heap) (n0 : Nat) (v : Option Value) (h : Heap) (L : List Loc) : Prop := v = none ∧ Fr n0 L ∧ h = h0
set_option maxRecDepth 65536 in
set_option maxHeartbeats 40000000 in
theorem own_cl (l : Launch) (Z : State) (a0 : Array Value) (hw : ∀ d ∈ tables_1, d.before a0 Z = true) (ws : List Jvm.Cond)  (h0 : Heap) (n0 : Nat) (Z0 : n0 ≤ h0.size) :
    MetFree l (⟨"java/util/Arrays", "checkLength", "(II)V"⟩ : MethodName) (head1 (Jvm.Cond.code (⟨"java/util/Arrays", "checkLength", "(II)V"⟩ : MethodName) jdk_65_method_131_code 2 none :: ws) ({ frames := 0, cells := 0, slots := 0, locals := 0 } : Room)) (fun aa U0 => aa = #[(.int (0 : Int32)), (.int (1 : Int32))] ∧ Z.Warmed39 U0.vm ∧ U0.heap = h0) (fun _ _ _ _ _ => True) (fun _ U0 o0 U1 => ∃ v0 L0, o0 = .returned v0 ∧ own_cl_Q Z  h0 n0 v0 U1.heap L0 ∧ FrameEnd U0 o0 U1 L0 ({ frames := 0, cells := 0, slots := 0, locals := 0 } : Room).cells ({ frames := 0, cells := 0, slots := 0, locals := 0 } : Room).slots) := by
  refine MetFree.of_bodySF (plainFor_of_name own_pn11) hisR ?_
  intro p e s m args below meth c s₁ Bd hml0 hP hK
  obtain ⟨rfl, hZ, hh⟩ := hP
  have hx := Bd.exec
  have hby := Bd.bytes
  have hml : c.maxLocals = 2 := hml0
  have hown : s.vm.findClass "java/util/Arrays" = some m.cls := findClass_of_methodNamed Bd.named
  have hnm := (name_of_methodNamed Bd.named Bd.method).1
  have X0 : Stand p l e ({ frames := 0, cells := 0, slots := 0, locals := 0 } : Room) s m #[(.int (0 : Int32)), (.int (1 : Int32))] below meth c s₁ [] 0 0 := Stand.of_body Bd
  have e0 : s₁.heap = h0 := by rw [← hh, Bd.state]; rfl
  have N0 := Fr.nil n0
  show own_Go p e below s (own_cl_Q Z  h0 n0) 0 0 s₁ (entryFrame m #[(.int (0 : Int32)), (.int (1 : Int32))] 2)
  rw [show entryFrame m #[(.int (0 : Int32)), (.int (1 : Int32))] 2 = mkF m 0 #[.val (.int (0 : Int32)), .val (.int (1 : Int32))] [] from by first | (simp [entryFrame, mkF, argsToLocals, Value.category]; done) | rfl]
  refine own_st (T' := s₁) (g' := (mkF m 1 #[.val (.int (0 : Int32)), .val (.int (1 : Int32))] [(.int (1 : Int32))])) (fun _ k => XS.iloadN X0.here hx rfl (hb hby d35_0) rfl k) ?_
  refine own_st (T' := s₁) (g' := (mkF m 2 #[.val (.int (0 : Int32)), .val (.int (1 : Int32))] [(.int (0 : Int32)), (.int (1 : Int32))])) (fun _ k => XS.iloadN X0.here hx rfl (hb hby d35_1) rfl k) ?_
  refine own_st (T' := s₁) (g' := (mkF m 37 #[.val (.int (0 : Int32)), .val (.int (1 : Int32))] [])) (fun _ k => XS.icmpYes X0.here hx rfl (pc0 := 2) (pc' := 37) rfl (hb hby d35_2) rfl (Jvm.Free.XT.ii_ge_t (by decide)) (by decide) (by decide) k) ?_
  exact own_ret0 X0 hx Bd.returns Bd.notSynchronized e0 (hb hby d35_37) ⟨rfl, N0, rfl⟩ (by decide) (by decide)
theorem d34_0 : decode jdk_65_method_133_code 0 = .ok (.iload_n 1, 1) := by decide +kernel
theorem d34_1 : decode jdk_65_method_133_code 1 = .ok (.iload_n 2, 1) := by decide +kernel
theorem d34_2 : decode jdk_65_method_133_code 2 = .ok (.invokestatic 343, 3) := by decide +kernel
theorem d34_5 : decode jdk_65_method_133_code 5 = .ok (.iload_n 2, 1) := by decide +kernel
theorem d34_6 : decode jdk_65_method_133_code 6 = .ok (.iload_n 1, 1) := by decide +kernel
theorem d34_7 : decode jdk_65_method_133_code 7 = .ok (.isub, 1) := by decide +kernel
theorem d34_8 : decode jdk_65_method_133_code 8 = .ok (.istore_n 3, 1) := by decide +kernel
theorem d34_9 : decode jdk_65_method_133_code 9 = .ok (.iload_n 3, 1) := by decide +kernel
theorem d34_10 : decode jdk_65_method_133_code 10 = .ok (.newarray .byte, 2) := by decide +kernel
theorem d34_12 : decode jdk_65_method_133_code 12 = .ok (.astore 4, 2) := by decide +kernel
theorem d34_14 : decode jdk_65_method_133_code 14 = .ok (.aload_n 0, 1) := by decide +kernel
theorem d34_15 : decode jdk_65_method_133_code 15 = .ok (.iload_n 1, 1) := by decide +kernel
theorem d34_16 : decode jdk_65_method_133_code 16 = .ok (.aload 4, 2) := by decide +kernel
theorem d34_18 : decode jdk_65_method_133_code 18 = .ok (.iconst 0, 1) := by decide +kernel
theorem d34_19 : decode jdk_65_method_133_code 19 = .ok (.aload_n 0, 1) := by decide +kernel
theorem d34_20 : decode jdk_65_method_133_code 20 = .ok (.arraylength, 1) := by decide +kernel
theorem d34_21 : decode jdk_65_method_133_code 21 = .ok (.iload_n 1, 1) := by decide +kernel
theorem d34_22 : decode jdk_65_method_133_code 22 = .ok (.isub, 1) := by decide +kernel
theorem d34_23 : decode jdk_65_method_133_code 23 = .ok (.iload_n 3, 1) := by decide +kernel
theorem d34_24 : decode jdk_65_method_133_code 24 = .ok (.invokestatic 304, 3) := by decide +kernel
theorem d34_27 : decode jdk_65_method_133_code 27 = .ok (.invokestatic 150, 3) := by decide +kernel
theorem d34_30 : decode jdk_65_method_133_code 30 = .ok (.aload 4, 2) := by decide +kernel
theorem d34_32 : decode jdk_65_method_133_code 32 = .ok (.areturn, 1) := by decide +kernel
def own_corb_Q (Z : State) (t : Addr) (kt : ClassId) (f : Nat → Value) (h0 : Heap) (n0 : Nat) (v : Option Value) (h : Heap) (L : List Loc) : Prop := ∃ d kd f2, v = some (.ref d) ∧ Fr n0 L ∧ Keep h0 h [] ∧ h0.size ≤ d ∧ own_Av Z h d kd .byte 1 f2
set_option maxRecDepth 65536 in
set_option maxHeartbeats 40000000 in
theorem own_corb (l : Launch) (Z : State) (a0 : Array Value) (hw : ∀ d ∈ tables_1, d.before a0 Z = true) (ws : List Jvm.Cond) (t : Addr) (kt : ClassId) (f : Nat → Value) (h0 : Heap) (n0 : Nat) (Z0 : n0 ≤ h0.size) (Vt : own_Av Z h0 t kt .byte 16 f) (hf : ∀ j, j < 16 → fits .byte (f j) = true) :
    MetFree l (⟨"java/util/Arrays", "copyOfRangeByte", "([BII)[B"⟩ : MethodName) (head1 (Jvm.Cond.code (⟨"java/util/Arrays", "copyOfRangeByte", "([BII)[B"⟩ : MethodName) jdk_65_method_133_code 5 (some (.array .byte)) :: ws) ({ frames := 1, cells := 1, slots := 1, locals := 40 } : Room)) (fun aa U0 => aa = #[(.ref t), (.int (0 : Int32)), (.int (1 : Int32))] ∧ Z.Warmed39 U0.vm ∧ U0.heap = h0) (fun _ _ _ _ _ => True) (fun _ U0 o0 U1 => ∃ v0 L0, o0 = .returned v0 ∧ own_corb_Q Z t kt f h0 n0 v0 U1.heap L0 ∧ FrameEnd U0 o0 U1 L0 ({ frames := 1, cells := 1, slots := 1, locals := 40 } : Room).cells ({ frames := 1, cells := 1, slots := 1, locals := 40 } : Room).slots) := by
  refine MetFree.of_bodySF (plainFor_of_name own_pn11) hisR ?_
  intro p e s m args below meth c s₁ Bd hml0 hP hK
  obtain ⟨rfl, hZ, hh⟩ := hP
  have hx := Bd.exec
  have hby := Bd.bytes
  have hml : c.maxLocals = 5 := hml0
  have hown : s.vm.findClass "java/util/Arrays" = some m.cls := findClass_of_methodNamed Bd.named
  have hnm := (name_of_methodNamed Bd.named Bd.method).1
  have X0 : Stand p l e ({ frames := 1, cells := 1, slots := 1, locals := 40 } : Room) s m #[(.ref t), (.int (0 : Int32)), (.int (1 : Int32))] below meth c s₁ [] 0 0 := Stand.of_body Bd
  have e0 : s₁.heap = h0 := by rw [← hh, Bd.state]; rfl
  have N0 := Fr.nil n0
  show own_Go p e below s (own_corb_Q Z t kt f h0 n0) 1 1 s₁ (entryFrame m #[(.ref t), (.int (0 : Int32)), (.int (1 : Int32))] 5)
  rw [show entryFrame m #[(.ref t), (.int (0 : Int32)), (.int (1 : Int32))] 5 = mkF m 0 #[.val (.ref t), .val (.int (0 : Int32)), .val (.int (1 : Int32)), .unset, .unset] [] from by first | (simp [entryFrame, mkF, argsToLocals, Value.category]; done) | rfl]
  have Kp := Keep.refl h0 []
  refine own_st (T' := s₁) (g' := (mkF m 1 #[.val (.ref t), .val (.int (0 : Int32)), .val (.int (1 : Int32)), .unset, .unset] [(.int (0 : Int32))])) (fun _ k => XS.iloadN X0.here hx rfl (hb hby d34_0) rfl k) ?_
  refine own_st (T' := s₁) (g' := (mkF m 2 #[.val (.ref t), .val (.int (0 : Int32)), .val (.int (1 : Int32)), .unset, .unset] [(.int (1 : Int32)), (.int (0 : Int32))])) (fun _ k => XS.iloadN X0.here hx rfl (hb hby d34_1) rfl k) ?_
  obtain ⟨vq87, _, ⟨T87, L87, k87, n87⟩, -, X87, ⟨Lc87, hQ87, l87, y87, z87⟩, st87⟩ := Jvm.LawKit.callS X0 hx (y := (⟨"java/util/Arrays", "checkLength", "(II)V"⟩ : MethodName)) hown (mvT hZ (hw _ (List.mem_of_getElem? (i := 189) rfl))) (mvT hZ (hw _ (List.mem_of_getElem? (i := 190) rfl))) (mvT hZ (hw _ (List.mem_of_getElem? (i := 184) rfl))) (mvT hZ (hw _ (List.mem_of_getElem? (i := 191) rfl))) (by decide) (backOf (W := 0) (own_cl l Z a0 hw []  h0 n0 Z0 ) hZ (hw _ (List.mem_of_getElem? (i := 191) rfl)) (hw _ (List.mem_of_getElem? (i := 184) rfl)) (by decide) (by decide)) (g := (mkF m 2 #[.val (.ref t), .val (.int (0 : Int32)), .val (.int (1 : Int32)), .unset, .unset] [(.int (1 : Int32)), (.int (0 : Int32))])) rfl (by rw [hml]; rfl) (argsL := [(.int (0 : Int32)), (.int (1 : Int32))]) (rest := []) (lenOf own_pd10 rfl) rfl (by show 2 * 0 + _ ≤ _; exact Nat.le_of_eq rfl) (hb hby d34_2) (fun _ _ => ⟨rfl, e0, (by decide : 0 + 0 ≤ _), (by decide : 0 + 0 ≤ _)⟩)
  dsimp only [Pt.U, Pt.locs, Pt.cells, Pt.slots] at X87 l87 y87 z87 st87 hQ87
  subst l87 y87 z87
  obtain ⟨rfl, N87q, e87⟩ := hQ87
  have N0' := Fr.app N0 N87q
  refine own_st (T' := T87) (g' := (mkF m 5 #[.val (.ref t), .val (.int (0 : Int32)), .val (.int (1 : Int32)), .unset, .unset] [])) st87 ?_
  refine own_st (T' := T87) (g' := (mkF m 6 #[.val (.ref t), .val (.int (0 : Int32)), .val (.int (1 : Int32)), .unset, .unset] [(.int (1 : Int32))])) (fun _ k => XS.iloadN X87.here hx rfl (hb hby d34_5) rfl k) ?_
  refine own_st (T' := T87) (g' := (mkF m 7 #[.val (.ref t), .val (.int (0 : Int32)), .val (.int (1 : Int32)), .unset, .unset] [(.int (0 : Int32)), (.int (1 : Int32))])) (fun _ k => XS.iloadN X87.here hx rfl (hb hby d34_6) rfl k) ?_
  refine own_st (T' := T87) (g' := (mkF m 8 #[.val (.ref t), .val (.int (0 : Int32)), .val (.int (1 : Int32)), .unset, .unset] [(.int ((1 : Int32) - (0 : Int32)))])) (fun _ k => XS.isub X87.here hx rfl (hb hby d34_7) rfl k) ?_
  refine own_st (T' := T87) (g' := (mkF m 9 #[.val (.ref t), .val (.int (0 : Int32)), .val (.int (1 : Int32)), .val (.int ((1 : Int32) - (0 : Int32))), .unset] [])) (fun _ k => XS.istoreN X87.here hx rfl (hb hby d34_8) rfl (l' := #[.val (.ref t), .val (.int (0 : Int32)), .val (.int (1 : Int32)), .val (.int ((1 : Int32) - (0 : Int32))), .unset]) rfl k) ?_
  refine own_st (T' := T87) (g' := (mkF m 10 #[.val (.ref t), .val (.int (0 : Int32)), .val (.int (1 : Int32)), .val (.int ((1 : Int32) - (0 : Int32))), .unset] [(.int ((1 : Int32) - (0 : Int32)))])) (fun _ k => XS.iloadN X87.here hx rfl (hb hby d34_9) rfl k) ?_
  rw [show ((1 : Int32) - (0 : Int32)) = (1 : Int32) from rfl]
  obtain ⟨T88, h88, k88, X88, e88, E88, A88, st88⟩ := newP X87 hx hZ (hw _ (List.mem_of_getElem? (i := 3) rfl)) e87 (g := (mkF m 10 #[.val (.ref t), .val (.int (0 : Int32)), .val (.int (1 : Int32)), .val (.int (1 : Int32)), .unset] [(.int (1 : Int32))])) rfl (hb hby d34_10) rfl (by decide) (cap := 1) (by decide) (by decide) (by decide) (by decide)
  obtain ⟨d, gd⟩ : ∃ z, z = h0.size := ⟨_, rfl⟩
  rw [← gd] at A88 st88
  have ne_t_d : t ≠ d := own_ne Vt.lt gd
  have ge_d : n0 ≤ d := own_ge Z0 gd
  have sz_d : h0.size ≤ d := own_ge Kp.1 gd
  have Vt := Vt.ext E88
  have Z0' := Nat.le_trans Z0 E88.1
  have Kp := Kp.ext E88
  have V_d := own_Av.new (n := 1) A88 rfl
  refine own_st (T' := T88) (g' := (mkF m 12 #[.val (.ref t), .val (.int (0 : Int32)), .val (.int (1 : Int32)), .val (.int (1 : Int32)), .unset] [(.ref d)])) st88 ?_
  refine own_st (T' := T88) (g' := (mkF m 14 #[.val (.ref t), .val (.int (0 : Int32)), .val (.int (1 : Int32)), .val (.int (1 : Int32)), .val (.ref d)] [])) (fun _ k => XS.astore X88.here hx rfl (hb hby d34_12) rfl rfl (l' := #[.val (.ref t), .val (.int (0 : Int32)), .val (.int (1 : Int32)), .val (.int (1 : Int32)), .val (.ref d)]) rfl k) ?_
  refine own_st (T' := T88) (g' := (mkF m 15 #[.val (.ref t), .val (.int (0 : Int32)), .val (.int (1 : Int32)), .val (.int (1 : Int32)), .val (.ref d)] [(.ref t)])) (fun _ k => XS.aloadN X88.here hx rfl (hb hby d34_14) rfl rfl k) ?_
  refine own_st (T' := T88) (g' := (mkF m 16 #[.val (.ref t), .val (.int (0 : Int32)), .val (.int (1 : Int32)), .val (.int (1 : Int32)), .val (.ref d)] [(.int (0 : Int32)), (.ref t)])) (fun _ k => XS.iloadN X88.here hx rfl (hb hby d34_15) rfl k) ?_
  refine own_st (T' := T88) (g' := (mkF m 18 #[.val (.ref t), .val (.int (0 : Int32)), .val (.int (1 : Int32)), .val (.int (1 : Int32)), .val (.ref d)] [(.ref d), (.int (0 : Int32)), (.ref t)])) (fun _ k => XS.aload X88.here hx rfl (hb hby d34_16) rfl rfl k) ?_
  refine own_st (T' := T88) (g' := (mkF m 19 #[.val (.ref t), .val (.int (0 : Int32)), .val (.int (1 : Int32)), .val (.int (1 : Int32)), .val (.ref d)] [(.int (0 : Int32)), (.ref d), (.int (0 : Int32)), (.ref t)])) (fun _ k => XS.iconst X88.here hx rfl (hb hby d34_18) k) ?_
  refine own_st (T' := T88) (g' := (mkF m 20 #[.val (.ref t), .val (.int (0 : Int32)), .val (.int (1 : Int32)), .val (.int (1 : Int32)), .val (.ref d)] [(.ref t), (.int (0 : Int32)), (.ref d), (.int (0 : Int32)), (.ref t)])) (fun _ k => XS.aloadN X88.here hx rfl (hb hby d34_19) rfl rfl k) ?_
  refine own_st (T' := T88) (g' := (mkF m 21 #[.val (.ref t), .val (.int (0 : Int32)), .val (.int (1 : Int32)), .val (.int (1 : Int32)), .val (.ref d)] [(.int (16 : Int32)), (.int (0 : Int32)), (.ref d), (.int (0 : Int32)), (.ref t)])) (own_len X88 hx hZ e88 Vt (z := (16 : Int32)) rfl (g := (mkF m 20 #[.val (.ref t), .val (.int (0 : Int32)), .val (.int (1 : Int32)), .val (.int (1 : Int32)), .val (.ref d)] [(.ref t), (.int (0 : Int32)), (.ref d), (.int (0 : Int32)), (.ref t)])) rfl rfl (hb hby d34_20)) ?_
  refine own_st (T' := T88) (g' := (mkF m 22 #[.val (.ref t), .val (.int (0 : Int32)), .val (.int (1 : Int32)), .val (.int (1 : Int32)), .val (.ref d)] [(.int (0 : Int32)), (.int (16 : Int32)), (.int (0 : Int32)), (.ref d), (.int (0 : Int32)), (.ref t)])) (fun _ k => XS.iloadN X88.here hx rfl (hb hby d34_21) rfl k) ?_
  refine own_st (T' := T88) (g' := (mkF m 23 #[.val (.ref t), .val (.int (0 : Int32)), .val (.int (1 : Int32)), .val (.int (1 : Int32)), .val (.ref d)] [(.int ((16 : Int32) - (0 : Int32))), (.int (0 : Int32)), (.ref d), (.int (0 : Int32)), (.ref t)])) (fun _ k => XS.isub X88.here hx rfl (hb hby d34_22) rfl k) ?_
  refine own_st (T' := T88) (g' := (mkF m 24 #[.val (.ref t), .val (.int (0 : Int32)), .val (.int (1 : Int32)), .val (.int (1 : Int32)), .val (.ref d)] [(.int (1 : Int32)), (.int ((16 : Int32) - (0 : Int32))), (.int (0 : Int32)), (.ref d), (.int (0 : Int32)), (.ref t)])) (fun _ k => XS.iloadN X88.here hx rfl (hb hby d34_23) rfl k) ?_
  rw [show ((16 : Int32) - (0 : Int32)) = (16 : Int32) from rfl]
  obtain ⟨vq89, _, ⟨T89, L89, k89, n89⟩, -, X89, ⟨Lc89, hQ89, l89, y89, z89⟩, st89⟩ := Jvm.LawKit.callS X88 hx (y := (⟨"java/lang/Math", "min", "(II)I"⟩ : MethodName)) hown (mvT hZ (hw _ (List.mem_of_getElem? (i := 192) rfl))) (mvT hZ (hw _ (List.mem_of_getElem? (i := 193) rfl))) (mvT hZ (hw _ (List.mem_of_getElem? (i := 194) rfl))) (mvT hZ (hw _ (List.mem_of_getElem? (i := 195) rfl))) (by decide) (backOf (W := 4) (own_min l Z a0 hw [] (16 : Int32) (1 : Int32) h88 n0 Z0' ) hZ (hw _ (List.mem_of_getElem? (i := 195) rfl)) (hw _ (List.mem_of_getElem? (i := 194) rfl)) (by decide) (by decide)) (g := (mkF m 24 #[.val (.ref t), .val (.int (0 : Int32)), .val (.int (1 : Int32)), .val (.int (1 : Int32)), .val (.ref d)] [(.int (1 : Int32)), (.int (16 : Int32)), (.int (0 : Int32)), (.ref d), (.int (0 : Int32)), (.ref t)])) rfl (by rw [hml]; rfl) (argsL := [(.int (16 : Int32)), (.int (1 : Int32))]) (rest := [(.int (0 : Int32)), (.ref d), (.int (0 : Int32)), (.ref t)]) (lenOf own_pd4 rfl) rfl (by show 2 * 0 + _ ≤ _; exact Nat.le_of_eq rfl) (hb hby d34_24) (fun _ _ => ⟨rfl, e88, (by decide : ((0 + 0) + 1) + 0 ≤ _), (by decide : ((0 + 0) + 1) + 0 ≤ _)⟩)
  dsimp only [Pt.U, Pt.locs, Pt.cells, Pt.slots] at X89 l89 y89 z89 st89 hQ89
  subst l89 y89 z89
  obtain ⟨rfl, N89q, e89⟩ := hQ89
  have N0'' := Fr.app N0' N89q
  refine own_st (T' := T89) (g' := (mkF m 27 #[.val (.ref t), .val (.int (0 : Int32)), .val (.int (1 : Int32)), .val (.int (1 : Int32)), .val (.ref d)] [(.int (if (1 : Int32) < (16 : Int32) then (1 : Int32) else (16 : Int32))), (.int (0 : Int32)), (.ref d), (.int (0 : Int32)), (.ref t)])) st89 ?_
  rw [show (if (1 : Int32) < (16 : Int32) then (1 : Int32) else (16 : Int32)) = (1 : Int32) from rfl]
  obtain ⟨T90, h90, L90, X90, e90, N90q, K90, ⟨f90, V90⟩, st90⟩ := own_cpB X89 hx hZ hown (hw _ (List.mem_of_getElem? (i := 196) rfl)) (hw _ (List.mem_of_getElem? (i := 199) rfl)) (hw _ (List.mem_of_getElem? (i := 197) rfl)) (hw _ (List.mem_of_getElem? (i := 198) rfl)) e89 Vt V_d (za := (16 : Int32)) (zb := (1 : Int32)) (by decide) (by decide) (by decide) (by decide) hf (fun _ _ => rfl) (sp := (0 : Int32)) (dp := (0 : Int32)) (nn := (1 : Int32)) (by decide) (by decide) (by decide) (by decide) (by decide) N0'' ge_d (g := (mkF m 27 #[.val (.ref t), .val (.int (0 : Int32)), .val (.int (1 : Int32)), .val (.int (1 : Int32)), .val (.ref d)] [(.int (1 : Int32)), (.int (0 : Int32)), (.ref d), (.int (0 : Int32)), (.ref t)])) rfl (by rw [hml]; rfl) rfl (hb hby d34_27) (by decide) (W := 0) (by show 2 * 0 + _ ≤ _; exact Nat.le_of_eq rfl) (by decide)
  have Vt := Vt.keep K90 (ninS ne_t_d nin0)
  have Z0'' := Nat.le_trans Z0' K90.1
  have Kp := Kp.trans K90 (allS (P := fun x => x ∈ [] ∨ h0.size ≤ x) (Or.inr sz_d) all0)
  have V_d := V90
  refine own_st (T' := T90) (g' := (mkF m 30 #[.val (.ref t), .val (.int (0 : Int32)), .val (.int (1 : Int32)), .val (.int (1 : Int32)), .val (.ref d)] [])) st90 ?_
  refine own_st (T' := T90) (g' := (mkF m 32 #[.val (.ref t), .val (.int (0 : Int32)), .val (.int (1 : Int32)), .val (.int (1 : Int32)), .val (.ref d)] [(.ref d)])) (fun _ k => XS.aload X90.here hx rfl (hb hby d34_30) rfl rfl k) ?_
  exact own_retR X90 hx Bd.returns Bd.notSynchronized e90 rfl rfl (hb hby d34_32) ⟨d, _, _, rfl, N90q, Kp, sz_d, V_d⟩ (by decide) (by decide)
theorem own_pd21 : parseMethodDescriptor "([BII)[B" = some ⟨[(.array .byte), .int, .int], some (.array .byte)⟩ := by decide +kernel
theorem d33_0 : decode jdk_65_method_132_code 0 = .ok (.iload_n 1, 1) := by decide +kernel
theorem d33_1 : decode jdk_65_method_132_code 1 = .ok (.ifCond .ne 9, 3) := by decide +kernel
theorem d33_4 : decode jdk_65_method_132_code 4 = .ok (.iload_n 2, 1) := by decide +kernel
theorem d33_5 : decode jdk_65_method_132_code 5 = .ok (.aload_n 0, 1) := by decide +kernel
theorem d33_6 : decode jdk_65_method_132_code 6 = .ok (.arraylength, 1) := by decide +kernel
theorem d33_7 : decode jdk_65_method_132_code 7 = .ok (.if_icmp .eq 10, 3) := by decide +kernel
theorem d33_10 : decode jdk_65_method_132_code 10 = .ok (.aload_n 0, 1) := by decide +kernel
theorem d33_11 : decode jdk_65_method_132_code 11 = .ok (.iload_n 1, 1) := by decide +kernel
theorem d33_12 : decode jdk_65_method_132_code 12 = .ok (.iload_n 2, 1) := by decide +kernel
theorem d33_13 : decode jdk_65_method_132_code 13 = .ok (.invokestatic 339, 3) := by decide +kernel
theorem d33_16 : decode jdk_65_method_132_code 16 = .ok (.areturn, 1) := by decide +kernel
def own_cor_Q (Z : State) (t : Addr) (kt : ClassId) (f : Nat → Value) (h0 : Heap) (n0 : Nat) (v : Option Value) (h : Heap) (L : List Loc) : Prop := ∃ d kd f2, v = some (.ref d) ∧ Fr n0 L ∧ Keep h0 h [] ∧ h0.size ≤ d ∧ own_Av Z h d kd .byte 1 f2
set_option maxRecDepth 65536 in
set_option maxHeartbeats 40000000 in
theorem own_cor (l : Launch) (Z : State) (a0 : Array Value) (hw : ∀ d ∈ tables_1, d.before a0 Z = true) (ws : List Jvm.Cond) (t : Addr) (kt : ClassId) (f : Nat → Value) (h0 : Heap) (n0 : Nat) (Z0 : n0 ≤ h0.size) (Vt : own_Av Z h0 t kt .byte 16 f) (hf : ∀ j, j < 16 → fits .byte (f j) = true) :
    MetFree l (⟨"java/util/Arrays", "copyOfRange", "([BII)[B"⟩ : MethodName) (head1 (Jvm.Cond.code (⟨"java/util/Arrays", "copyOfRange", "([BII)[B"⟩ : MethodName) jdk_65_method_132_code 3 (some (.array .byte)) :: ws) ({ frames := 2, cells := 1, slots := 1, locals := 56 } : Room)) (fun aa U0 => aa = #[(.ref t), (.int (0 : Int32)), (.int (1 : Int32))] ∧ Z.Warmed39 U0.vm ∧ U0.heap = h0) (fun _ _ _ _ _ => True) (fun _ U0 o0 U1 => ∃ v0 L0, o0 = .returned v0 ∧ own_cor_Q Z t kt f h0 n0 v0 U1.heap L0 ∧ FrameEnd U0 o0 U1 L0 ({ frames := 2, cells := 1, slots := 1, locals := 56 } : Room).cells ({ frames := 2, cells := 1, slots := 1, locals := 56 } : Room).slots) := by
  refine MetFree.of_bodySF (plainFor_of_name own_pn11) hisR ?_
  intro p e s m args below meth c s₁ Bd hml0 hP hK
  obtain ⟨rfl, hZ, hh⟩ := hP
  have hx := Bd.exec
  have hby := Bd.bytes
  have hml : c.maxLocals = 3 := hml0
  have hown : s.vm.findClass "java/util/Arrays" = some m.cls := findClass_of_methodNamed Bd.named
  have hnm := (name_of_methodNamed Bd.named Bd.method).1
  have X0 : Stand p l e ({ frames := 2, cells := 1, slots := 1, locals := 56 } : Room) s m #[(.ref t), (.int (0 : Int32)), (.int (1 : Int32))] below meth c s₁ [] 0 0 := Stand.of_body Bd
  have e0 : s₁.heap = h0 := by rw [← hh, Bd.state]; rfl
  have N0 := Fr.nil n0
  show own_Go p e below s (own_cor_Q Z t kt f h0 n0) 1 1 s₁ (entryFrame m #[(.ref t), (.int (0 : Int32)), (.int (1 : Int32))] 3)
  rw [show entryFrame m #[(.ref t), (.int (0 : Int32)), (.int (1 : Int32))] 3 = mkF m 0 #[.val (.ref t), .val (.int (0 : Int32)), .val (.int (1 : Int32))] [] from by first | (simp [entryFrame, mkF, argsToLocals, Value.category]; done) | rfl]
  have Kp := Keep.refl h0 []
  refine own_st (T' := s₁) (g' := (mkF m 1 #[.val (.ref t), .val (.int (0 : Int32)), .val (.int (1 : Int32))] [(.int (0 : Int32))])) (fun _ k => XS.iloadN X0.here hx rfl (hb hby d33_0) rfl k) ?_
  refine own_st (T' := s₁) (g' := (mkF m 4 #[.val (.ref t), .val (.int (0 : Int32)), .val (.int (1 : Int32))] [])) (fun _ k => XS.ifNo X0.here hx rfl (hb hby d33_1) rfl (Jvm.Free.XT.i0_ne_f rfl) k) ?_
  refine own_st (T' := s₁) (g' := (mkF m 5 #[.val (.ref t), .val (.int (0 : Int32)), .val (.int (1 : Int32))] [(.int (1 : Int32))])) (fun _ k => XS.iloadN X0.here hx rfl (hb hby d33_4) rfl k) ?_
  refine own_st (T' := s₁) (g' := (mkF m 6 #[.val (.ref t), .val (.int (0 : Int32)), .val (.int (1 : Int32))] [(.ref t), (.int (1 : Int32))])) (fun _ k => XS.aloadN X0.here hx rfl (hb hby d33_5) rfl rfl k) ?_
  refine own_st (T' := s₁) (g' := (mkF m 7 #[.val (.ref t), .val (.int (0 : Int32)), .val (.int (1 : Int32))] [(.int (16 : Int32)), (.int (1 : Int32))])) (own_len X0 hx hZ e0 Vt (z := (16 : Int32)) rfl (g := (mkF m 6 #[.val (.ref t), .val (.int (0 : Int32)), .val (.int (1 : Int32))] [(.ref t), (.int (1 : Int32))])) rfl rfl (hb hby d33_6)) ?_
  refine own_st (T' := s₁) (g' := (mkF m 10 #[.val (.ref t), .val (.int (0 : Int32)), .val (.int (1 : Int32))] [])) (fun _ k => XS.icmpNo X0.here hx rfl (hb hby d33_7) rfl (Jvm.Free.XT.ii_eq_f (by decide)) k) ?_
  refine own_st (T' := s₁) (g' := (mkF m 11 #[.val (.ref t), .val (.int (0 : Int32)), .val (.int (1 : Int32))] [(.ref t)])) (fun _ k => XS.aloadN X0.here hx rfl (hb hby d33_10) rfl rfl k) ?_
  refine own_st (T' := s₁) (g' := (mkF m 12 #[.val (.ref t), .val (.int (0 : Int32)), .val (.int (1 : Int32))] [(.int (0 : Int32)), (.ref t)])) (fun _ k => XS.iloadN X0.here hx rfl (hb hby d33_11) rfl k) ?_
  refine own_st (T' := s₁) (g' := (mkF m 13 #[.val (.ref t), .val (.int (0 : Int32)), .val (.int (1 : Int32))] [(.int (1 : Int32)), (.int (0 : Int32)), (.ref t)])) (fun _ k => XS.iloadN X0.here hx rfl (hb hby d33_12) rfl k) ?_
  have lt_t := Vt.lt
  obtain ⟨vq91, _, ⟨T91, L91, k91, n91⟩, -, X91, ⟨Lc91, hQ91, l91, y91, z91⟩, st91⟩ := Jvm.LawKit.callS X0 hx (y := (⟨"java/util/Arrays", "copyOfRangeByte", "([BII)[B"⟩ : MethodName)) hown (mvT hZ (hw _ (List.mem_of_getElem? (i := 186) rfl))) (mvT hZ (hw _ (List.mem_of_getElem? (i := 187) rfl))) (mvT hZ (hw _ (List.mem_of_getElem? (i := 184) rfl))) (mvT hZ (hw _ (List.mem_of_getElem? (i := 188) rfl))) (by decide) (backOf (W := 0) (own_corb l Z a0 hw [] t kt f h0 n0 Z0 Vt hf) hZ (hw _ (List.mem_of_getElem? (i := 188) rfl)) (hw _ (List.mem_of_getElem? (i := 184) rfl)) (by decide) (by decide)) (g := (mkF m 13 #[.val (.ref t), .val (.int (0 : Int32)), .val (.int (1 : Int32))] [(.int (1 : Int32)), (.int (0 : Int32)), (.ref t)])) rfl (by rw [hml]; rfl) (argsL := [(.ref t), (.int (0 : Int32)), (.int (1 : Int32))]) (rest := []) (lenOf own_pd21 rfl) rfl (by show 2 * 0 + _ ≤ _; exact Nat.le_of_eq rfl) (hb hby d33_13) (fun _ _ => ⟨rfl, e0, (by decide : 0 + 1 ≤ _), (by decide : 0 + 1 ≤ _)⟩)
  dsimp only [Pt.U, Pt.locs, Pt.cells, Pt.slots] at X91 l91 y91 z91 st91 hQ91
  subst l91 y91 z91
  obtain ⟨d, kd, f2, rfl, N91q, K91, gd, Vd⟩ := hQ91
  have N0' := Fr.app N0 N91q
  have ne_t_d : t ≠ d := own_ne2 lt_t gd
  have ge_d : n0 ≤ d := Nat.le_trans Z0 gd
  have sz_d : h0.size ≤ d := Nat.le_trans Kp.1 gd
  have Vt := Vt.keep K91 nin0
  have Z0' := Nat.le_trans Z0 K91.1
  have Kp := Kp.trans K91 all0
  refine own_st (T' := T91) (g' := (mkF m 16 #[.val (.ref t), .val (.int (0 : Int32)), .val (.int (1 : Int32))] [(.ref d)])) st91 ?_
  exact own_retR X91 hx Bd.returns Bd.notSynchronized rfl rfl rfl (hb hby d33_16) ⟨d, kd, f2, rfl, N0', Kp, sz_d, Vd⟩ (by decide) (by decide)
theorem own_pd22 : parseMethodDescriptor "()[B" = some ⟨[], some (.array .byte)⟩ := by decide +kernel
theorem d31_0 : decode jdk_42_method_150_code 0 = .ok (.aload_n 0, 1) := by decide +kernel
theorem d31_1 : decode jdk_42_method_150_code 1 = .ok (.invokespecial 1, 3) := by decide +kernel
theorem d31_4 : decode jdk_42_method_150_code 4 = .ok (.aload_n 1, 1) := by decide +kernel
theorem d31_5 : decode jdk_42_method_150_code 5 = .ok (.invokevirtual 552, 3) := by decide +kernel
theorem d31_8 : decode jdk_42_method_150_code 8 = .ok (.astore_n 3, 1) := by decide +kernel
theorem d31_9 : decode jdk_42_method_150_code 9 = .ok (.aload_n 1, 1) := by decide +kernel
theorem d31_10 : decode jdk_42_method_150_code 10 = .ok (.invokevirtual 549, 3) := by decide +kernel
theorem d31_13 : decode jdk_42_method_150_code 13 = .ok (.istore 4, 2) := by decide +kernel
theorem d31_15 : decode jdk_42_method_150_code 15 = .ok (.aload_n 1, 1) := by decide +kernel
theorem d31_16 : decode jdk_42_method_150_code 16 = .ok (.invokevirtual 1047, 3) := by decide +kernel
theorem d31_19 : decode jdk_42_method_150_code 19 = .ok (.ifCond .eq 22, 3) := by decide +kernel
theorem d31_22 : decode jdk_42_method_150_code 22 = .ok (.aload_n 0, 1) := by decide +kernel
theorem d31_23 : decode jdk_42_method_150_code 23 = .ok (.iconst 0, 1) := by decide +kernel
theorem d31_24 : decode jdk_42_method_150_code 24 = .ok (.putfield 15, 3) := by decide +kernel
theorem d31_27 : decode jdk_42_method_150_code 27 = .ok (.aload_n 0, 1) := by decide +kernel
theorem d31_28 : decode jdk_42_method_150_code 28 = .ok (.aload_n 3, 1) := by decide +kernel
theorem d31_29 : decode jdk_42_method_150_code 29 = .ok (.iconst 0, 1) := by decide +kernel
theorem d31_30 : decode jdk_42_method_150_code 30 = .ok (.iload 4, 2) := by decide +kernel
theorem d31_32 : decode jdk_42_method_150_code 32 = .ok (.invokestatic 54, 3) := by decide +kernel
theorem d31_35 : decode jdk_42_method_150_code 35 = .ok (.putfield 9, 3) := by decide +kernel
theorem d31_38 : decode jdk_42_method_150_code 38 = .ok (.goto 59, 3) := by decide +kernel
theorem d31_97 : decode jdk_42_method_150_code 97 = .ok (.return_, 1) := by decide +kernel
def own_si2_Q (Z : State) (a : Addr) (b : Addr) (t : Addr) (kt : ClassId) (f : Nat → Value) (cc : Int32) (h0 : Heap) (n0 : Nat) (v : Option Value) (h : Heap) (L : List Loc) : Prop := v = none ∧ Fr n0 L ∧ Keep h0 h [a]
set_option maxRecDepth 65536 in
set_option maxHeartbeats 40000000 in
theorem own_si2 (l : Launch) (Z : State) (a0 : Array Value) (hw : ∀ d ∈ tables_1, d.before a0 Z = true) (ws : List Jvm.Cond) (a : Addr) (b : Addr) (t : Addr) (kt : ClassId) (f : Nat → Value) (cc : Int32) (h0 : Heap) (n0 : Nat) (Z0 : n0 ≤ h0.size) (Fv : Fld Z h0 a "java/lang/String" "value" "[B" .null) (Fc : Fld Z h0 a "java/lang/String" "coder" "B" (.int (0 : Int32))) (Ea : Exa Z h0 a "java/lang/String") (ga : n0 ≤ a) (nb : b ≠ a) (nt : t ≠ a) (Gv : Fld Z h0 b "java/lang/AbstractStringBuilder" "value" "[B" (.ref t)) (Gc : Fld Z h0 b "java/lang/AbstractStringBuilder" "coder" "B" (.int (0 : Int32))) (Gn : Fld Z h0 b "java/lang/AbstractStringBuilder" "count" "I" (.int (1 : Int32))) (Gm : Fld Z h0 b "java/lang/AbstractStringBuilder" "maybeLatin1" "Z" (.int (0 : Int32))) (Eb : Exa Z h0 b "java/lang/StringBuilder") (Vt : own_Av Z h0 t kt .byte 16 f) (hf : ∀ j, j < 16 → fits .byte (f j) = true) (SC : Sta Z h0 "java/lang/String" "COMPACT_STRINGS" "Z" (.int cc)) (hcs : ¬ cc = (0 : Int32)) :
    MetFree l (⟨"java/lang/String", "<init>", "(Ljava/lang/AbstractStringBuilder;Ljava/lang/Void;)V"⟩ : MethodName) (head1 (Jvm.Cond.code (⟨"java/lang/String", "<init>", "(Ljava/lang/AbstractStringBuilder;Ljava/lang/Void;)V"⟩ : MethodName) jdk_42_method_150_code 5 none :: ws) ({ frames := 3, cells := 1, slots := 1, locals := 71 } : Room)) (fun aa U0 => aa = #[(.ref a), (.ref b), .null] ∧ Z.Warmed39 U0.vm ∧ U0.heap = h0) (fun _ _ _ _ _ => True) (fun _ U0 o0 U1 => ∃ v0 L0, o0 = .returned v0 ∧ own_si2_Q Z a b t kt f cc h0 n0 v0 U1.heap L0 ∧ FrameEnd U0 o0 U1 L0 ({ frames := 3, cells := 1, slots := 1, locals := 71 } : Room).cells ({ frames := 3, cells := 1, slots := 1, locals := 71 } : Room).slots) := by
  refine MetFree.of_bodySF (plainFor_of_name own_pn1) hisR ?_
  intro p e s m args below meth c s₁ Bd hml0 hP hK
  obtain ⟨rfl, hZ, hh⟩ := hP
  have hx := Bd.exec
  have hby := Bd.bytes
  have hml : c.maxLocals = 5 := hml0
  have hown : s.vm.findClass "java/lang/String" = some m.cls := findClass_of_methodNamed Bd.named
  have hnm := (name_of_methodNamed Bd.named Bd.method).1
  have X0 : Stand p l e ({ frames := 3, cells := 1, slots := 1, locals := 71 } : Room) s m #[(.ref a), (.ref b), .null] below meth c s₁ [] 0 0 := Stand.of_body Bd
  have e0 : s₁.heap = h0 := by rw [← hh, Bd.state]; rfl
  have N0 := Fr.nil n0
  show own_Go p e below s (own_si2_Q Z a b t kt f cc h0 n0) 1 1 s₁ (entryFrame m #[(.ref a), (.ref b), .null] 5)
  rw [show entryFrame m #[(.ref a), (.ref b), .null] 5 = mkF m 0 #[.val (.ref a), .val (.ref b), .val .null, .unset, .unset] [] from by first | (simp [entryFrame, mkF, argsToLocals, Value.category]; done) | rfl]
  have Kp := Keep.refl h0 [a]
  refine own_st (T' := s₁) (g' := (mkF m 1 #[.val (.ref a), .val (.ref b), .val .null, .unset, .unset] [(.ref a)])) (fun _ k => XS.aloadN X0.here hx rfl (hb hby d31_0) rfl rfl k) ?_
  obtain ⟨T92, X92, e92, st92⟩ := initO X0 hx hZ hown (hw _ (List.mem_of_getElem? (i := 47) rfl)) (hw _ (List.mem_of_getElem? (i := 20) rfl)) (hw _ (List.mem_of_getElem? (i := 21) rfl)) e0 (g := (mkF m 1 #[.val (.ref a), .val (.ref b), .val .null, .unset, .unset] [(.ref a)])) rfl (by rw [hml]; rfl) rfl (hb hby d31_1) (by decide) (W := 0) (by show 2 * 0 + _ ≤ _; exact Nat.le_of_eq rfl) (by decide)
  refine own_st (T' := T92) (g' := (mkF m 4 #[.val (.ref a), .val (.ref b), .val .null, .unset, .unset] [])) st92 ?_
  refine own_st (T' := T92) (g' := (mkF m 5 #[.val (.ref a), .val (.ref b), .val .null, .unset, .unset] [(.ref b)])) (fun _ k => XS.aloadN X92.here hx rfl (hb hby d31_4) rfl rfl k) ?_
  obtain ⟨cq93, kq93, q93a, q93b, q93c⟩ := isOf hZ e92 Eb
  obtain ⟨vq93, _, ⟨T93, L93, k93, n93⟩, -, X93, ⟨Lc93, hQ93, l93, y93, z93⟩, st93⟩ := X92.virtualBack hx (y := (⟨"java/lang/AbstractStringBuilder", "getValue", "()[B"⟩ : MethodName)) (z := (⟨"java/lang/AbstractStringBuilder", "getValue", "()[B"⟩ : MethodName)) hown (mvT hZ (hw _ (List.mem_of_getElem? (i := 174) rfl))) (mvT hZ (hw _ (List.mem_of_getElem? (i := 175) rfl))) (notFace_of_selects (args := #[]) (mvT hZ (hw _ (List.mem_of_getElem? (i := 177) rfl)))) (mvT hZ (hw _ (List.mem_of_getElem? (i := 177) rfl))) (mvT hZ (hw _ (List.mem_of_getElem? (i := 176) rfl))) (by decide) (backOf (W := 0) (own_gv l Z a0 hw [] b t h0 n0 Z0 Gv) hZ (hw _ (List.mem_of_getElem? (i := 178) rfl)) (hw _ (List.mem_of_getElem? (i := 88) rfl)) (by decide) (by decide)) q93a q93c (g := (mkF m 5 #[.val (.ref a), .val (.ref b), .val .null, .unset, .unset] [(.ref b)])) rfl (by rw [hml]; rfl) (Steps.refl _) (argsL := []) (rest := []) (lenOf own_pd22 rfl) rfl (by show 2 * 0 + _ ≤ _; exact Nat.le_of_eq rfl) (hb hby d31_5) (fun _ _ => ⟨rfl, e92, (by decide : 0 + 0 ≤ _), (by decide : 0 + 0 ≤ _)⟩)
  dsimp only [Pt.U, Pt.locs, Pt.cells, Pt.slots] at X93 l93 y93 z93 st93 hQ93
  subst l93 y93 z93
  obtain ⟨rfl, N93q, e93⟩ := hQ93
  have N0' := Fr.app N0 N93q
  refine own_tr (T' := T93) (g' := (mkF m 8 #[.val (.ref a), .val (.ref b), .val .null, .unset, .unset] [(.ref t)])) st93 ?_
  refine own_st (T' := T93) (g' := (mkF m 9 #[.val (.ref a), .val (.ref b), .val .null, .val (.ref t), .unset] [])) (fun _ k => XS.astoreN X93.here hx rfl (hb hby d31_8) rfl rfl (l' := #[.val (.ref a), .val (.ref b), .val .null, .val (.ref t), .unset]) rfl k) ?_
  refine own_st (T' := T93) (g' := (mkF m 10 #[.val (.ref a), .val (.ref b), .val .null, .val (.ref t), .unset] [(.ref b)])) (fun _ k => XS.aloadN X93.here hx rfl (hb hby d31_9) rfl rfl k) ?_
  obtain ⟨cq94, kq94, q94a, q94b, q94c⟩ := isOf hZ e93 Eb
  obtain ⟨vq94, _, ⟨T94, L94, k94, n94⟩, -, X94, ⟨Lc94, hQ94, l94, y94, z94⟩, st94⟩ := X93.virtualBack hx (y := (⟨"java/lang/AbstractStringBuilder", "length", "()I"⟩ : MethodName)) (z := (⟨"java/lang/StringBuilder", "length", "()I"⟩ : MethodName)) hown (mvT hZ (hw _ (List.mem_of_getElem? (i := 179) rfl))) (mvT hZ (hw _ (List.mem_of_getElem? (i := 160) rfl))) (own_nf (a0 := #[]) (by decide) (mvT hZ (hw _ (List.mem_of_getElem? (i := 142) rfl)))) (mvT hZ (hw _ (List.mem_of_getElem? (i := 180) rfl))) (mvT hZ (hw _ (List.mem_of_getElem? (i := 155) rfl))) (by decide) (backOf (W := 0) (own_sln l Z a0 hw [] b (1 : Int32) h0 n0 Z0 Gn Eb) hZ (hw _ (List.mem_of_getElem? (i := 157) rfl)) (hw _ (List.mem_of_getElem? (i := 80) rfl)) (by decide) (by decide)) q94a q94c (g := (mkF m 10 #[.val (.ref a), .val (.ref b), .val .null, .val (.ref t), .unset] [(.ref b)])) rfl (by rw [hml]; rfl) (Steps.refl _) (argsL := []) (rest := []) (lenOf own_pd14 rfl) rfl (by show 2 * 0 + _ ≤ _; exact Nat.le_of_eq rfl) (hb hby d31_10) (fun _ _ => ⟨rfl, e93, (by decide : (0 + 0) + 0 ≤ _), (by decide : (0 + 0) + 0 ≤ _)⟩)
  dsimp only [Pt.U, Pt.locs, Pt.cells, Pt.slots] at X94 l94 y94 z94 st94 hQ94
  subst l94 y94 z94
  obtain ⟨rfl, N94q, e94⟩ := hQ94
  have N0'' := Fr.app N0' N94q
  refine own_tr (T' := T94) (g' := (mkF m 13 #[.val (.ref a), .val (.ref b), .val .null, .val (.ref t), .unset] [(.int (1 : Int32))])) st94 ?_
  refine own_st (T' := T94) (g' := (mkF m 15 #[.val (.ref a), .val (.ref b), .val .null, .val (.ref t), .val (.int (1 : Int32))] [])) (fun _ k => XS.istore X94.here hx rfl (hb hby d31_13) rfl (l' := #[.val (.ref a), .val (.ref b), .val .null, .val (.ref t), .val (.int (1 : Int32))]) rfl k) ?_
  refine own_st (T' := T94) (g' := (mkF m 16 #[.val (.ref a), .val (.ref b), .val .null, .val (.ref t), .val (.int (1 : Int32))] [(.ref b)])) (fun _ k => XS.aloadN X94.here hx rfl (hb hby d31_15) rfl rfl k) ?_
  obtain ⟨cq95, kq95, q95a, q95b, q95c⟩ := isOf hZ e94 Eb
  obtain ⟨vq95, _, ⟨T95, L95, k95, n95⟩, -, X95, ⟨Lc95, hQ95, l95, y95, z95⟩, st95⟩ := X94.virtualBack hx (y := (⟨"java/lang/AbstractStringBuilder", "isLatin1", "()Z"⟩ : MethodName)) (z := (⟨"java/lang/AbstractStringBuilder", "isLatin1", "()Z"⟩ : MethodName)) hown (mvT hZ (hw _ (List.mem_of_getElem? (i := 181) rfl))) (mvT hZ (hw _ (List.mem_of_getElem? (i := 145) rfl))) (notFace_of_selects (args := #[]) (mvT hZ (hw _ (List.mem_of_getElem? (i := 147) rfl)))) (mvT hZ (hw _ (List.mem_of_getElem? (i := 147) rfl))) (mvT hZ (hw _ (List.mem_of_getElem? (i := 146) rfl))) (by decide) (backOf (W := 0) (own_ail l Z a0 hw [] b cc h0 n0 Z0 Gc SC hcs) hZ (hw _ (List.mem_of_getElem? (i := 148) rfl)) (hw _ (List.mem_of_getElem? (i := 88) rfl)) (by decide) (by decide)) q95a q95c (g := (mkF m 16 #[.val (.ref a), .val (.ref b), .val .null, .val (.ref t), .val (.int (1 : Int32))] [(.ref b)])) rfl (by rw [hml]; rfl) (Steps.refl _) (argsL := []) (rest := []) (lenOf own_pd11 rfl) rfl (by show 2 * 0 + _ ≤ _; exact Nat.le_of_eq rfl) (hb hby d31_16) (fun _ _ => ⟨rfl, e94, (by decide : ((0 + 0) + 0) + 0 ≤ _), (by decide : ((0 + 0) + 0) + 0 ≤ _)⟩)
  dsimp only [Pt.U, Pt.locs, Pt.cells, Pt.slots] at X95 l95 y95 z95 st95 hQ95
  subst l95 y95 z95
  obtain ⟨rfl, N95q, e95⟩ := hQ95
  have N0''' := Fr.app N0'' N95q
  refine own_tr (T' := T95) (g' := (mkF m 19 #[.val (.ref a), .val (.ref b), .val .null, .val (.ref t), .val (.int (1 : Int32))] [(.int (1 : Int32))])) st95 ?_
  refine own_st (T' := T95) (g' := (mkF m 22 #[.val (.ref a), .val (.ref b), .val .null, .val (.ref t), .val (.int (1 : Int32))] [])) (fun _ k => XS.ifNo X95.here hx rfl (hb hby d31_19) rfl (Jvm.Free.XT.i0_eq_f (by decide)) k) ?_
  refine own_st (T' := T95) (g' := (mkF m 23 #[.val (.ref a), .val (.ref b), .val .null, .val (.ref t), .val (.int (1 : Int32))] [(.ref a)])) (fun _ k => XS.aloadN X95.here hx rfl (hb hby d31_22) rfl rfl k) ?_
  refine own_st (T' := T95) (g' := (mkF m 24 #[.val (.ref a), .val (.ref b), .val .null, .val (.ref t), .val (.int (1 : Int32))] [(.int (0 : Int32)), (.ref a)])) (fun _ k => XS.iconst X95.here hx rfl (hb hby d31_23) k) ?_
  obtain ⟨T96, h96, X96, e96, W96, st96⟩ := putFN X95 hx hZ hown (hw _ (List.mem_of_getElem? (i := 49) rfl)) Via.refl e95 Fc Ea (Or.inr ⟨(hw _ (List.mem_of_getElem? (i := 5) rfl)), rfl, hnm⟩) (hw _ (List.mem_of_getElem? (i := 2) rfl)) (ty := .byte) (v' := (.int (0 : Int32))) (by decide) rfl rfl (g := (mkF m 24 #[.val (.ref a), .val (.ref b), .val .null, .val (.ref t), .val (.int (1 : Int32))] [(.int (0 : Int32)), (.ref a)])) rfl rfl (hb hby d31_24)
  have Fv := Fv.other W96 (Or.inr (slot_ne (Or.inr (hw _ (List.mem_of_getElem? (i := 4) rfl))) (Or.inr (hw _ (List.mem_of_getElem? (i := 5) rfl))) (by decide) (t := (.array .byte)) (t' := .byte) (by decide) (by decide)))
  have Ea := Ea.wr W96
  have Gv := Gv.other W96 (Or.inl nb)
  have Gc := Gc.other W96 (Or.inl nb)
  have Gn := Gn.other W96 (Or.inl nb)
  have Gm := Gm.other W96 (Or.inl nb)
  have Eb := Eb.wr W96
  have Vt := Vt.other W96 nt
  have Z0' := Nat.le_trans Z0 (Keep.of_wr W96).1
  have Kp := Kp.wr W96 (Or.inl (List.mem_of_getElem? (i := 0) rfl))
  have N0'''' := Fr.snoc X96 N0''' ga
  have Fc := Fc.same W96
  refine own_st (T' := T96) (g' := (mkF m 27 #[.val (.ref a), .val (.ref b), .val .null, .val (.ref t), .val (.int (1 : Int32))] [])) st96 ?_
  refine own_st (T' := T96) (g' := (mkF m 28 #[.val (.ref a), .val (.ref b), .val .null, .val (.ref t), .val (.int (1 : Int32))] [(.ref a)])) (fun _ k => XS.aloadN X96.here hx rfl (hb hby d31_27) rfl rfl k) ?_
  refine own_st (T' := T96) (g' := (mkF m 29 #[.val (.ref a), .val (.ref b), .val .null, .val (.ref t), .val (.int (1 : Int32))] [(.ref t), (.ref a)])) (fun _ k => XS.aloadN X96.here hx rfl (hb hby d31_28) rfl rfl k) ?_
  refine own_st (T' := T96) (g' := (mkF m 30 #[.val (.ref a), .val (.ref b), .val .null, .val (.ref t), .val (.int (1 : Int32))] [(.int (0 : Int32)), (.ref t), (.ref a)])) (fun _ k => XS.iconst X96.here hx rfl (hb hby d31_29) k) ?_
  refine own_st (T' := T96) (g' := (mkF m 32 #[.val (.ref a), .val (.ref b), .val .null, .val (.ref t), .val (.int (1 : Int32))] [(.int (1 : Int32)), (.int (0 : Int32)), (.ref t), (.ref a)])) (fun _ k => XS.iload X96.here hx rfl (hb hby d31_30) rfl k) ?_
  obtain ⟨vq97, _, ⟨T97, L97, k97, n97⟩, -, X97, ⟨Lc97, hQ97, l97, y97, z97⟩, st97⟩ := Jvm.LawKit.callS X96 hx (y := (⟨"java/util/Arrays", "copyOfRange", "([BII)[B"⟩ : MethodName)) hown (mvT hZ (hw _ (List.mem_of_getElem? (i := 182) rfl))) (mvT hZ (hw _ (List.mem_of_getElem? (i := 183) rfl))) (mvT hZ (hw _ (List.mem_of_getElem? (i := 184) rfl))) (mvT hZ (hw _ (List.mem_of_getElem? (i := 185) rfl))) (by decide) (backOf (W := 1) (own_cor l Z a0 hw [] t kt f h96 n0 Z0' Vt hf) hZ (hw _ (List.mem_of_getElem? (i := 185) rfl)) (hw _ (List.mem_of_getElem? (i := 184) rfl)) (by decide) (by decide)) (g := (mkF m 32 #[.val (.ref a), .val (.ref b), .val .null, .val (.ref t), .val (.int (1 : Int32))] [(.int (1 : Int32)), (.int (0 : Int32)), (.ref t), (.ref a)])) rfl (by rw [hml]; rfl) (argsL := [(.ref t), (.int (0 : Int32)), (.int (1 : Int32))]) (rest := [(.ref a)]) (lenOf own_pd21 rfl) rfl (by show 2 * 0 + _ ≤ _; exact Nat.le_of_eq rfl) (hb hby d31_32) (fun _ _ => ⟨rfl, e96, (by decide : (((0 + 0) + 0) + 0) + 1 ≤ _), (by decide : (((0 + 0) + 0) + 0) + 1 ≤ _)⟩)
  dsimp only [Pt.U, Pt.locs, Pt.cells, Pt.slots] at X97 l97 y97 z97 st97 hQ97
  subst l97 y97 z97
  obtain ⟨d, kd, f2, rfl, N97q, K97, gd, -⟩ := hQ97
  have N0''''' := Fr.app N0'''' N97q
  have Fv := Fv.keep K97 nin0
  have Fc := Fc.keep K97 nin0
  have Ea := Ea.keep K97
  have Gv := Gv.keep K97 nin0
  have Gc := Gc.keep K97 nin0
  have Gn := Gn.keep K97 nin0
  have Gm := Gm.keep K97 nin0
  have Eb := Eb.keep K97
  have Vt := Vt.keep K97 nin0
  have Z0'' := Nat.le_trans Z0' K97.1
  have Kp := Kp.trans K97 all0
  refine own_st (T' := T97) (g' := (mkF m 35 #[.val (.ref a), .val (.ref b), .val .null, .val (.ref t), .val (.int (1 : Int32))] [(.ref d), (.ref a)])) st97 ?_
  obtain ⟨T98, h98, X98, e98, W98, st98⟩ := putF X97 hx hZ hown (host := "") (Or.inl (hw _ (List.mem_of_getElem? (i := 48) rfl))) Via.refl rfl Fv Ea (Or.inr ⟨(hw _ (List.mem_of_getElem? (i := 4) rfl)), rfl, hnm⟩) (hw _ (List.mem_of_getElem? (i := 2) rfl)) (ty := (.array .byte)) (by decide) rfl rfl (g := (mkF m 35 #[.val (.ref a), .val (.ref b), .val .null, .val (.ref t), .val (.int (1 : Int32))] [(.ref d), (.ref a)])) rfl rfl (hb hby d31_35)
  have Fc := Fc.other W98 (Or.inr (slot_ne (Or.inr (hw _ (List.mem_of_getElem? (i := 5) rfl))) (Or.inr (hw _ (List.mem_of_getElem? (i := 4) rfl))) (by decide) (t := .byte) (t' := (.array .byte)) (by decide) (by decide)))
  have Ea := Ea.wr W98
  have Gv := Gv.other W98 (Or.inl nb)
  have Gc := Gc.other W98 (Or.inl nb)
  have Gn := Gn.other W98 (Or.inl nb)
  have Gm := Gm.other W98 (Or.inl nb)
  have Eb := Eb.wr W98
  have Vt := Vt.other W98 nt
  have Z0''' := Nat.le_trans Z0'' (Keep.of_wr W98).1
  have Kp := Kp.wr W98 (Or.inl (List.mem_of_getElem? (i := 0) rfl))
  have N0'''''' := Fr.snoc X98 N0''''' ga
  have Fv := Fv.same W98
  refine own_st (T' := T98) (g' := (mkF m 38 #[.val (.ref a), .val (.ref b), .val .null, .val (.ref t), .val (.int (1 : Int32))] [])) st98 ?_
  refine own_st (T' := T98) (g' := (mkF m 97 #[.val (.ref a), .val (.ref b), .val .null, .val (.ref t), .val (.int (1 : Int32))] [])) (fun _ k => XS.goto X98.here hx rfl (pc0 := 38) (pc' := 97) rfl (hb hby d31_38) (by decide) (by decide) k) ?_
  exact own_ret0 X98 hx Bd.returns Bd.notSynchronized e98 (hb hby d31_97) ⟨rfl, N0'''''', Kp⟩ (by decide) (by decide)
theorem own_pd23 : parseMethodDescriptor "(Ljava/lang/AbstractStringBuilder;Ljava/lang/Void;)V" = some ⟨[(.object "java/lang/AbstractStringBuilder"), (.object "java/lang/Void")], none⟩ := by decide +kernel
theorem d30_0 : decode jdk_42_method_53_code 0 = .ok (.aload_n 0, 1) := by decide +kernel
theorem d30_1 : decode jdk_42_method_53_code 1 = .ok (.aload_n 1, 1) := by decide +kernel
theorem d30_2 : decode jdk_42_method_53_code 2 = .ok (.aconst_null, 1) := by decide +kernel
theorem d30_3 : decode jdk_42_method_53_code 3 = .ok (.invokespecial 489, 3) := by decide +kernel
theorem d30_6 : decode jdk_42_method_53_code 6 = .ok (.return_, 1) := by decide +kernel
def own_si1_Q (Z : State) (a : Addr) (b : Addr) (t : Addr) (kt : ClassId) (f : Nat → Value) (cc : Int32) (h0 : Heap) (n0 : Nat) (v : Option Value) (h : Heap) (L : List Loc) : Prop := v = none ∧ Fr n0 L ∧ Keep h0 h [a]
set_option maxRecDepth 65536 in
set_option maxHeartbeats 40000000 in
theorem own_si1 (l : Launch) (Z : State) (a0 : Array Value) (hw : ∀ d ∈ tables_1, d.before a0 Z = true) (ws : List Jvm.Cond) (a : Addr) (b : Addr) (t : Addr) (kt : ClassId) (f : Nat → Value) (cc : Int32) (h0 : Heap) (n0 : Nat) (Z0 : n0 ≤ h0.size) (Fv : Fld Z h0 a "java/lang/String" "value" "[B" .null) (Fc : Fld Z h0 a "java/lang/String" "coder" "B" (.int (0 : Int32))) (Ea : Exa Z h0 a "java/lang/String") (ga : n0 ≤ a) (nb : b ≠ a) (nt : t ≠ a) (Gv : Fld Z h0 b "java/lang/AbstractStringBuilder" "value" "[B" (.ref t)) (Gc : Fld Z h0 b "java/lang/AbstractStringBuilder" "coder" "B" (.int (0 : Int32))) (Gn : Fld Z h0 b "java/lang/AbstractStringBuilder" "count" "I" (.int (1 : Int32))) (Gm : Fld Z h0 b "java/lang/AbstractStringBuilder" "maybeLatin1" "Z" (.int (0 : Int32))) (Eb : Exa Z h0 b "java/lang/StringBuilder") (Vt : own_Av Z h0 t kt .byte 16 f) (hf : ∀ j, j < 16 → fits .byte (f j) = true) (SC : Sta Z h0 "java/lang/String" "COMPACT_STRINGS" "Z" (.int cc)) (hcs : ¬ cc = (0 : Int32)) :
    MetFree l (⟨"java/lang/String", "<init>", "(Ljava/lang/StringBuilder;)V"⟩ : MethodName) (head1 (Jvm.Cond.code (⟨"java/lang/String", "<init>", "(Ljava/lang/StringBuilder;)V"⟩ : MethodName) jdk_42_method_53_code 2 none :: ws) ({ frames := 4, cells := 1, slots := 1, locals := 87 } : Room)) (fun aa U0 => aa = #[(.ref a), (.ref b)] ∧ Z.Warmed39 U0.vm ∧ U0.heap = h0) (fun _ _ _ _ _ => True) (fun _ U0 o0 U1 => ∃ v0 L0, o0 = .returned v0 ∧ own_si1_Q Z a b t kt f cc h0 n0 v0 U1.heap L0 ∧ FrameEnd U0 o0 U1 L0 ({ frames := 4, cells := 1, slots := 1, locals := 87 } : Room).cells ({ frames := 4, cells := 1, slots := 1, locals := 87 } : Room).slots) := by
  refine MetFree.of_bodySF (plainFor_of_name own_pn1) hisR ?_
  intro p e s m args below meth c s₁ Bd hml0 hP hK
  obtain ⟨rfl, hZ, hh⟩ := hP
  have hx := Bd.exec
  have hby := Bd.bytes
  have hml : c.maxLocals = 2 := hml0
  have hown : s.vm.findClass "java/lang/String" = some m.cls := findClass_of_methodNamed Bd.named
  have hnm := (name_of_methodNamed Bd.named Bd.method).1
  have X0 : Stand p l e ({ frames := 4, cells := 1, slots := 1, locals := 87 } : Room) s m #[(.ref a), (.ref b)] below meth c s₁ [] 0 0 := Stand.of_body Bd
  have e0 : s₁.heap = h0 := by rw [← hh, Bd.state]; rfl
  have N0 := Fr.nil n0
  show own_Go p e below s (own_si1_Q Z a b t kt f cc h0 n0) 1 1 s₁ (entryFrame m #[(.ref a), (.ref b)] 2)
  rw [show entryFrame m #[(.ref a), (.ref b)] 2 = mkF m 0 #[.val (.ref a), .val (.ref b)] [] from by first | (simp [entryFrame, mkF, argsToLocals, Value.category]; done) | rfl]
  have Kp := Keep.refl h0 [a]
  refine own_st (T' := s₁) (g' := (mkF m 1 #[.val (.ref a), .val (.ref b)] [(.ref a)])) (fun _ k => XS.aloadN X0.here hx rfl (hb hby d30_0) rfl rfl k) ?_
  refine own_st (T' := s₁) (g' := (mkF m 2 #[.val (.ref a), .val (.ref b)] [(.ref b), (.ref a)])) (fun _ k => XS.aloadN X0.here hx rfl (hb hby d30_1) rfl rfl k) ?_
  refine own_st (T' := s₁) (g' := (mkF m 3 #[.val (.ref a), .val (.ref b)] [.null, (.ref b), (.ref a)])) (fun _ k => XS.aconstNull X0.here hx rfl (hb hby d30_2) k) ?_
  obtain ⟨vq99, _, ⟨T99, L99, k99, n99⟩, -, X99, ⟨Lc99, hQ99, l99, y99, z99⟩, st99⟩ := X0.specialBack hx (y := (⟨"java/lang/String", "<init>", "(Ljava/lang/AbstractStringBuilder;Ljava/lang/Void;)V"⟩ : MethodName)) rfl hown (mvT hZ (hw _ (List.mem_of_getElem? (i := 171) rfl))) (mvT hZ (hw _ (List.mem_of_getElem? (i := 172) rfl))) (mvT hZ (hw _ (List.mem_of_getElem? (i := 173) rfl))) (by decide) (backOf (W := 0) (own_si2 l Z a0 hw [] a b t kt f cc h0 n0 Z0 Fv Fc Ea ga nb nt Gv Gc Gn Gm Eb Vt hf SC hcs) hZ (hw _ (List.mem_of_getElem? (i := 173) rfl)) (hw _ (List.mem_of_getElem? (i := 1) rfl)) (by decide) (by decide)) (g := (mkF m 3 #[.val (.ref a), .val (.ref b)] [.null, (.ref b), (.ref a)])) rfl (by rw [hml]; rfl) (Steps.refl _) (a := a) (argsL := [(.ref b), .null]) (rest := []) (lenOf own_pd23 rfl) rfl (by show 2 * 0 + _ ≤ _; exact Nat.le_of_eq rfl) (hb hby d30_3) (fun _ _ => ⟨rfl, e0, (by decide : 0 + 1 ≤ _), (by decide : 0 + 1 ≤ _)⟩)
  dsimp only [Pt.U, Pt.locs, Pt.cells, Pt.slots] at X99 l99 y99 z99 st99 hQ99
  subst l99 y99 z99
  obtain ⟨rfl, N99q, K99⟩ := hQ99
  have N0' := Fr.app N0 N99q
  have Ea := Ea.keep K99
  have Gv := Gv.keep K99 (ninS nb nin0)
  have Gc := Gc.keep K99 (ninS nb nin0)
  have Gn := Gn.keep K99 (ninS nb nin0)
  have Gm := Gm.keep K99 (ninS nb nin0)
  have Eb := Eb.keep K99
  have Vt := Vt.keep K99 (ninS nt nin0)
  have Z0' := Nat.le_trans Z0 K99.1
  have Kp := Kp.trans K99 (allS (P := fun x => x ∈ [a] ∨ h0.size ≤ x) (Or.inl (List.mem_of_getElem? (i := 0) rfl)) all0)
  refine own_tr (T' := T99) (g' := (mkF m 6 #[.val (.ref a), .val (.ref b)] [])) st99 ?_
  exact own_ret0 X99 hx Bd.returns Bd.notSynchronized rfl (hb hby d30_6) ⟨rfl, N0', Kp⟩ (by decide) (by decide)
theorem own_pd24 : parseMethodDescriptor "(Ljava/lang/StringBuilder;)V" = some ⟨[(.object "java/lang/StringBuilder")], none⟩ := by decide +kernel
theorem d29_0 : decode jdk_67_method_42_code 0 = .ok (.new 18, 3) := by decide +kernel
theorem d29_3 : decode jdk_67_method_42_code 3 = .ok (.dup, 1) := by decide +kernel
theorem d29_4 : decode jdk_67_method_42_code 4 = .ok (.aload_n 0, 1) := by decide +kernel
theorem d29_5 : decode jdk_67_method_42_code 5 = .ok (.invokespecial 137, 3) := by decide +kernel
theorem d29_8 : decode jdk_67_method_42_code 8 = .ok (.areturn, 1) := by decide +kernel
def own_ts_Q (Z : State) (b : Addr) (t : Addr) (kt : ClassId) (f : Nat → Value) (cc : Int32) (h0 : Heap) (n0 : Nat) (v : Option Value) (h : Heap) (L : List Loc) : Prop := ∃ x, v = some (.ref x) ∧ Fr n0 L ∧ Keep h0 h [] ∧ h0.size ≤ x
set_option maxRecDepth 65536 in
set_option maxHeartbeats 40000000 in
theorem own_ts (l : Launch) (Z : State) (a0 : Array Value) (hw : ∀ d ∈ tables_1, d.before a0 Z = true) (ws : List Jvm.Cond) (b : Addr) (t : Addr) (kt : ClassId) (f : Nat → Value) (cc : Int32) (h0 : Heap) (n0 : Nat) (Z0 : n0 ≤ h0.size) (Gv : Fld Z h0 b "java/lang/AbstractStringBuilder" "value" "[B" (.ref t)) (Gc : Fld Z h0 b "java/lang/AbstractStringBuilder" "coder" "B" (.int (0 : Int32))) (Gn : Fld Z h0 b "java/lang/AbstractStringBuilder" "count" "I" (.int (1 : Int32))) (Gm : Fld Z h0 b "java/lang/AbstractStringBuilder" "maybeLatin1" "Z" (.int (0 : Int32))) (Eb : Exa Z h0 b "java/lang/StringBuilder") (Vt : own_Av Z h0 t kt .byte 16 f) (hf : ∀ j, j < 16 → fits .byte (f j) = true) (SC : Sta Z h0 "java/lang/String" "COMPACT_STRINGS" "Z" (.int cc)) (hcs : ¬ cc = (0 : Int32)) :
    MetFree l (⟨"java/lang/StringBuilder", "toString", "()Ljava/lang/String;"⟩ : MethodName) (head1 (Jvm.Cond.code (⟨"java/lang/StringBuilder", "toString", "()Ljava/lang/String;"⟩ : MethodName) jdk_67_method_42_code 1 (some (.object "java/lang/String")) :: ws) ({ frames := 5, cells := 2, slots := 5, locals := 101 } : Room)) (fun aa U0 => aa = #[(.ref b)] ∧ Z.Warmed39 U0.vm ∧ U0.heap = h0) (fun _ _ _ _ _ => True) (fun _ U0 o0 U1 => ∃ v0 L0, o0 = .returned v0 ∧ own_ts_Q Z b t kt f cc h0 n0 v0 U1.heap L0 ∧ FrameEnd U0 o0 U1 L0 ({ frames := 5, cells := 2, slots := 5, locals := 101 } : Room).cells ({ frames := 5, cells := 2, slots := 5, locals := 101 } : Room).slots) := by
  refine MetFree.of_bodySF (plainFor_of_name own_pn10) hisR ?_
  intro p e s m args below meth c s₁ Bd hml0 hP hK
  obtain ⟨rfl, hZ, hh⟩ := hP
  have hx := Bd.exec
  have hby := Bd.bytes
  have hml : c.maxLocals = 1 := hml0
  have hown : s.vm.findClass "java/lang/StringBuilder" = some m.cls := findClass_of_methodNamed Bd.named
  have hnm := (name_of_methodNamed Bd.named Bd.method).1
  have X0 : Stand p l e ({ frames := 5, cells := 2, slots := 5, locals := 101 } : Room) s m #[(.ref b)] below meth c s₁ [] 0 0 := Stand.of_body Bd
  have e0 : s₁.heap = h0 := by rw [← hh, Bd.state]; rfl
  have N0 := Fr.nil n0
  show own_Go p e below s (own_ts_Q Z b t kt f cc h0 n0) 2 5 s₁ (entryFrame m #[(.ref b)] 1)
  rw [show entryFrame m #[(.ref b)] 1 = mkF m 0 #[.val (.ref b)] [] from by first | (simp [entryFrame, mkF, argsToLocals, Value.category]; done) | rfl]
  have Kp := Keep.refl h0 []
  obtain ⟨T100, h100, X100, e100, E100, A100, D100, -, st100⟩ := newO X0 hx hZ hown (hw _ (List.mem_of_getElem? (i := 167) rfl)) (hw _ (List.mem_of_getElem? (i := 2) rfl)) (hw _ (List.mem_of_getElem? (i := 1) rfl)) e0 (g := (mkF m 0 #[.val (.ref b)] [])) rfl (hb hby d29_0) (by decide) (by decide)
  obtain ⟨sa, gsa⟩ : ∃ z, z = h0.size := ⟨_, rfl⟩
  rw [← gsa] at A100 D100 st100
  have ne_b_sa : b ≠ sa := own_ne Gv.lt gsa
  have ne_t_sa : t ≠ sa := own_ne Vt.lt gsa
  have ge_sa : n0 ≤ sa := own_ge Z0 gsa
  have sz_sa : h0.size ≤ sa := own_ge Kp.1 gsa
  have Gv := Gv.ext E100
  have Gc := Gc.ext E100
  have Gn := Gn.ext E100
  have Gm := Gm.ext E100
  have Eb := Eb.ext E100
  have Vt := Vt.ext E100
  have SC := SC.ext E100
  have Z0' := Nat.le_trans Z0 E100.1
  have Kp := Kp.ext E100
  have E_sa := A100
  have F_value_sa : Fld Z h100 sa "java/lang/String" "value" "[B" .null := D100 (Or.inr (hw _ (List.mem_of_getElem? (i := 4) rfl))) (ty := (.array .byte)) (by decide)
  have F_coder_sa : Fld Z h100 sa "java/lang/String" "coder" "B" (.int (0 : Int32)) := D100 (Or.inr (hw _ (List.mem_of_getElem? (i := 5) rfl))) (ty := .byte) (by decide)
  refine own_st (T' := T100) (g' := (mkF m 3 #[.val (.ref b)] [(.ref sa)])) st100 ?_
  refine own_st (T' := T100) (g' := (mkF m 4 #[.val (.ref b)] [(.ref sa), (.ref sa)])) (fun _ k => XS.dup X100.here hx rfl (hb hby d29_3) rfl rfl k) ?_
  refine own_st (T' := T100) (g' := (mkF m 5 #[.val (.ref b)] [(.ref b), (.ref sa), (.ref sa)])) (fun _ k => XS.aloadN X100.here hx rfl (hb hby d29_4) rfl rfl k) ?_
  obtain ⟨vq101, _, ⟨T101, L101, k101, n101⟩, -, X101, ⟨Lc101, hQ101, l101, y101, z101⟩, st101⟩ := X100.specialBack hx (y := (⟨"java/lang/String", "<init>", "(Ljava/lang/StringBuilder;)V"⟩ : MethodName)) rfl hown (mvT hZ (hw _ (List.mem_of_getElem? (i := 168) rfl))) (mvT hZ (hw _ (List.mem_of_getElem? (i := 169) rfl))) (mvT hZ (hw _ (List.mem_of_getElem? (i := 170) rfl))) (by decide) (backOf (W := 1) (own_si1 l Z a0 hw [] sa b t kt f cc h100 n0 Z0' F_value_sa F_coder_sa E_sa ge_sa ne_b_sa ne_t_sa Gv Gc Gn Gm Eb Vt hf SC hcs) hZ (hw _ (List.mem_of_getElem? (i := 170) rfl)) (hw _ (List.mem_of_getElem? (i := 1) rfl)) (by decide) (by decide)) (g := (mkF m 5 #[.val (.ref b)] [(.ref b), (.ref sa), (.ref sa)])) rfl (by rw [hml]; rfl) (Steps.refl _) (a := sa) (argsL := [(.ref b)]) (rest := [(.ref sa)]) (lenOf own_pd24 rfl) rfl (by show 2 * 0 + _ ≤ _; exact Nat.le_of_eq rfl) (hb hby d29_5) (fun _ _ => ⟨rfl, e100, (by decide : (0 + 1) + 1 ≤ _), (by decide : (0 + 4) + 1 ≤ _)⟩)
  dsimp only [Pt.U, Pt.locs, Pt.cells, Pt.slots] at X101 l101 y101 z101 st101 hQ101
  subst l101 y101 z101
  obtain ⟨rfl, N101q, K101⟩ := hQ101
  have N0' := Fr.app N0 N101q
  have Gv := Gv.keep K101 (ninS ne_b_sa nin0)
  have Gc := Gc.keep K101 (ninS ne_b_sa nin0)
  have Gn := Gn.keep K101 (ninS ne_b_sa nin0)
  have Gm := Gm.keep K101 (ninS ne_b_sa nin0)
  have Eb := Eb.keep K101
  have Vt := Vt.keep K101 (ninS ne_t_sa nin0)
  have E_sa := E_sa.keep K101
  have Z0'' := Nat.le_trans Z0' K101.1
  have Kp := Kp.trans K101 (allS (P := fun x => x ∈ [] ∨ h0.size ≤ x) (Or.inr sz_sa) all0)
  refine own_tr (T' := T101) (g' := (mkF m 8 #[.val (.ref b)] [(.ref sa)])) st101 ?_
  exact own_retR X101 hx Bd.returns Bd.notSynchronized rfl rfl rfl (hb hby d29_8) ⟨sa, rfl, N0', Kp, sz_sa⟩ (by decide) (by decide)
theorem d44_0 : decode jdk_68_method_13_code 0 = .ok (.iload_n 1, 1) := by decide +kernel
theorem d44_1 : decode jdk_68_method_13_code 1 = .ok (.ifCond .ge 12, 3) := by decide +kernel
theorem d44_13 : decode jdk_68_method_13_code 13 = .ok (.aload_n 0, 1) := by decide +kernel
theorem d44_14 : decode jdk_68_method_13_code 14 = .ok (.iload_n 1, 1) := by decide +kernel
theorem d44_15 : decode jdk_68_method_13_code 15 = .ok (.invokevirtual 100, 3) := by decide +kernel
theorem d44_18 : decode jdk_68_method_13_code 18 = .ok (.aload_n 0, 1) := by decide +kernel
theorem d44_19 : decode jdk_68_method_13_code 19 = .ok (.getfield 79, 3) := by decide +kernel
theorem d44_22 : decode jdk_68_method_13_code 22 = .ok (.iload_n 1, 1) := by decide +kernel
theorem d44_23 : decode jdk_68_method_13_code 23 = .ok (.if_icmp .ge 40, 3) := by decide +kernel
theorem d44_63 : decode jdk_68_method_13_code 63 = .ok (.aload_n 0, 1) := by decide +kernel
theorem d44_64 : decode jdk_68_method_13_code 64 = .ok (.getfield 79, 3) := by decide +kernel
theorem d44_67 : decode jdk_68_method_13_code 67 = .ok (.iload_n 1, 1) := by decide +kernel
theorem d44_68 : decode jdk_68_method_13_code 68 = .ok (.if_icmp .le 8, 3) := by decide +kernel
theorem d44_71 : decode jdk_68_method_13_code 71 = .ok (.aload_n 0, 1) := by decide +kernel
theorem d44_72 : decode jdk_68_method_13_code 72 = .ok (.iconst 1, 1) := by decide +kernel
theorem d44_73 : decode jdk_68_method_13_code 73 = .ok (.putfield 73, 3) := by decide +kernel
theorem d44_76 : decode jdk_68_method_13_code 76 = .ok (.aload_n 0, 1) := by decide +kernel
theorem d44_77 : decode jdk_68_method_13_code 77 = .ok (.iload_n 1, 1) := by decide +kernel
theorem d44_78 : decode jdk_68_method_13_code 78 = .ok (.putfield 79, 3) := by decide +kernel
theorem d44_81 : decode jdk_68_method_13_code 81 = .ok (.return_, 1) := by decide +kernel
def own_asl_Q (Z : State) (b : Addr) (t : Addr) (kt : ClassId) (f : Nat → Value) (h0 : Heap) (n0 : Nat) (v : Option Value) (h : Heap) (L : List Loc) : Prop := v = none ∧ Fr n0 L ∧ Keep h0 h [b]
set_option maxRecDepth 65536 in
set_option maxHeartbeats 40000000 in
theorem own_asl (l : Launch) (Z : State) (a0 : Array Value) (hw : ∀ d ∈ tables_1, d.before a0 Z = true) (ws : List Jvm.Cond) (b : Addr) (t : Addr) (kt : ClassId) (f : Nat → Value) (h0 : Heap) (n0 : Nat) (Z0 : n0 ≤ h0.size) (Gv : Fld Z h0 b "java/lang/AbstractStringBuilder" "value" "[B" (.ref t)) (Gc : Fld Z h0 b "java/lang/AbstractStringBuilder" "coder" "B" (.int (0 : Int32))) (Gn : Fld Z h0 b "java/lang/AbstractStringBuilder" "count" "I" (.int (1 : Int32))) (Gm : Fld Z h0 b "java/lang/AbstractStringBuilder" "maybeLatin1" "Z" (.int (0 : Int32))) (Eb : Exa Z h0 b "java/lang/StringBuilder") (Vt : own_Av Z h0 t kt .byte 16 f) (gb : n0 ≤ b) (nt : t ≠ b) :
    MetFree l (⟨"java/lang/AbstractStringBuilder", "setLength", "(I)V"⟩ : MethodName) (head1 (Jvm.Cond.code (⟨"java/lang/AbstractStringBuilder", "setLength", "(I)V"⟩ : MethodName) jdk_68_method_13_code 2 none :: ws) ({ frames := 1, cells := 0, slots := 0, locals := 14 } : Room)) (fun aa U0 => aa = #[(.ref b), (.int (0 : Int32))] ∧ Z.Warmed39 U0.vm ∧ U0.heap = h0) (fun _ _ _ _ _ => True) (fun _ U0 o0 U1 => ∃ v0 L0, o0 = .returned v0 ∧ own_asl_Q Z b t kt f h0 n0 v0 U1.heap L0 ∧ FrameEnd U0 o0 U1 L0 ({ frames := 1, cells := 0, slots := 0, locals := 14 } : Room).cells ({ frames := 1, cells := 0, slots := 0, locals := 14 } : Room).slots) := by
  refine MetFree.of_bodySF (plainFor_of_name own_pn9) hisR ?_
  intro p e s m args below meth c s₁ Bd hml0 hP hK
  obtain ⟨rfl, hZ, hh⟩ := hP
  have hx := Bd.exec
  have hby := Bd.bytes
  have hml : c.maxLocals = 2 := hml0
  have hown : s.vm.findClass "java/lang/AbstractStringBuilder" = some m.cls := findClass_of_methodNamed Bd.named
  have hnm := (name_of_methodNamed Bd.named Bd.method).1
  have X0 : Stand p l e ({ frames := 1, cells := 0, slots := 0, locals := 14 } : Room) s m #[(.ref b), (.int (0 : Int32))] below meth c s₁ [] 0 0 := Stand.of_body Bd
  have e0 : s₁.heap = h0 := by rw [← hh, Bd.state]; rfl
  have N0 := Fr.nil n0
  show own_Go p e below s (own_asl_Q Z b t kt f h0 n0) 0 0 s₁ (entryFrame m #[(.ref b), (.int (0 : Int32))] 2)
  rw [show entryFrame m #[(.ref b), (.int (0 : Int32))] 2 = mkF m 0 #[.val (.ref b), .val (.int (0 : Int32))] [] from by first | (simp [entryFrame, mkF, argsToLocals, Value.category]; done) | rfl]
  have Kp := Keep.refl h0 [b]
  refine own_st (T' := s₁) (g' := (mkF m 1 #[.val (.ref b), .val (.int (0 : Int32))] [(.int (0 : Int32))])) (fun _ k => XS.iloadN X0.here hx rfl (hb hby d44_0) rfl k) ?_
  refine own_st (T' := s₁) (g' := (mkF m 13 #[.val (.ref b), .val (.int (0 : Int32))] [])) (fun _ k => XS.ifYes X0.here hx rfl (pc0 := 1) (pc' := 13) rfl (hb hby d44_1) rfl (Jvm.Free.XT.i0_ge_t (by decide)) (by decide) (by decide) k) ?_
  refine own_st (T' := s₁) (g' := (mkF m 14 #[.val (.ref b), .val (.int (0 : Int32))] [(.ref b)])) (fun _ k => XS.aloadN X0.here hx rfl (hb hby d44_13) rfl rfl k) ?_
  refine own_st (T' := s₁) (g' := (mkF m 15 #[.val (.ref b), .val (.int (0 : Int32))] [(.int (0 : Int32)), (.ref b)])) (fun _ k => XS.iloadN X0.here hx rfl (hb hby d44_14) rfl k) ?_
  obtain ⟨cq102, kq102, q102a, q102b, q102c⟩ := isOf hZ e0 Eb
  obtain ⟨vq102, _, ⟨T102, L102, k102, n102⟩, -, X102, ⟨Lc102, hQ102, l102, y102, z102⟩, st102⟩ := X0.virtualBack hx (y := (⟨"java/lang/AbstractStringBuilder", "ensureCapacityInternal", "(I)V"⟩ : MethodName)) (z := (⟨"java/lang/AbstractStringBuilder", "ensureCapacityInternal", "(I)V"⟩ : MethodName)) hown (mvT hZ (hw _ (List.mem_of_getElem? (i := 139) rfl))) (mvT hZ (own_decl (hw _ (List.mem_of_getElem? (i := 140) rfl)) (hw _ (List.mem_of_getElem? (i := 143) rfl)))) (notFace_of_selects (args := #[]) (mvT hZ (hw _ (List.mem_of_getElem? (i := 142) rfl)))) (mvT hZ (hw _ (List.mem_of_getElem? (i := 142) rfl))) (mvT hZ (hw _ (List.mem_of_getElem? (i := 140) rfl))) (by decide) (backOf (W := 0) (own_ec l Z a0 hw [] b t kt f (0 : Int32) h0 n0 Z0 Gv Gc Vt (by decide)) hZ (hw _ (List.mem_of_getElem? (i := 143) rfl)) (hw _ (List.mem_of_getElem? (i := 88) rfl)) (by decide) (by decide)) q102a q102c (g := (mkF m 15 #[.val (.ref b), .val (.int (0 : Int32))] [(.int (0 : Int32)), (.ref b)])) rfl (by rw [hml]; rfl) (Steps.refl _) (argsL := [(.int (0 : Int32))]) (rest := []) (lenOf own_pd19 rfl) rfl (by show 2 * 0 + _ ≤ _; exact Nat.le_of_eq rfl) (hb hby d44_15) (fun _ _ => ⟨rfl, e0, (by decide : 0 + 0 ≤ _), (by decide : 0 + 0 ≤ _)⟩)
  dsimp only [Pt.U, Pt.locs, Pt.cells, Pt.slots] at X102 l102 y102 z102 st102 hQ102
  subst l102 y102 z102
  obtain ⟨rfl, N102q, e102⟩ := hQ102
  have N0' := Fr.app N0 N102q
  refine own_tr (T' := T102) (g' := (mkF m 18 #[.val (.ref b), .val (.int (0 : Int32))] [])) st102 ?_
  refine own_st (T' := T102) (g' := (mkF m 19 #[.val (.ref b), .val (.int (0 : Int32))] [(.ref b)])) (fun _ k => XS.aloadN X102.here hx rfl (hb hby d44_18) rfl rfl k) ?_
  obtain ⟨T103, X103, e103, st103⟩ := getF X102 hx hZ hown (host := "") (Or.inl (hw _ (List.mem_of_getElem? (i := 137) rfl))) Via.refl e102 Gn (g := (mkF m 19 #[.val (.ref b), .val (.int (0 : Int32))] [(.ref b)])) rfl rfl (hb hby d44_19)
  refine own_st (T' := T103) (g' := (mkF m 22 #[.val (.ref b), .val (.int (0 : Int32))] [(.int (1 : Int32))])) st103 ?_
  refine own_st (T' := T103) (g' := (mkF m 23 #[.val (.ref b), .val (.int (0 : Int32))] [(.int (0 : Int32)), (.int (1 : Int32))])) (fun _ k => XS.iloadN X103.here hx rfl (hb hby d44_22) rfl k) ?_
  refine own_st (T' := T103) (g' := (mkF m 63 #[.val (.ref b), .val (.int (0 : Int32))] [])) (fun _ k => XS.icmpYes X103.here hx rfl (pc0 := 23) (pc' := 63) rfl (hb hby d44_23) rfl (Jvm.Free.XT.ii_ge_t (by decide)) (by decide) (by decide) k) ?_
  refine own_st (T' := T103) (g' := (mkF m 64 #[.val (.ref b), .val (.int (0 : Int32))] [(.ref b)])) (fun _ k => XS.aloadN X103.here hx rfl (hb hby d44_63) rfl rfl k) ?_
  obtain ⟨T104, X104, e104, st104⟩ := getF X103 hx hZ hown (host := "") (Or.inl (hw _ (List.mem_of_getElem? (i := 137) rfl))) Via.refl e103 Gn (g := (mkF m 64 #[.val (.ref b), .val (.int (0 : Int32))] [(.ref b)])) rfl rfl (hb hby d44_64)
  refine own_st (T' := T104) (g' := (mkF m 67 #[.val (.ref b), .val (.int (0 : Int32))] [(.int (1 : Int32))])) st104 ?_
  refine own_st (T' := T104) (g' := (mkF m 68 #[.val (.ref b), .val (.int (0 : Int32))] [(.int (0 : Int32)), (.int (1 : Int32))])) (fun _ k => XS.iloadN X104.here hx rfl (hb hby d44_67) rfl k) ?_
  refine own_st (T' := T104) (g' := (mkF m 71 #[.val (.ref b), .val (.int (0 : Int32))] [])) (fun _ k => XS.icmpNo X104.here hx rfl (hb hby d44_68) rfl (Jvm.Free.XT.ii_le_f (by decide)) k) ?_
  refine own_st (T' := T104) (g' := (mkF m 72 #[.val (.ref b), .val (.int (0 : Int32))] [(.ref b)])) (fun _ k => XS.aloadN X104.here hx rfl (hb hby d44_71) rfl rfl k) ?_
  refine own_st (T' := T104) (g' := (mkF m 73 #[.val (.ref b), .val (.int (0 : Int32))] [(.int (1 : Int32)), (.ref b)])) (fun _ k => XS.iconst X104.here hx rfl (hb hby d44_72) k) ?_
  obtain ⟨T105, h105, X105, e105, W105, st105⟩ := putFN X104 hx hZ hown (hw _ (List.mem_of_getElem? (i := 248) rfl)) Via.refl e104 Gm Eb (Or.inl (hw _ (List.mem_of_getElem? (i := 249) rfl))) (hw _ (List.mem_of_getElem? (i := 79) rfl)) (ty := .boolean) (v' := (.int (1 : Int32))) (by decide) rfl rfl (g := (mkF m 73 #[.val (.ref b), .val (.int (0 : Int32))] [(.int (1 : Int32)), (.ref b)])) rfl rfl (hb hby d44_73)
  have Gv := Gv.other W105 (Or.inr (slot_ne (Or.inl (hw _ (List.mem_of_getElem? (i := 93) rfl))) (Or.inl (hw _ (List.mem_of_getElem? (i := 249) rfl))) (by decide) (t := (.array .byte)) (t' := .boolean) (by decide) (by decide)))
  have Gc := Gc.other W105 (Or.inr (slot_ne (Or.inl (hw _ (List.mem_of_getElem? (i := 95) rfl))) (Or.inl (hw _ (List.mem_of_getElem? (i := 249) rfl))) (by decide) (t := .byte) (t' := .boolean) (by decide) (by decide)))
  have Gn := Gn.other W105 (Or.inr (slot_ne (Or.inl (hw _ (List.mem_of_getElem? (i := 138) rfl))) (Or.inl (hw _ (List.mem_of_getElem? (i := 249) rfl))) (by decide) (t := .int) (t' := .boolean) (by decide) (by decide)))
  have Eb := Eb.wr W105
  have Vt := Vt.other W105 nt
  have Z0' := Nat.le_trans Z0 (Keep.of_wr W105).1
  have Kp := Kp.wr W105 (Or.inl (List.mem_of_getElem? (i := 0) rfl))
  have N0'' := Fr.snoc X105 N0' gb
  have Gm := Gm.same W105
  refine own_st (T' := T105) (g' := (mkF m 76 #[.val (.ref b), .val (.int (0 : Int32))] [])) st105 ?_
  refine own_st (T' := T105) (g' := (mkF m 77 #[.val (.ref b), .val (.int (0 : Int32))] [(.ref b)])) (fun _ k => XS.aloadN X105.here hx rfl (hb hby d44_76) rfl rfl k) ?_
  refine own_st (T' := T105) (g' := (mkF m 78 #[.val (.ref b), .val (.int (0 : Int32))] [(.int (0 : Int32)), (.ref b)])) (fun _ k => XS.iloadN X105.here hx rfl (hb hby d44_77) rfl k) ?_
  obtain ⟨T106, h106, X106, e106, W106, st106⟩ := putF X105 hx hZ hown (host := "") (Or.inl (hw _ (List.mem_of_getElem? (i := 137) rfl))) Via.refl e105 Gn Eb (Or.inl (hw _ (List.mem_of_getElem? (i := 138) rfl))) (hw _ (List.mem_of_getElem? (i := 79) rfl)) (ty := .int) (by decide) rfl rfl (g := (mkF m 78 #[.val (.ref b), .val (.int (0 : Int32))] [(.int (0 : Int32)), (.ref b)])) rfl rfl (hb hby d44_78)
  have Gv := Gv.other W106 (Or.inr (slot_ne (Or.inl (hw _ (List.mem_of_getElem? (i := 93) rfl))) (Or.inl (hw _ (List.mem_of_getElem? (i := 138) rfl))) (by decide) (t := (.array .byte)) (t' := .int) (by decide) (by decide)))
  have Gc := Gc.other W106 (Or.inr (slot_ne (Or.inl (hw _ (List.mem_of_getElem? (i := 95) rfl))) (Or.inl (hw _ (List.mem_of_getElem? (i := 138) rfl))) (by decide) (t := .byte) (t' := .int) (by decide) (by decide)))
  have Gm := Gm.other W106 (Or.inr (slot_ne (Or.inl (hw _ (List.mem_of_getElem? (i := 249) rfl))) (Or.inl (hw _ (List.mem_of_getElem? (i := 138) rfl))) (by decide) (t := .boolean) (t' := .int) (by decide) (by decide)))
  have Eb := Eb.wr W106
  have Vt := Vt.other W106 nt
  have Z0'' := Nat.le_trans Z0' (Keep.of_wr W106).1
  have Kp := Kp.wr W106 (Or.inl (List.mem_of_getElem? (i := 0) rfl))
  have N0''' := Fr.snoc X106 N0'' gb
  have Gn := Gn.same W106
  refine own_st (T' := T106) (g' := (mkF m 81 #[.val (.ref b), .val (.int (0 : Int32))] [])) st106 ?_
  exact own_ret0 X106 hx Bd.returns Bd.notSynchronized e106 (hb hby d44_81) ⟨rfl, N0''', Kp⟩ (by decide) (by decide)
theorem d43_0 : decode jdk_67_method_89_code 0 = .ok (.aload_n 0, 1) := by decide +kernel
theorem d43_1 : decode jdk_67_method_89_code 1 = .ok (.iload_n 1, 1) := by decide +kernel
theorem d43_2 : decode jdk_67_method_89_code 2 = .ok (.invokespecial 333, 3) := by decide +kernel
theorem d43_5 : decode jdk_67_method_89_code 5 = .ok (.return_, 1) := by decide +kernel
def own_ssl_Q (Z : State) (b : Addr) (t : Addr) (kt : ClassId) (f : Nat → Value) (h0 : Heap) (n0 : Nat) (v : Option Value) (h : Heap) (L : List Loc) : Prop := v = none ∧ Fr n0 L ∧ Keep h0 h [b]
set_option maxRecDepth 65536 in
set_option maxHeartbeats 40000000 in
theorem own_ssl (l : Launch) (Z : State) (a0 : Array Value) (hw : ∀ d ∈ tables_1, d.before a0 Z = true) (ws : List Jvm.Cond) (b : Addr) (t : Addr) (kt : ClassId) (f : Nat → Value) (h0 : Heap) (n0 : Nat) (Z0 : n0 ≤ h0.size) (Gv : Fld Z h0 b "java/lang/AbstractStringBuilder" "value" "[B" (.ref t)) (Gc : Fld Z h0 b "java/lang/AbstractStringBuilder" "coder" "B" (.int (0 : Int32))) (Gn : Fld Z h0 b "java/lang/AbstractStringBuilder" "count" "I" (.int (1 : Int32))) (Gm : Fld Z h0 b "java/lang/AbstractStringBuilder" "maybeLatin1" "Z" (.int (0 : Int32))) (Eb : Exa Z h0 b "java/lang/StringBuilder") (Vt : own_Av Z h0 t kt .byte 16 f) (gb : n0 ≤ b) (nt : t ≠ b) :
    MetFree l (⟨"java/lang/StringBuilder", "setLength", "(I)V"⟩ : MethodName) (head1 (Jvm.Cond.code (⟨"java/lang/StringBuilder", "setLength", "(I)V"⟩ : MethodName) jdk_67_method_89_code 2 none :: ws) ({ frames := 2, cells := 0, slots := 0, locals := 27 } : Room)) (fun aa U0 => aa = #[(.ref b), (.int (0 : Int32))] ∧ Z.Warmed39 U0.vm ∧ U0.heap = h0) (fun _ _ _ _ _ => True) (fun _ U0 o0 U1 => ∃ v0 L0, o0 = .returned v0 ∧ own_ssl_Q Z b t kt f h0 n0 v0 U1.heap L0 ∧ FrameEnd U0 o0 U1 L0 ({ frames := 2, cells := 0, slots := 0, locals := 27 } : Room).cells ({ frames := 2, cells := 0, slots := 0, locals := 27 } : Room).slots) := by
  refine MetFree.of_bodySF (plainFor_of_name own_pn10) hisR ?_
  intro p e s m args below meth c s₁ Bd hml0 hP hK
  obtain ⟨rfl, hZ, hh⟩ := hP
  have hx := Bd.exec
  have hby := Bd.bytes
  have hml : c.maxLocals = 2 := hml0
  have hown : s.vm.findClass "java/lang/StringBuilder" = some m.cls := findClass_of_methodNamed Bd.named
  have hnm := (name_of_methodNamed Bd.named Bd.method).1
  have X0 : Stand p l e ({ frames := 2, cells := 0, slots := 0, locals := 27 } : Room) s m #[(.ref b), (.int (0 : Int32))] below meth c s₁ [] 0 0 := Stand.of_body Bd
  have e0 : s₁.heap = h0 := by rw [← hh, Bd.state]; rfl
  have N0 := Fr.nil n0
  show own_Go p e below s (own_ssl_Q Z b t kt f h0 n0) 0 0 s₁ (entryFrame m #[(.ref b), (.int (0 : Int32))] 2)
  rw [show entryFrame m #[(.ref b), (.int (0 : Int32))] 2 = mkF m 0 #[.val (.ref b), .val (.int (0 : Int32))] [] from by first | (simp [entryFrame, mkF, argsToLocals, Value.category]; done) | rfl]
  have Kp := Keep.refl h0 [b]
  refine own_st (T' := s₁) (g' := (mkF m 1 #[.val (.ref b), .val (.int (0 : Int32))] [(.ref b)])) (fun _ k => XS.aloadN X0.here hx rfl (hb hby d43_0) rfl rfl k) ?_
  refine own_st (T' := s₁) (g' := (mkF m 2 #[.val (.ref b), .val (.int (0 : Int32))] [(.int (0 : Int32)), (.ref b)])) (fun _ k => XS.iloadN X0.here hx rfl (hb hby d43_1) rfl k) ?_
  obtain ⟨vq107, _, ⟨T107, L107, k107, n107⟩, -, X107, ⟨Lc107, hQ107, l107, y107, z107⟩, st107⟩ := superBack X0 hx hZ (y := (⟨"java/lang/AbstractStringBuilder", "setLength", "(I)V"⟩ : MethodName)) hown (hw _ (List.mem_of_getElem? (i := 244) rfl)) (own_same (hw _ (List.mem_of_getElem? (i := 245) rfl)) (own_face (y := (⟨"java/lang/AbstractStringBuilder", "ensureCapacityInternal", "(I)V"⟩ : MethodName)) (hw _ (List.mem_of_getElem? (i := 142) rfl))) (by decide)) (hw _ (List.mem_of_getElem? (i := 245) rfl)) (hw _ (List.mem_of_getElem? (i := 134) rfl)) (by decide) (backOf (W := 0) (own_asl l Z a0 hw [] b t kt f h0 n0 Z0 Gv Gc Gn Gm Eb Vt gb nt) hZ (hw _ (List.mem_of_getElem? (i := 247) rfl)) (hw _ (List.mem_of_getElem? (i := 88) rfl)) (by decide) (by decide)) e0 (Ins.self Eb) (g := (mkF m 2 #[.val (.ref b), .val (.int (0 : Int32))] [(.int (0 : Int32)), (.ref b)])) rfl (by rw [hml]; rfl) (hw _ (List.mem_of_getElem? (i := 247) rfl)) (argsL := [(.int (0 : Int32))]) (rest := []) (lenOf own_pd19 rfl) rfl (by show 2 * 0 + _ ≤ _; exact Nat.le_of_eq rfl) (hb hby d43_2) (fun _ _ => ⟨rfl, e0, (by decide : 0 + 0 ≤ _), (by decide : 0 + 0 ≤ _)⟩)
  dsimp only [Pt.U, Pt.locs, Pt.cells, Pt.slots] at X107 l107 y107 z107 st107 hQ107
  subst l107 y107 z107
  obtain ⟨rfl, N107q, K107⟩ := hQ107
  have N0' := Fr.app N0 N107q
  have Eb := Eb.keep K107
  have Vt := Vt.keep K107 (ninS nt nin0)
  have Z0' := Nat.le_trans Z0 K107.1
  have Kp := Kp.trans K107 (allS (P := fun x => x ∈ [b] ∨ h0.size ≤ x) (Or.inl (List.mem_of_getElem? (i := 0) rfl)) all0)
  refine own_tr (T' := T107) (g' := (mkF m 5 #[.val (.ref b), .val (.int (0 : Int32))] [])) st107 ?_
  exact own_ret0 X107 hx Bd.returns Bd.notSynchronized rfl (hb hby d43_5) ⟨rfl, N0', Kp⟩ (by decide) (by decide)
theorem d26_0 : decode prog_75_method_12_code 0 = .ok (.aload_n 1, 1) := by decide +kernel
theorem d26_1 : decode prog_75_method_12_code 1 = .ok (.invokevirtual 276, 3) := by decide +kernel
theorem d26_4 : decode prog_75_method_12_code 4 = .ok (.ifCond .le 22, 3) := by decide +kernel
theorem d26_26 : decode prog_75_method_12_code 26 = .ok (.return_, 1) := by decide +kernel
theorem own_pn12 : plainName "com/example/idiolect/idiolect/internal/datetime/DateTimePatterns" = true := by first | (simp [plainName, overriddenIn]; done) | decide +kernel
def own_al0_Q (Z : State) (la : Addr) (b : Addr) (h0 : Heap) (n0 : Nat) (v : Option Value) (h : Heap) (L : List Loc) : Prop := v = none ∧ Fr n0 L ∧ h = h0
set_option maxRecDepth 65536 in
set_option maxHeartbeats 40000000 in
theorem own_al0 (l : Launch) (Z : State) (a0 : Array Value) (hw : ∀ d ∈ tables_1, d.before a0 Z = true) (ws : List Jvm.Cond) (la : Addr) (b : Addr) (h0 : Heap) (n0 : Nat) (Z0 : n0 ≤ h0.size) (Gn : Fld Z h0 b "java/lang/AbstractStringBuilder" "count" "I" (.int (0 : Int32))) (Eb : Exa Z h0 b "java/lang/StringBuilder") :
    MetFree l (⟨"com/example/idiolect/idiolect/internal/datetime/DateTimePatterns", "addLiteral", "(Ljava/util/List;Ljava/lang/StringBuilder;)V"⟩ : MethodName) (head1 (Jvm.Cond.code (⟨"com/example/idiolect/idiolect/internal/datetime/DateTimePatterns", "addLiteral", "(Ljava/util/List;Ljava/lang/StringBuilder;)V"⟩ : MethodName) prog_75_method_12_code 2 none :: ws) ({ frames := 2, cells := 0, slots := 0, locals := 24 } : Room)) (fun aa U0 => aa = #[(.ref la), (.ref b)] ∧ Z.Warmed39 U0.vm ∧ U0.heap = h0) (fun _ _ _ _ _ => True) (fun _ U0 o0 U1 => ∃ v0 L0, o0 = .returned v0 ∧ own_al0_Q Z la b h0 n0 v0 U1.heap L0 ∧ FrameEnd U0 o0 U1 L0 ({ frames := 2, cells := 0, slots := 0, locals := 24 } : Room).cells ({ frames := 2, cells := 0, slots := 0, locals := 24 } : Room).slots) := by
  refine MetFree.of_bodySF (plainFor_of_name own_pn12) hisR ?_
  intro p e s m args below meth c s₁ Bd hml0 hP hK
  obtain ⟨rfl, hZ, hh⟩ := hP
  have hx := Bd.exec
  have hby := Bd.bytes
  have hml : c.maxLocals = 2 := hml0
  have hown : s.vm.findClass "com/example/idiolect/idiolect/internal/datetime/DateTimePatterns" = some m.cls := findClass_of_methodNamed Bd.named
  have hnm := (name_of_methodNamed Bd.named Bd.method).1
  have X0 : Stand p l e ({ frames := 2, cells := 0, slots := 0, locals := 24 } : Room) s m #[(.ref la), (.ref b)] below meth c s₁ [] 0 0 := Stand.of_body Bd
  have e0 : s₁.heap = h0 := by rw [← hh, Bd.state]; rfl
  have N0 := Fr.nil n0
  show own_Go p e below s (own_al0_Q Z la b h0 n0) 0 0 s₁ (entryFrame m #[(.ref la), (.ref b)] 2)
  rw [show entryFrame m #[(.ref la), (.ref b)] 2 = mkF m 0 #[.val (.ref la), .val (.ref b)] [] from by first | (simp [entryFrame, mkF, argsToLocals, Value.category]; done) | rfl]
  refine own_st (T' := s₁) (g' := (mkF m 1 #[.val (.ref la), .val (.ref b)] [(.ref b)])) (fun _ k => XS.aloadN X0.here hx rfl (hb hby d26_0) rfl rfl k) ?_
  obtain ⟨cq108, kq108, q108a, q108b, q108c⟩ := isOf hZ e0 Eb
  obtain ⟨vq108, _, ⟨T108, L108, k108, n108⟩, -, X108, ⟨Lc108, hQ108, l108, y108, z108⟩, st108⟩ := X0.virtualBack hx (y := (⟨"java/lang/StringBuilder", "length", "()I"⟩ : MethodName)) (z := (⟨"java/lang/StringBuilder", "length", "()I"⟩ : MethodName)) hown (mvT hZ (hw _ (List.mem_of_getElem? (i := 153) rfl))) (mvT hZ (hw _ (List.mem_of_getElem? (i := 154) rfl))) (notFace_of_selects (args := #[]) (mvT hZ (hw _ (List.mem_of_getElem? (i := 156) rfl)))) (mvT hZ (hw _ (List.mem_of_getElem? (i := 156) rfl))) (mvT hZ (hw _ (List.mem_of_getElem? (i := 155) rfl))) (by decide) (backOf (W := 0) (own_sln l Z a0 hw [] b (0 : Int32) h0 n0 Z0 Gn Eb) hZ (hw _ (List.mem_of_getElem? (i := 157) rfl)) (hw _ (List.mem_of_getElem? (i := 80) rfl)) (by decide) (by decide)) q108a q108c (g := (mkF m 1 #[.val (.ref la), .val (.ref b)] [(.ref b)])) rfl (by rw [hml]; rfl) (Steps.refl _) (argsL := []) (rest := []) (lenOf own_pd14 rfl) rfl (by show 2 * 0 + _ ≤ _; exact Nat.le_of_eq rfl) (hb hby d26_1) (fun _ _ => ⟨rfl, e0, (by decide : 0 + 0 ≤ _), (by decide : 0 + 0 ≤ _)⟩)
  dsimp only [Pt.U, Pt.locs, Pt.cells, Pt.slots] at X108 l108 y108 z108 st108 hQ108
  subst l108 y108 z108
  obtain ⟨rfl, N108q, e108⟩ := hQ108
  have N0' := Fr.app N0 N108q
  refine own_tr (T' := T108) (g' := (mkF m 4 #[.val (.ref la), .val (.ref b)] [(.int (0 : Int32))])) st108 ?_
  refine own_st (T' := T108) (g' := (mkF m 26 #[.val (.ref la), .val (.ref b)] [])) (fun _ k => XS.ifYes X108.here hx rfl (pc0 := 4) (pc' := 26) rfl (hb hby d26_4) rfl (Jvm.Free.XT.i0_le_t (by decide)) (by decide) (by decide) k) ?_
  exact own_ret0 X108 hx Bd.returns Bd.notSynchronized e108 (hb hby d26_26) ⟨rfl, N0', rfl⟩ (by decide) (by decide)
theorem own_pd25 : parseMethodDescriptor "()Ljava/lang/String;" = some ⟨[], some (.object "java/lang/String")⟩ := by decide +kernel
theorem own_pd26 : parseMethodDescriptor "(Ljava/lang/String;)Lcom/example/idiolect/idiolect/internal/datetime/DateTimePatterns$Token;" = some ⟨[(.object "java/lang/String")], some (.object "com/example/idiolect/idiolect/internal/datetime/DateTimePatterns$Token")⟩ := by decide +kernel
theorem own_pd27 : parseMethodDescriptor "(Ljava/lang/Object;)Z" = some ⟨[(.object "java/lang/Object")], some .boolean⟩ := by decide +kernel
theorem d26_7 : decode prog_75_method_12_code 7 = .ok (.aload_n 0, 1) := by decide +kernel
theorem d26_8 : decode prog_75_method_12_code 8 = .ok (.aload_n 1, 1) := by decide +kernel
theorem d26_9 : decode prog_75_method_12_code 9 = .ok (.invokevirtual 277, 3) := by decide +kernel
theorem d26_12 : decode prog_75_method_12_code 12 = .ok (.invokestatic 280, 3) := by decide +kernel
theorem d26_15 : decode prog_75_method_12_code 15 = .ok (.invokeinterface 200 2, 5) := by decide +kernel
theorem d26_20 : decode prog_75_method_12_code 20 = .ok (.pop, 1) := by decide +kernel
theorem d26_21 : decode prog_75_method_12_code 21 = .ok (.aload_n 1, 1) := by decide +kernel
theorem d26_22 : decode prog_75_method_12_code 22 = .ok (.iconst 0, 1) := by decide +kernel
theorem d26_23 : decode prog_75_method_12_code 23 = .ok (.invokevirtual 283, 3) := by decide +kernel
def own_al1_Q (Z : State) (la : Addr) (aD : Addr) (kD : ClassId) (fD : Nat → Value) (b : Addr) (t : Addr) (kt : ClassId) (f : Nat → Value) (cc : Int32) (h0 : Heap) (n0 : Nat) (v : Option Value) (h : Heap) (L : List Loc) : Prop := v = none ∧ Fr n0 L ∧ Keep h0 h [la, b] ∧ ∃ ta ka x, Fld Z h la "java/util/ArrayList" "elementData" "[Ljava/lang/Object;" (.ref ta) ∧ Fld Z h la "java/util/ArrayList" "size" "I" (.int (1 : Int32)) ∧ own_Av Z h ta ka (.object "java/lang/Object") 10 (fun q => if q = 0 then (.ref x) else .null) ∧ Exa Z h x "com/example/idiolect/idiolect/internal/datetime/DateTimePatterns$Token" ∧ Fld Z h x "com/example/idiolect/idiolect/internal/datetime/DateTimePatterns$Token" "letter" "C" (.int (0 : Int32))
set_option maxRecDepth 65536 in
set_option maxHeartbeats 40000000 in
theorem own_al1 (l : Launch) (Z : State) (a0 : Array Value) (hw : ∀ d ∈ tables_1, d.before a0 Z = true) (ws : List Jvm.Cond) (la : Addr) (aD : Addr) (kD : ClassId) (fD : Nat → Value) (b : Addr) (t : Addr) (kt : ClassId) (f : Nat → Value) (cc : Int32) (h0 : Heap) (n0 : Nat) (Z0 : n0 ≤ h0.size) (Fm : Fld Z h0 la "java/util/AbstractList" "modCount" "I" (.int (0 : Int32))) (Fe : Fld Z h0 la "java/util/ArrayList" "elementData" "[Ljava/lang/Object;" (.ref aD)) (Fs : Fld Z h0 la "java/util/ArrayList" "size" "I" (.int (0 : Int32))) (El : Exa Z h0 la "java/util/ArrayList") (gl : n0 ≤ la) (nD : aD ≠ la) (Gv : Fld Z h0 b "java/lang/AbstractStringBuilder" "value" "[B" (.ref t)) (Gc : Fld Z h0 b "java/lang/AbstractStringBuilder" "coder" "B" (.int (0 : Int32))) (Gn : Fld Z h0 b "java/lang/AbstractStringBuilder" "count" "I" (.int (1 : Int32))) (Gm : Fld Z h0 b "java/lang/AbstractStringBuilder" "maybeLatin1" "Z" (.int (0 : Int32))) (Eb : Exa Z h0 b "java/lang/StringBuilder") (Vt : own_Av Z h0 t kt .byte 16 f) (hf : ∀ j, j < 16 → fits .byte (f j) = true) (hcs : ¬ cc = (0 : Int32)) (gb : n0 ≤ b) (nlb : la ≠ b) (nlt : la ≠ t) (nt : t ≠ b) (O : Old Z n0 h0) (SD0 : Sta Z Z.heap "java/util/ArrayList" "DEFAULTCAPACITY_EMPTY_ELEMENTDATA" "[Ljava/lang/Object;" (.ref aD)) (VD0 : own_Av Z Z.heap aD kD (.object "java/lang/Object") 0 fD) (SC0 : Sta Z Z.heap "java/lang/String" "COMPACT_STRINGS" "Z" (.int cc)) :
    MetFree l (⟨"com/example/idiolect/idiolect/internal/datetime/DateTimePatterns", "addLiteral", "(Ljava/util/List;Ljava/lang/StringBuilder;)V"⟩ : MethodName) (head1 (Jvm.Cond.code (⟨"com/example/idiolect/idiolect/internal/datetime/DateTimePatterns", "addLiteral", "(Ljava/util/List;Ljava/lang/StringBuilder;)V"⟩ : MethodName) prog_75_method_12_code 2 none :: ws) ({ frames := 6, cells := 6, slots := 24, locals := 114 } : Room)) (fun aa U0 => aa = #[(.ref la), (.ref b)] ∧ Z.Warmed39 U0.vm ∧ U0.heap = h0) (fun _ _ _ _ _ => True) (fun _ U0 o0 U1 => ∃ v0 L0, o0 = .returned v0 ∧ own_al1_Q Z la aD kD fD b t kt f cc h0 n0 v0 U1.heap L0 ∧ FrameEnd U0 o0 U1 L0 ({ frames := 6, cells := 6, slots := 24, locals := 114 } : Room).cells ({ frames := 6, cells := 6, slots := 24, locals := 114 } : Room).slots) := by
  refine MetFree.of_bodySF (plainFor_of_name own_pn12) hisR ?_
  intro p e s m args below meth c s₁ Bd hml0 hP hK
  obtain ⟨rfl, hZ, hh⟩ := hP
  have hx := Bd.exec
  have hby := Bd.bytes
  have hml : c.maxLocals = 2 := hml0
  have hown : s.vm.findClass "com/example/idiolect/idiolect/internal/datetime/DateTimePatterns" = some m.cls := findClass_of_methodNamed Bd.named
  have hnm := (name_of_methodNamed Bd.named Bd.method).1
  have X0 : Stand p l e ({ frames := 6, cells := 6, slots := 24, locals := 114 } : Room) s m #[(.ref la), (.ref b)] below meth c s₁ [] 0 0 := Stand.of_body Bd
  have e0 : s₁.heap = h0 := by rw [← hh, Bd.state]; rfl
  have N0 := Fr.nil n0
  show own_Go p e below s (own_al1_Q Z la aD kD fD b t kt f cc h0 n0) 6 24 s₁ (entryFrame m #[(.ref la), (.ref b)] 2)
  rw [show entryFrame m #[(.ref la), (.ref b)] 2 = mkF m 0 #[.val (.ref la), .val (.ref b)] [] from by first | (simp [entryFrame, mkF, argsToLocals, Value.category]; done) | rfl]
  have Kp := Keep.refl h0 [la, b]
  refine own_st (T' := s₁) (g' := (mkF m 1 #[.val (.ref la), .val (.ref b)] [(.ref b)])) (fun _ k => XS.aloadN X0.here hx rfl (hb hby d26_0) rfl rfl k) ?_
  obtain ⟨cq109, kq109, q109a, q109b, q109c⟩ := isOf hZ e0 Eb
  obtain ⟨vq109, _, ⟨T109, L109, k109, n109⟩, -, X109, ⟨Lc109, hQ109, l109, y109, z109⟩, st109⟩ := X0.virtualBack hx (y := (⟨"java/lang/StringBuilder", "length", "()I"⟩ : MethodName)) (z := (⟨"java/lang/StringBuilder", "length", "()I"⟩ : MethodName)) hown (mvT hZ (hw _ (List.mem_of_getElem? (i := 153) rfl))) (mvT hZ (hw _ (List.mem_of_getElem? (i := 154) rfl))) (notFace_of_selects (args := #[]) (mvT hZ (hw _ (List.mem_of_getElem? (i := 156) rfl)))) (mvT hZ (hw _ (List.mem_of_getElem? (i := 156) rfl))) (mvT hZ (hw _ (List.mem_of_getElem? (i := 155) rfl))) (by decide) (backOf (W := 0) (own_sln l Z a0 hw [] b (1 : Int32) h0 n0 Z0 Gn Eb) hZ (hw _ (List.mem_of_getElem? (i := 157) rfl)) (hw _ (List.mem_of_getElem? (i := 80) rfl)) (by decide) (by decide)) q109a q109c (g := (mkF m 1 #[.val (.ref la), .val (.ref b)] [(.ref b)])) rfl (by rw [hml]; rfl) (Steps.refl _) (argsL := []) (rest := []) (lenOf own_pd14 rfl) rfl (by show 2 * 0 + _ ≤ _; exact Nat.le_of_eq rfl) (hb hby d26_1) (fun _ _ => ⟨rfl, e0, (by decide : 0 + 0 ≤ _), (by decide : 0 + 0 ≤ _)⟩)
  dsimp only [Pt.U, Pt.locs, Pt.cells, Pt.slots] at X109 l109 y109 z109 st109 hQ109
  subst l109 y109 z109
  obtain ⟨rfl, N109q, e109⟩ := hQ109
  have N0' := Fr.app N0 N109q
  refine own_tr (T' := T109) (g' := (mkF m 4 #[.val (.ref la), .val (.ref b)] [(.int (1 : Int32))])) st109 ?_
  refine own_st (T' := T109) (g' := (mkF m 7 #[.val (.ref la), .val (.ref b)] [])) (fun _ k => XS.ifNo X109.here hx rfl (hb hby d26_4) rfl (Jvm.Free.XT.i0_le_f (by decide)) k) ?_
  refine own_st (T' := T109) (g' := (mkF m 8 #[.val (.ref la), .val (.ref b)] [(.ref la)])) (fun _ k => XS.aloadN X109.here hx rfl (hb hby d26_7) rfl rfl k) ?_
  refine own_st (T' := T109) (g' := (mkF m 9 #[.val (.ref la), .val (.ref b)] [(.ref b), (.ref la)])) (fun _ k => XS.aloadN X109.here hx rfl (hb hby d26_8) rfl rfl k) ?_
  obtain ⟨cq110, kq110, q110a, q110b, q110c⟩ := isOf hZ e109 Eb
  obtain ⟨vq110, _, ⟨T110, L110, k110, n110⟩, -, X110, ⟨Lc110, hQ110, l110, y110, z110⟩, st110⟩ := X109.virtualBack hx (y := (⟨"java/lang/StringBuilder", "toString", "()Ljava/lang/String;"⟩ : MethodName)) (z := (⟨"java/lang/StringBuilder", "toString", "()Ljava/lang/String;"⟩ : MethodName)) hown (mvT hZ (hw _ (List.mem_of_getElem? (i := 162) rfl))) (mvT hZ (hw _ (List.mem_of_getElem? (i := 163) rfl))) (notFace_of_selects (args := #[]) (mvT hZ (hw _ (List.mem_of_getElem? (i := 165) rfl)))) (mvT hZ (hw _ (List.mem_of_getElem? (i := 165) rfl))) (mvT hZ (hw _ (List.mem_of_getElem? (i := 164) rfl))) (by decide) (backOf (W := 1) (own_ts l Z a0 hw [] b t kt f cc h0 n0 Z0 Gv Gc Gn Gm Eb Vt hf (SC0.ext O.2) hcs) hZ (hw _ (List.mem_of_getElem? (i := 166) rfl)) (hw _ (List.mem_of_getElem? (i := 80) rfl)) (by decide) (by decide)) q110a q110c (g := (mkF m 9 #[.val (.ref la), .val (.ref b)] [(.ref b), (.ref la)])) rfl (by rw [hml]; rfl) (Steps.refl _) (argsL := []) (rest := [(.ref la)]) (lenOf own_pd25 rfl) rfl (by show 2 * 0 + _ ≤ _; exact Nat.le_of_eq rfl) (hb hby d26_9) (fun _ _ => ⟨rfl, e109, (by decide : (0 + 0) + 2 ≤ _), (by decide : (0 + 0) + 5 ≤ _)⟩)
  dsimp only [Pt.U, Pt.locs, Pt.cells, Pt.slots] at X110 l110 y110 z110 st110 hQ110
  subst l110 y110 z110
  obtain ⟨st, rfl, N110q, K110, -⟩ := hQ110
  have N0'' := Fr.app N0' N110q
  have Fm := Fm.keep K110 nin0
  have Fe := Fe.keep K110 nin0
  have Fs := Fs.keep K110 nin0
  have El := El.keep K110
  have Gv := Gv.keep K110 nin0
  have Gc := Gc.keep K110 nin0
  have Gn := Gn.keep K110 nin0
  have Gm := Gm.keep K110 nin0
  have Eb := Eb.keep K110
  have Vt := Vt.keep K110 nin0
  have O := O.keep K110 (all0)
  have Z0' := Nat.le_trans Z0 K110.1
  have Kp := Kp.trans K110 all0
  refine own_tr (T' := T110) (g' := (mkF m 12 #[.val (.ref la), .val (.ref b)] [(.ref st), (.ref la)])) st110 ?_
  have lt_la := Fm.lt
  have lt_b := Gv.lt
  have lt_t := Vt.lt
  obtain ⟨vq111, _, ⟨T111, L111, k111, n111⟩, -, X111, ⟨Lc111, hQ111, l111, y111, z111⟩, st111⟩ := Jvm.LawKit.callS X110 hx (y := (⟨"com/example/idiolect/idiolect/internal/datetime/DateTimePatterns$Token", "literal", "(Ljava/lang/String;)Lcom/example/idiolect/idiolect/internal/datetime/DateTimePatterns$Token;"⟩ : MethodName)) hown (mvT hZ (hw _ (List.mem_of_getElem? (i := 200) rfl))) (mvT hZ (hw _ (List.mem_of_getElem? (i := 201) rfl))) (mvT hZ (hw _ (List.mem_of_getElem? (i := 10) rfl))) (mvT hZ (hw _ (List.mem_of_getElem? (i := 202) rfl))) (by decide) (backOf (W := 1) (own_lit l Z a0 hw [] st T110.heap n0 Z0' ) hZ (hw _ (List.mem_of_getElem? (i := 202) rfl)) (hw _ (List.mem_of_getElem? (i := 10) rfl)) (by decide) (by decide)) (g := (mkF m 12 #[.val (.ref la), .val (.ref b)] [(.ref st), (.ref la)])) rfl (by rw [hml]; rfl) (argsL := [(.ref st)]) (rest := [(.ref la)]) (lenOf own_pd26 rfl) rfl (by show 2 * 0 + _ ≤ _; exact Nat.le_of_eq rfl) (hb hby d26_12) (fun _ _ => ⟨rfl, rfl, (by decide : ((0 + 0) + 2) + 1 ≤ _), (by decide : ((0 + 0) + 5) + 2 ≤ _)⟩)
  dsimp only [Pt.U, Pt.locs, Pt.cells, Pt.slots] at X111 l111 y111 z111 st111 hQ111
  subst l111 y111 z111
  obtain ⟨x, rfl, N111q, K111, gx, Ex, Fx⟩ := hQ111
  have N0''' := Fr.app N0'' N111q
  have ne_la_x : la ≠ x := own_ne2 lt_la gx
  have ne_b_x : b ≠ x := own_ne2 lt_b gx
  have ne_t_x : t ≠ x := own_ne2 lt_t gx
  have ge_x : n0 ≤ x := Nat.le_trans Z0' gx
  have sz_x : h0.size ≤ x := Nat.le_trans Kp.1 gx
  have Fm := Fm.keep K111 nin0
  have Fe := Fe.keep K111 nin0
  have Fs := Fs.keep K111 nin0
  have El := El.keep K111
  have Gv := Gv.keep K111 nin0
  have Gc := Gc.keep K111 nin0
  have Gn := Gn.keep K111 nin0
  have Gm := Gm.keep K111 nin0
  have Eb := Eb.keep K111
  have Vt := Vt.keep K111 nin0
  have O := O.keep K111 (all0)
  have Z0'' := Nat.le_trans Z0' K111.1
  have Kp := Kp.trans K111 all0
  refine own_st (T' := T111) (g' := (mkF m 15 #[.val (.ref la), .val (.ref b)] [(.ref x), (.ref la)])) st111 ?_
  have VD := VD0.ext O.2
  have SD := SD0.ext O.2
  have lt_la := Fm.lt
  have lt_b := Gv.lt
  have lt_t := Vt.lt
  have lt_x := Ex.lt
  obtain ⟨cq112, kq112, q112a, q112b, q112c⟩ := isOf hZ rfl El
  obtain ⟨vq112, _, ⟨T112, L112, k112, n112⟩, -, X112, ⟨Lc112, hQ112, l112, y112, z112⟩, st112⟩ := X111.interfaceBack hx (xi := (⟨"java/util/List", "add", "(Ljava/lang/Object;)Z"⟩ : MethodName)) (y := (⟨"java/util/ArrayList", "add", "(Ljava/lang/Object;)Z"⟩ : MethodName)) hown (mvT hZ (hw _ (List.mem_of_getElem? (i := 205) rfl))) (mvT hZ (hw _ (List.mem_of_getElem? (i := 206) rfl))) (mvT hZ (hw _ (List.mem_of_getElem? (i := 207) rfl))) (mvT hZ (hw _ (List.mem_of_getElem? (i := 208) rfl))) (mvT hZ (hw _ (List.mem_of_getElem? (i := 209) rfl))) (mvT hZ (hw _ (List.mem_of_getElem? (i := 210) rfl))) (mvT hZ (hw _ (List.mem_of_getElem? (i := 211) rfl))) (mvT hZ (hw _ (List.mem_of_getElem? (i := 212) rfl))) (by decide) (backOf (W := 0) (own_alAdd l Z a0 hw [] la aD kD fD (0 : Int32) x T111.heap n0 Z0'' Fm Fe Fs El gl VD nD SD (Ins.of_exa Ex (hw _ (List.mem_of_getElem? (i := 238) rfl)))) hZ (hw _ (List.mem_of_getElem? (i := 213) rfl)) (hw _ (List.mem_of_getElem? (i := 56) rfl)) (by decide) (by decide)) q112a q112b q112c (g := (mkF m 15 #[.val (.ref la), .val (.ref b)] [(.ref x), (.ref la)])) rfl (by rw [hml]; rfl) (Steps.refl _) (argsL := [(.ref x)]) (rest := []) (lenOf own_pd27 rfl) rfl (by show 2 * 0 + _ ≤ _; exact Nat.le_of_eq rfl) (hb hby d26_15) (fun _ _ => ⟨rfl, rfl, (by decide : (((0 + 0) + 2) + 1) + 1 ≤ _), (by decide : (((0 + 0) + 5) + 2) + 10 ≤ _)⟩)
  dsimp only [Pt.U, Pt.locs, Pt.cells, Pt.slots] at X112 l112 y112 z112 st112 hQ112
  subst l112 y112 z112
  obtain ⟨rfl, N112q, K112, ta, ka, gta, Va, Fe, Fs⟩ := hQ112
  have N0'''' := Fr.app N0''' N112q
  have ne_la_ta : la ≠ ta := own_ne2 lt_la gta
  have ne_b_ta : b ≠ ta := own_ne2 lt_b gta
  have ne_t_ta : t ≠ ta := own_ne2 lt_t gta
  have ne_x_ta : x ≠ ta := own_ne2 lt_x gta
  have ge_ta : n0 ≤ ta := Nat.le_trans Z0'' gta
  have sz_ta : h0.size ≤ ta := Nat.le_trans Kp.1 gta
  have El := El.keep K112
  have Gv := Gv.keep K112 (ninS (Ne.symm nlb) nin0)
  have Gc := Gc.keep K112 (ninS (Ne.symm nlb) nin0)
  have Gn := Gn.keep K112 (ninS (Ne.symm nlb) nin0)
  have Gm := Gm.keep K112 (ninS (Ne.symm nlb) nin0)
  have Eb := Eb.keep K112
  have Vt := Vt.keep K112 (ninS (Ne.symm nlt) nin0)
  have O := O.keep K112 ((allS gl all0))
  have Ex := Ex.keep K112
  have Fx := Fx.keep K112 (ninS (Ne.symm ne_la_x) nin0)
  have Z0''' := Nat.le_trans Z0'' K112.1
  have Kp := Kp.trans K112 (allS (P := fun x => x ∈ [la, b] ∨ h0.size ≤ x) (Or.inl (List.mem_of_getElem? (i := 0) rfl)) all0)
  refine own_tr (T' := T112) (g' := (mkF m 20 #[.val (.ref la), .val (.ref b)] [(.int (1 : Int32))])) st112 ?_
  refine own_st (T' := T112) (g' := (mkF m 21 #[.val (.ref la), .val (.ref b)] [])) (fun _ k => XS.pop X112.here hx rfl (hb hby d26_20) rfl rfl k) ?_
  refine own_st (T' := T112) (g' := (mkF m 22 #[.val (.ref la), .val (.ref b)] [(.ref b)])) (fun _ k => XS.aloadN X112.here hx rfl (hb hby d26_21) rfl rfl k) ?_
  refine own_st (T' := T112) (g' := (mkF m 23 #[.val (.ref la), .val (.ref b)] [(.int (0 : Int32)), (.ref b)])) (fun _ k => XS.iconst X112.here hx rfl (hb hby d26_22) k) ?_
  obtain ⟨cq113, kq113, q113a, q113b, q113c⟩ := isOf hZ rfl Eb
  obtain ⟨vq113, _, ⟨T113, L113, k113, n113⟩, -, X113, ⟨Lc113, hQ113, l113, y113, z113⟩, st113⟩ := X112.virtualBack hx (y := (⟨"java/lang/StringBuilder", "setLength", "(I)V"⟩ : MethodName)) (z := (⟨"java/lang/StringBuilder", "setLength", "(I)V"⟩ : MethodName)) hown (mvT hZ (hw _ (List.mem_of_getElem? (i := 239) rfl))) (mvT hZ (hw _ (List.mem_of_getElem? (i := 240) rfl))) (notFace_of_selects (args := #[]) (mvT hZ (hw _ (List.mem_of_getElem? (i := 242) rfl)))) (mvT hZ (hw _ (List.mem_of_getElem? (i := 242) rfl))) (mvT hZ (hw _ (List.mem_of_getElem? (i := 241) rfl))) (by decide) (backOf (W := 0) (own_ssl l Z a0 hw [] b t kt f T112.heap n0 Z0''' Gv Gc Gn Gm Eb Vt gb nt) hZ (hw _ (List.mem_of_getElem? (i := 243) rfl)) (hw _ (List.mem_of_getElem? (i := 80) rfl)) (by decide) (by decide)) q113a q113c (g := (mkF m 23 #[.val (.ref la), .val (.ref b)] [(.int (0 : Int32)), (.ref b)])) rfl (by rw [hml]; rfl) (Steps.refl _) (argsL := [(.int (0 : Int32))]) (rest := []) (lenOf own_pd19 rfl) rfl (by show 2 * 0 + _ ≤ _; exact Nat.le_of_eq rfl) (hb hby d26_23) (fun _ _ => ⟨rfl, rfl, (by decide : ((((0 + 0) + 2) + 1) + 1) + 0 ≤ _), (by decide : ((((0 + 0) + 5) + 2) + 10) + 0 ≤ _)⟩)
  dsimp only [Pt.U, Pt.locs, Pt.cells, Pt.slots] at X113 l113 y113 z113 st113 hQ113
  subst l113 y113 z113
  obtain ⟨rfl, N113q, K113⟩ := hQ113
  have N0''''' := Fr.app N0'''' N113q
  have El := El.keep K113
  have Eb := Eb.keep K113
  have Vt := Vt.keep K113 (ninS nt nin0)
  have O := O.keep K113 ((allS gb all0))
  have Ex := Ex.keep K113
  have Fx := Fx.keep K113 (ninS (Ne.symm ne_b_x) nin0)
  have Fe := Fe.keep K113 (ninS nlb nin0)
  have Fs := Fs.keep K113 (ninS nlb nin0)
  have Va := Va.keep K113 (ninS (Ne.symm ne_b_ta) nin0)
  have Z0'''' := Nat.le_trans Z0''' K113.1
  have Kp := Kp.trans K113 (allS (P := fun x => x ∈ [la, b] ∨ h0.size ≤ x) (Or.inl (List.mem_of_getElem? (i := 1) rfl)) all0)
  refine own_tr (T' := T113) (g' := (mkF m 26 #[.val (.ref la), .val (.ref b)] [])) st113 ?_
  exact own_ret0 X113 hx Bd.returns Bd.notSynchronized rfl (hb hby d26_26) ⟨rfl, N0''''', Kp, ta, ka, x, Fe, Fs, Va, Ex, Fx⟩ (by decide) (by decide)
theorem own_pd28 : parseMethodDescriptor "(C)Ljava/lang/StringBuilder;" = some ⟨[.char], some (.object "java/lang/StringBuilder")⟩ := by decide +kernel
theorem own_pd29 : parseMethodDescriptor "(Ljava/util/List;Ljava/lang/StringBuilder;)V" = some ⟨[(.object "java/util/List"), (.object "java/lang/StringBuilder")], none⟩ := by decide +kernel
theorem own_pd30 : parseMethodDescriptor "(II)Ljava/lang/String;" = some ⟨[.int, .int], some (.object "java/lang/String")⟩ := by decide +kernel
theorem d9_0 : decode prog_75_method_11_code 0 = .ok (.new 107, 3) := by decide +kernel
theorem d9_3 : decode prog_75_method_11_code 3 = .ok (.dup, 1) := by decide +kernel
theorem d9_4 : decode prog_75_method_11_code 4 = .ok (.invokespecial 199, 3) := by decide +kernel
theorem d9_7 : decode prog_75_method_11_code 7 = .ok (.astore_n 1, 1) := by decide +kernel
theorem d9_8 : decode prog_75_method_11_code 8 = .ok (.new 261, 3) := by decide +kernel
theorem d9_11 : decode prog_75_method_11_code 11 = .ok (.dup, 1) := by decide +kernel
theorem d9_12 : decode prog_75_method_11_code 12 = .ok (.invokespecial 263, 3) := by decide +kernel
theorem d9_15 : decode prog_75_method_11_code 15 = .ok (.astore_n 2, 1) := by decide +kernel
theorem d9_16 : decode prog_75_method_11_code 16 = .ok (.iconst 0, 1) := by decide +kernel
theorem d9_17 : decode prog_75_method_11_code 17 = .ok (.istore_n 3, 1) := by decide +kernel
theorem d9_18 : decode prog_75_method_11_code 18 = .ok (.iload_n 3, 1) := by decide +kernel
theorem d9_19 : decode prog_75_method_11_code 19 = .ok (.aload_n 0, 1) := by decide +kernel
theorem d9_20 : decode prog_75_method_11_code 20 = .ok (.invokevirtual 47, 3) := by decide +kernel
theorem d9_23 : decode prog_75_method_11_code 23 = .ok (.if_icmp .ge 231, 3) := by decide +kernel
theorem d9_26 : decode prog_75_method_11_code 26 = .ok (.aload_n 0, 1) := by decide +kernel
theorem d9_27 : decode prog_75_method_11_code 27 = .ok (.iload_n 3, 1) := by decide +kernel
theorem d9_28 : decode prog_75_method_11_code 28 = .ok (.invokevirtual 264, 3) := by decide +kernel
theorem d9_31 : decode prog_75_method_11_code 31 = .ok (.istore 4, 2) := by decide +kernel
theorem d9_33 : decode prog_75_method_11_code 33 = .ok (.iload 4, 2) := by decide +kernel
theorem d9_35 : decode prog_75_method_11_code 35 = .ok (.bipush 39, 2) := by decide +kernel
theorem d9_37 : decode prog_75_method_11_code 37 = .ok (.if_icmp .ne 119, 3) := by decide +kernel
theorem d9_40 : decode prog_75_method_11_code 40 = .ok (.iload_n 3, 1) := by decide +kernel
theorem d9_41 : decode prog_75_method_11_code 41 = .ok (.iconst 1, 1) := by decide +kernel
theorem d9_42 : decode prog_75_method_11_code 42 = .ok (.iadd, 1) := by decide +kernel
theorem d9_43 : decode prog_75_method_11_code 43 = .ok (.istore 5, 2) := by decide +kernel
theorem d9_45 : decode prog_75_method_11_code 45 = .ok (.iload 5, 2) := by decide +kernel
theorem d9_47 : decode prog_75_method_11_code 47 = .ok (.aload_n 0, 1) := by decide +kernel
theorem d9_48 : decode prog_75_method_11_code 48 = .ok (.invokevirtual 47, 3) := by decide +kernel
theorem d9_51 : decode prog_75_method_11_code 51 = .ok (.if_icmp .ge 82, 3) := by decide +kernel
theorem d9_133 : decode prog_75_method_11_code 133 = .ok (.iload 5, 2) := by decide +kernel
theorem d9_135 : decode prog_75_method_11_code 135 = .ok (.iload_n 3, 1) := by decide +kernel
theorem d9_136 : decode prog_75_method_11_code 136 = .ok (.iconst 1, 1) := by decide +kernel
theorem d9_137 : decode prog_75_method_11_code 137 = .ok (.iadd, 1) := by decide +kernel
theorem d9_138 : decode prog_75_method_11_code 138 = .ok (.if_icmp .ne 10, 3) := by decide +kernel
theorem d9_141 : decode prog_75_method_11_code 141 = .ok (.aload_n 2, 1) := by decide +kernel
theorem d9_142 : decode prog_75_method_11_code 142 = .ok (.bipush 39, 2) := by decide +kernel
theorem d9_144 : decode prog_75_method_11_code 144 = .ok (.invokevirtual 268, 3) := by decide +kernel
theorem d9_147 : decode prog_75_method_11_code 147 = .ok (.pop, 1) := by decide +kernel
theorem d9_148 : decode prog_75_method_11_code 148 = .ok (.iload 5, 2) := by decide +kernel
theorem d9_150 : decode prog_75_method_11_code 150 = .ok (.iconst 1, 1) := by decide +kernel
theorem d9_151 : decode prog_75_method_11_code 151 = .ok (.iadd, 1) := by decide +kernel
theorem d9_152 : decode prog_75_method_11_code 152 = .ok (.istore_n 3, 1) := by decide +kernel
theorem d9_153 : decode prog_75_method_11_code 153 = .ok (.goto 98, 3) := by decide +kernel
theorem d9_156 : decode prog_75_method_11_code 156 = .ok (.iload 4, 2) := by decide +kernel
theorem d9_158 : decode prog_75_method_11_code 158 = .ok (.bipush 65, 2) := by decide +kernel
theorem d9_160 : decode prog_75_method_11_code 160 = .ok (.if_icmp .lt 10, 3) := by decide +kernel
theorem d9_163 : decode prog_75_method_11_code 163 = .ok (.iload 4, 2) := by decide +kernel
theorem d9_165 : decode prog_75_method_11_code 165 = .ok (.bipush 90, 2) := by decide +kernel
theorem d9_167 : decode prog_75_method_11_code 167 = .ok (.if_icmp .le 17, 3) := by decide +kernel
theorem d9_170 : decode prog_75_method_11_code 170 = .ok (.iload 4, 2) := by decide +kernel
theorem d9_172 : decode prog_75_method_11_code 172 = .ok (.bipush 97, 2) := by decide +kernel
theorem d9_174 : decode prog_75_method_11_code 174 = .ok (.if_icmp .lt 67, 3) := by decide +kernel
theorem d9_177 : decode prog_75_method_11_code 177 = .ok (.iload 4, 2) := by decide +kernel
theorem d9_179 : decode prog_75_method_11_code 179 = .ok (.bipush 122, 2) := by decide +kernel
theorem d9_181 : decode prog_75_method_11_code 181 = .ok (.if_icmp .gt 60, 3) := by decide +kernel
theorem d9_184 : decode prog_75_method_11_code 184 = .ok (.iload_n 3, 1) := by decide +kernel
theorem d9_185 : decode prog_75_method_11_code 185 = .ok (.istore 5, 2) := by decide +kernel
theorem d9_187 : decode prog_75_method_11_code 187 = .ok (.iload 5, 2) := by decide +kernel
theorem d9_189 : decode prog_75_method_11_code 189 = .ok (.aload_n 0, 1) := by decide +kernel
theorem d9_190 : decode prog_75_method_11_code 190 = .ok (.invokevirtual 47, 3) := by decide +kernel
theorem d9_193 : decode prog_75_method_11_code 193 = .ok (.if_icmp .ge 20, 3) := by decide +kernel
theorem d9_196 : decode prog_75_method_11_code 196 = .ok (.aload_n 0, 1) := by decide +kernel
theorem d9_197 : decode prog_75_method_11_code 197 = .ok (.iload 5, 2) := by decide +kernel
theorem d9_199 : decode prog_75_method_11_code 199 = .ok (.invokevirtual 264, 3) := by decide +kernel
theorem d9_202 : decode prog_75_method_11_code 202 = .ok (.iload 4, 2) := by decide +kernel
theorem d9_204 : decode prog_75_method_11_code 204 = .ok (.if_icmp .ne 9, 3) := by decide +kernel
theorem d9_207 : decode prog_75_method_11_code 207 = .ok (.iinc 5 1, 3) := by decide +kernel
theorem d9_210 : decode prog_75_method_11_code 210 = .ok (.goto (-23), 3) := by decide +kernel
theorem d9_213 : decode prog_75_method_11_code 213 = .ok (.aload_n 1, 1) := by decide +kernel
theorem d9_214 : decode prog_75_method_11_code 214 = .ok (.aload_n 2, 1) := by decide +kernel
theorem d9_215 : decode prog_75_method_11_code 215 = .ok (.invokestatic 272, 3) := by decide +kernel
theorem d9_218 : decode prog_75_method_11_code 218 = .ok (.aload_n 1, 1) := by decide +kernel
theorem d9_219 : decode prog_75_method_11_code 219 = .ok (.aload_n 0, 1) := by decide +kernel
theorem d9_220 : decode prog_75_method_11_code 220 = .ok (.iload_n 3, 1) := by decide +kernel
theorem d9_221 : decode prog_75_method_11_code 221 = .ok (.iload 5, 2) := by decide +kernel
theorem d9_223 : decode prog_75_method_11_code 223 = .ok (.invokevirtual 60, 3) := by decide +kernel
theorem d9_226 : decode prog_75_method_11_code 226 = .ok (.invokestatic 109, 3) := by decide +kernel
theorem d9_229 : decode prog_75_method_11_code 229 = .ok (.invokeinterface 200 2, 5) := by decide +kernel
theorem d9_234 : decode prog_75_method_11_code 234 = .ok (.pop, 1) := by decide +kernel
theorem d9_235 : decode prog_75_method_11_code 235 = .ok (.iload 5, 2) := by decide +kernel
theorem d9_237 : decode prog_75_method_11_code 237 = .ok (.istore_n 3, 1) := by decide +kernel
theorem d9_238 : decode prog_75_method_11_code 238 = .ok (.goto 13, 3) := by decide +kernel
theorem d9_241 : decode prog_75_method_11_code 241 = .ok (.aload_n 2, 1) := by decide +kernel
theorem d9_242 : decode prog_75_method_11_code 242 = .ok (.iload 4, 2) := by decide +kernel
theorem d9_244 : decode prog_75_method_11_code 244 = .ok (.invokevirtual 268, 3) := by decide +kernel
theorem d9_247 : decode prog_75_method_11_code 247 = .ok (.pop, 1) := by decide +kernel
theorem d9_248 : decode prog_75_method_11_code 248 = .ok (.iinc 3 1, 3) := by decide +kernel
theorem d9_251 : decode prog_75_method_11_code 251 = .ok (.goto (-233), 3) := by decide +kernel
theorem d9_254 : decode prog_75_method_11_code 254 = .ok (.aload_n 1, 1) := by decide +kernel
theorem d9_255 : decode prog_75_method_11_code 255 = .ok (.aload_n 2, 1) := by decide +kernel
theorem d9_256 : decode prog_75_method_11_code 256 = .ok (.invokestatic 272, 3) := by decide +kernel
theorem d9_259 : decode prog_75_method_11_code 259 = .ok (.aload_n 1, 1) := by decide +kernel
theorem d9_260 : decode prog_75_method_11_code 260 = .ok (.areturn, 1) := by decide +kernel
def own_tkn_Q (Z : State) (a : Addr) (t : Addr) (kt : ClassId) (x : Int32) (q : Int32) (cc : Int32) (fm : Value) (aD : Addr) (kD : ClassId) (fD : Nat → Value) (h0 : Heap) (n0 : Nat) (v : Option Value) (h : Heap) (L : List Loc) : Prop := ∃ la ta ka x lw, v = some (.ref la) ∧ Fr n0 L ∧ Keep h0 h [] ∧ Exa Z h la "java/util/ArrayList" ∧ Fld Z h la "java/util/ArrayList" "elementData" "[Ljava/lang/Object;" (.ref ta) ∧ Fld Z h la "java/util/ArrayList" "size" "I" (.int (1 : Int32)) ∧ own_Av Z h ta ka (.object "java/lang/Object") 10 (fun q => if q = 0 then (.ref x) else .null) ∧ Exa Z h x "com/example/idiolect/idiolect/internal/datetime/DateTimePatterns$Token" ∧ Fld Z h x "com/example/idiolect/idiolect/internal/datetime/DateTimePatterns$Token" "letter" "C" (.int lw) ∧ ((own_isL q ∧ lw = q) ∨ (¬ own_isL q ∧ lw = 0))
set_option maxRecDepth 65536 in
set_option maxHeartbeats 40000000 in
theorem own_tkn (l : Launch) (Z : State) (a0 : Array Value) (hw : ∀ d ∈ tables_1, d.before a0 Z = true) (ws : List Jvm.Cond) (a : Addr) (t : Addr) (kt : ClassId) (x : Int32) (q : Int32) (cc : Int32) (fm : Value) (aD : Addr) (kD : ClassId) (fD : Nat → Value) (h0 : Heap) (n0 : Nat) (Z0 : n0 ≤ h0.size) (Ea : Exa Z h0 a "java/lang/String") (Fv : Fld Z h0 a "java/lang/String" "value" "[B" (.ref t)) (Fc : Fld Z h0 a "java/lang/String" "coder" "B" (.int (0 : Int32))) (Vt : own_Av Z h0 t kt .byte 1 (fun _ => .int x)) (O : Old Z n0 h0) (SC0 : Sta Z Z.heap "java/lang/String" "COMPACT_STRINGS" "Z" (.int cc)) (hcs : ¬ cc = (0 : Int32)) (SF0 : Sta Z Z.heap "jdk/internal/util/Preconditions" "SIOOBE_FORMATTER" "Ljava/util/function/BiFunction;" fm) (hfm : fm.isRef = true) (SD0 : Sta Z Z.heap "java/util/ArrayList" "DEFAULTCAPACITY_EMPTY_ELEMENTDATA" "[Ljava/lang/Object;" (.ref aD)) (VD0 : own_Av Z Z.heap aD kD (.object "java/lang/Object") 0 fD) (hn0 : Z.heap.size ≤ n0) (hch : ¬ (255 : Int32) < q) (hq : nar .char (x &&& (255 : Int32)).toUInt32.toUInt16.toUInt32.toInt32 = q) (hqq : nar .char q = q) :
    MetFree l (⟨"com/example/idiolect/idiolect/internal/datetime/DateTimePatterns", "tokens", "(Ljava/lang/String;)Ljava/util/List;"⟩ : MethodName) (head1 (Jvm.Cond.code (⟨"com/example/idiolect/idiolect/internal/datetime/DateTimePatterns", "tokens", "(Ljava/lang/String;)Ljava/util/List;"⟩ : MethodName) prog_75_method_11_code 6 (some (.object "java/util/List")) :: ws) ({ frames := 7, cells := 14, slots := 80, locals := 127 } : Room)) (fun aa U0 => aa = #[(.ref a)] ∧ Z.Warmed39 U0.vm ∧ U0.heap = h0) (fun _ _ _ _ _ => True) (fun _ U0 o0 U1 => ∃ v0 L0, o0 = .returned v0 ∧ own_tkn_Q Z a t kt x q cc fm aD kD fD h0 n0 v0 U1.heap L0 ∧ FrameEnd U0 o0 U1 L0 ({ frames := 7, cells := 14, slots := 80, locals := 127 } : Room).cells ({ frames := 7, cells := 14, slots := 80, locals := 127 } : Room).slots) := by
  refine MetFree.of_bodySF (plainFor_of_name own_pn12) hisR ?_
  intro p e s m args below meth c s₁ Bd hml0 hP hK
  obtain ⟨rfl, hZ, hh⟩ := hP
  have hx := Bd.exec
  have hby := Bd.bytes
  have hml : c.maxLocals = 6 := hml0
  have hown : s.vm.findClass "com/example/idiolect/idiolect/internal/datetime/DateTimePatterns" = some m.cls := findClass_of_methodNamed Bd.named
  have hnm := (name_of_methodNamed Bd.named Bd.method).1
  have X0 : Stand p l e ({ frames := 7, cells := 14, slots := 80, locals := 127 } : Room) s m #[(.ref a)] below meth c s₁ [] 0 0 := Stand.of_body Bd
  have e0 : s₁.heap = h0 := by rw [← hh, Bd.state]; rfl
  have N0 := Fr.nil n0
  show own_Go p e below s (own_tkn_Q Z a t kt x q cc fm aD kD fD h0 n0) 14 80 s₁ (entryFrame m #[(.ref a)] 6)
  rw [show entryFrame m #[(.ref a)] 6 = mkF m 0 #[.val (.ref a), .unset, .unset, .unset, .unset, .unset] [] from by first | (simp [entryFrame, mkF, argsToLocals, Value.category]; done) | rfl]
  have Kp := Keep.refl h0 []
  obtain ⟨T114, h114, X114, e114, E114, A114, D114, -, st114⟩ := newO X0 hx hZ hown (hw _ (List.mem_of_getElem? (i := 54) rfl)) (hw _ (List.mem_of_getElem? (i := 55) rfl)) (hw _ (List.mem_of_getElem? (i := 56) rfl)) e0 (g := (mkF m 0 #[.val (.ref a), .unset, .unset, .unset, .unset, .unset] [])) rfl (hb hby d9_0) (by decide) (by decide)
  obtain ⟨la, gla⟩ : ∃ z, z = h0.size := ⟨_, rfl⟩
  rw [← gla] at A114 D114 st114
  have ne_a_la : a ≠ la := own_ne Ea.lt gla
  have ne_t_la : t ≠ la := own_ne Vt.lt gla
  have ge_la : n0 ≤ la := own_ge Z0 gla
  have sz_la : h0.size ≤ la := own_ge Kp.1 gla
  have Ea := Ea.ext E114
  have Fv := Fv.ext E114
  have Fc := Fc.ext E114
  have Vt := Vt.ext E114
  have O := O.ext E114
  have Z0' := Nat.le_trans Z0 E114.1
  have Kp := Kp.ext E114
  have E_la := A114
  have F_modCount_la : Fld Z h114 la "java/util/AbstractList" "modCount" "I" (.int (0 : Int32)) := D114 (Or.inl (hw _ (List.mem_of_getElem? (i := 74) rfl))) (ty := .int) (by decide)
  have F_elementData_la : Fld Z h114 la "java/util/ArrayList" "elementData" "[Ljava/lang/Object;" .null := D114 (Or.inl (hw _ (List.mem_of_getElem? (i := 77) rfl))) (ty := (.array (.object "java/lang/Object"))) (by decide)
  have F_size_la : Fld Z h114 la "java/util/ArrayList" "size" "I" (.int (0 : Int32)) := D114 (Or.inl (hw _ (List.mem_of_getElem? (i := 217) rfl))) (ty := .int) (by decide)
  refine own_st (T' := T114) (g' := (mkF m 3 #[.val (.ref a), .unset, .unset, .unset, .unset, .unset] [(.ref la)])) st114 ?_
  refine own_st (T' := T114) (g' := (mkF m 4 #[.val (.ref a), .unset, .unset, .unset, .unset, .unset] [(.ref la), (.ref la)])) (fun _ k => XS.dup X114.here hx rfl (hb hby d9_3) rfl rfl k) ?_
  have VD := VD0.ext O.2
  obtain ⟨vq115, _, ⟨T115, L115, k115, n115⟩, -, X115, ⟨Lc115, hQ115, l115, y115, z115⟩, st115⟩ := X114.specialBack hx (y := (⟨"java/util/ArrayList", "<init>", "()V"⟩ : MethodName)) rfl hown (mvT hZ (hw _ (List.mem_of_getElem? (i := 57) rfl))) (mvT hZ (hw _ (List.mem_of_getElem? (i := 58) rfl))) (mvT hZ (hw _ (List.mem_of_getElem? (i := 59) rfl))) (by decide) (backOf (W := 1) (own_alIni l Z a0 hw [] la aD h114 n0 Z0' F_modCount_la F_elementData_la F_size_la E_la ge_la O SD0) hZ (hw _ (List.mem_of_getElem? (i := 59) rfl)) (hw _ (List.mem_of_getElem? (i := 56) rfl)) (by decide) (by decide)) (g := (mkF m 4 #[.val (.ref a), .unset, .unset, .unset, .unset, .unset] [(.ref la), (.ref la)])) rfl (by rw [hml]; rfl) (Steps.refl _) (a := la) (argsL := []) (rest := [(.ref la)]) (lenOf own_pd3 rfl) rfl (by show 2 * 0 + _ ≤ _; exact Nat.le_of_eq rfl) (hb hby d9_4) (fun _ _ => ⟨rfl, e114, (by decide : (0 + 1) + 0 ≤ _), (by decide : (0 + 3) + 0 ≤ _)⟩)
  dsimp only [Pt.U, Pt.locs, Pt.cells, Pt.slots] at X115 l115 y115 z115 st115 hQ115
  subst l115 y115 z115
  obtain ⟨rfl, N115q, K115, -, Fm, Fe, Fs⟩ := hQ115
  have N0' := Fr.app N0 N115q
  have Ea := Ea.keep K115
  have Fv := Fv.keep K115 (ninS ne_a_la nin0)
  have Fc := Fc.keep K115 (ninS ne_a_la nin0)
  have Vt := Vt.keep K115 (ninS ne_t_la nin0)
  have O := O.keep K115 ((allS ge_la all0))
  have E_la := E_la.keep K115
  have Z0'' := Nat.le_trans Z0' K115.1
  have Kp := Kp.trans K115 (allS (P := fun x => x ∈ [] ∨ h0.size ≤ x) (Or.inr sz_la) all0)
  refine own_tr (T' := T115) (g' := (mkF m 7 #[.val (.ref a), .unset, .unset, .unset, .unset, .unset] [(.ref la)])) st115 ?_
  have El := E_la
  have gl := ge_la
  have nD : aD ≠ la := own_ne2 VD0.lt (Nat.le_trans hn0 ge_la)
  refine own_st (T' := T115) (g' := (mkF m 8 #[.val (.ref a), .val (.ref la), .unset, .unset, .unset, .unset] [])) (fun _ k => XS.astoreN X115.here hx rfl (hb hby d9_7) rfl rfl (l' := #[.val (.ref a), .val (.ref la), .unset, .unset, .unset, .unset]) rfl k) ?_
  obtain ⟨T116, h116, X116, e116, E116, A116, D116, -, st116⟩ := newO X115 hx hZ hown (hw _ (List.mem_of_getElem? (i := 78) rfl)) (hw _ (List.mem_of_getElem? (i := 79) rfl)) (hw _ (List.mem_of_getElem? (i := 80) rfl)) rfl (g := (mkF m 8 #[.val (.ref a), .val (.ref la), .unset, .unset, .unset, .unset] [])) rfl (hb hby d9_8) (by decide) (by decide)
  obtain ⟨b, gb⟩ : ∃ z, z = T115.heap.size := ⟨_, rfl⟩
  rw [← gb] at A116 D116 st116
  have ne_a_b : a ≠ b := own_ne Ea.lt gb
  have ne_t_b : t ≠ b := own_ne Vt.lt gb
  have ne_la_b : la ≠ b := own_ne Fm.lt gb
  have ge_b : n0 ≤ b := own_ge Z0'' gb
  have sz_b : h0.size ≤ b := own_ge Kp.1 gb
  have Ea := Ea.ext E116
  have Fv := Fv.ext E116
  have Fc := Fc.ext E116
  have Vt := Vt.ext E116
  have O := O.ext E116
  have Fm := Fm.ext E116
  have Fe := Fe.ext E116
  have Fs := Fs.ext E116
  have El := El.ext E116
  have Z0''' := Nat.le_trans Z0'' E116.1
  have Kp := Kp.ext E116
  have E_b := A116
  have F_value_b : Fld Z h116 b "java/lang/AbstractStringBuilder" "value" "[B" .null := D116 (Or.inl (hw _ (List.mem_of_getElem? (i := 93) rfl))) (ty := (.array .byte)) (by decide)
  have F_coder_b : Fld Z h116 b "java/lang/AbstractStringBuilder" "coder" "B" (.int (0 : Int32)) := D116 (Or.inl (hw _ (List.mem_of_getElem? (i := 95) rfl))) (ty := .byte) (by decide)
  have F_count_b : Fld Z h116 b "java/lang/AbstractStringBuilder" "count" "I" (.int (0 : Int32)) := D116 (Or.inl (hw _ (List.mem_of_getElem? (i := 138) rfl))) (ty := .int) (by decide)
  have F_maybeLatin1_b : Fld Z h116 b "java/lang/AbstractStringBuilder" "maybeLatin1" "Z" (.int (0 : Int32)) := D116 (Or.inl (hw _ (List.mem_of_getElem? (i := 249) rfl))) (ty := .boolean) (by decide)
  refine own_st (T' := T116) (g' := (mkF m 11 #[.val (.ref a), .val (.ref la), .unset, .unset, .unset, .unset] [(.ref b)])) st116 ?_
  refine own_st (T' := T116) (g' := (mkF m 12 #[.val (.ref a), .val (.ref la), .unset, .unset, .unset, .unset] [(.ref b), (.ref b)])) (fun _ k => XS.dup X116.here hx rfl (hb hby d9_11) rfl rfl k) ?_
  have lt_a := Ea.lt
  have lt_t := Vt.lt
  have lt_la := Fm.lt
  have lt_b := E_b.lt
  obtain ⟨vq117, _, ⟨T117, L117, k117, n117⟩, -, X117, ⟨Lc117, hQ117, l117, y117, z117⟩, st117⟩ := X116.specialBack hx (y := (⟨"java/lang/StringBuilder", "<init>", "()V"⟩ : MethodName)) rfl hown (mvT hZ (hw _ (List.mem_of_getElem? (i := 81) rfl))) (mvT hZ (hw _ (List.mem_of_getElem? (i := 82) rfl))) (mvT hZ (hw _ (List.mem_of_getElem? (i := 83) rfl))) (by decide) (backOf (W := 1) (own_sbi l Z a0 hw [] b cc h116 n0 Z0''' F_value_b F_coder_b F_count_b F_maybeLatin1_b E_b ge_b (SC0.ext O.2) hcs) hZ (hw _ (List.mem_of_getElem? (i := 83) rfl)) (hw _ (List.mem_of_getElem? (i := 80) rfl)) (by decide) (by decide)) (g := (mkF m 12 #[.val (.ref a), .val (.ref la), .unset, .unset, .unset, .unset] [(.ref b), (.ref b)])) rfl (by rw [hml]; rfl) (Steps.refl _) (a := b) (argsL := []) (rest := [(.ref b)]) (lenOf own_pd3 rfl) rfl (by show 2 * 0 + _ ≤ _; exact Nat.le_of_eq rfl) (hb hby d9_12) (fun _ _ => ⟨rfl, e116, (by decide : (((0 + 1) + 0) + 1) + 1 ≤ _), (by decide : (((0 + 3) + 0) + 4) + 16 ≤ _)⟩)
  dsimp only [Pt.U, Pt.locs, Pt.cells, Pt.slots] at X117 l117 y117 z117 st117 hQ117
  subst l117 y117 z117
  obtain ⟨rfl, N117q, K117, tb, ktb, gtb, Eb, Gv, Gc, Gn, Gm, Vb⟩ := hQ117
  have N0'' := Fr.app N0' N117q
  have ne_a_tb : a ≠ tb := own_ne2 lt_a gtb
  have ne_t_tb : t ≠ tb := own_ne2 lt_t gtb
  have ne_la_tb : la ≠ tb := own_ne2 lt_la gtb
  have ne_b_tb : b ≠ tb := own_ne2 lt_b gtb
  have ge_tb : n0 ≤ tb := Nat.le_trans Z0''' gtb
  have sz_tb : h0.size ≤ tb := Nat.le_trans Kp.1 gtb
  have Ea := Ea.keep K117
  have Fv := Fv.keep K117 (ninS ne_a_b nin0)
  have Fc := Fc.keep K117 (ninS ne_a_b nin0)
  have Vt := Vt.keep K117 (ninS ne_t_b nin0)
  have O := O.keep K117 ((allS ge_b all0))
  have Fm := Fm.keep K117 (ninS ne_la_b nin0)
  have Fe := Fe.keep K117 (ninS ne_la_b nin0)
  have Fs := Fs.keep K117 (ninS ne_la_b nin0)
  have El := El.keep K117
  have Z0'''' := Nat.le_trans Z0''' K117.1
  have Kp := Kp.trans K117 (allS (P := fun x => x ∈ [] ∨ h0.size ≤ x) (Or.inr sz_b) all0)
  refine own_tr (T' := T117) (g' := (mkF m 15 #[.val (.ref a), .val (.ref la), .unset, .unset, .unset, .unset] [(.ref b)])) st117 ?_
  refine own_st (T' := T117) (g' := (mkF m 16 #[.val (.ref a), .val (.ref la), .val (.ref b), .unset, .unset, .unset] [])) (fun _ k => XS.astoreN X117.here hx rfl (hb hby d9_15) rfl rfl (l' := #[.val (.ref a), .val (.ref la), .val (.ref b), .unset, .unset, .unset]) rfl k) ?_
  refine own_st (T' := T117) (g' := (mkF m 17 #[.val (.ref a), .val (.ref la), .val (.ref b), .unset, .unset, .unset] [(.int (0 : Int32))])) (fun _ k => XS.iconst X117.here hx rfl (hb hby d9_16) k) ?_
  refine own_st (T' := T117) (g' := (mkF m 18 #[.val (.ref a), .val (.ref la), .val (.ref b), .val (.int (0 : Int32)), .unset, .unset] [])) (fun _ k => XS.istoreN X117.here hx rfl (hb hby d9_17) rfl (l' := #[.val (.ref a), .val (.ref la), .val (.ref b), .val (.int (0 : Int32)), .unset, .unset]) rfl k) ?_
  refine own_st (T' := T117) (g' := (mkF m 19 #[.val (.ref a), .val (.ref la), .val (.ref b), .val (.int (0 : Int32)), .unset, .unset] [(.int (0 : Int32))])) (fun _ k => XS.iloadN X117.here hx rfl (hb hby d9_18) rfl k) ?_
  refine own_st (T' := T117) (g' := (mkF m 20 #[.val (.ref a), .val (.ref la), .val (.ref b), .val (.int (0 : Int32)), .unset, .unset] [(.ref a), (.int (0 : Int32))])) (fun _ k => XS.aloadN X117.here hx rfl (hb hby d9_19) rfl rfl k) ?_
  obtain ⟨cq118, kq118, q118a, q118b, q118c⟩ := isOf hZ rfl Ea
  obtain ⟨vq118, _, ⟨T118, L118, k118, n118⟩, -, X118, ⟨Lc118, hQ118, l118, y118, z118⟩, st118⟩ := X117.virtualBack hx (y := (⟨"java/lang/String", "length", "()I"⟩ : MethodName)) (z := (⟨"java/lang/String", "length", "()I"⟩ : MethodName)) hown (mvT hZ (hw _ (List.mem_of_getElem? (i := 96) rfl))) (mvT hZ (hw _ (List.mem_of_getElem? (i := 97) rfl))) (notFace_of_selects (args := #[]) (mvT hZ (hw _ (List.mem_of_getElem? (i := 99) rfl)))) (mvT hZ (hw _ (List.mem_of_getElem? (i := 99) rfl))) (mvT hZ (hw _ (List.mem_of_getElem? (i := 98) rfl))) (by decide) (backOf (W := 1) (own_len1 l Z a0 hw [] a t kt x cc T117.heap n0 Z0'''' Ea Fv Fc Vt (SC0.ext O.2) hcs) hZ (hw _ (List.mem_of_getElem? (i := 100) rfl)) (hw _ (List.mem_of_getElem? (i := 1) rfl)) (by decide) (by decide)) q118a q118c (g := (mkF m 20 #[.val (.ref a), .val (.ref la), .val (.ref b), .val (.int (0 : Int32)), .unset, .unset] [(.ref a), (.int (0 : Int32))])) rfl (by rw [hml]; rfl) (Steps.refl _) (argsL := []) (rest := [(.int (0 : Int32))]) (lenOf own_pd14 rfl) rfl (by show 2 * 0 + _ ≤ _; exact Nat.le_of_eq rfl) (hb hby d9_20) (fun _ _ => ⟨rfl, rfl, (by decide : ((((0 + 1) + 0) + 1) + 1) + 0 ≤ _), (by decide : ((((0 + 3) + 0) + 4) + 16) + 0 ≤ _)⟩)
  dsimp only [Pt.U, Pt.locs, Pt.cells, Pt.slots] at X118 l118 y118 z118 st118 hQ118
  subst l118 y118 z118
  obtain ⟨rfl, N118q, e118⟩ := hQ118
  have N0''' := Fr.app N0'' N118q
  refine own_tr (T' := T118) (g' := (mkF m 23 #[.val (.ref a), .val (.ref la), .val (.ref b), .val (.int (0 : Int32)), .unset, .unset] [(.int (1 : Int32)), (.int (0 : Int32))])) st118 ?_
  refine own_st (T' := T118) (g' := (mkF m 26 #[.val (.ref a), .val (.ref la), .val (.ref b), .val (.int (0 : Int32)), .unset, .unset] [])) (fun _ k => XS.icmpNo X118.here hx rfl (hb hby d9_23) rfl (Jvm.Free.XT.ii_ge_f (by decide)) k) ?_
  refine own_st (T' := T118) (g' := (mkF m 27 #[.val (.ref a), .val (.ref la), .val (.ref b), .val (.int (0 : Int32)), .unset, .unset] [(.ref a)])) (fun _ k => XS.aloadN X118.here hx rfl (hb hby d9_26) rfl rfl k) ?_
  refine own_st (T' := T118) (g' := (mkF m 28 #[.val (.ref a), .val (.ref la), .val (.ref b), .val (.int (0 : Int32)), .unset, .unset] [(.int (0 : Int32)), (.ref a)])) (fun _ k => XS.iloadN X118.here hx rfl (hb hby d9_27) rfl k) ?_
  obtain ⟨cq119, kq119, q119a, q119b, q119c⟩ := isOf hZ e118 Ea
  obtain ⟨vq119, _, ⟨T119, L119, k119, n119⟩, -, X119, ⟨Lc119, hQ119, l119, y119, z119⟩, st119⟩ := X118.virtualBack hx (y := (⟨"java/lang/String", "charAt", "(I)C"⟩ : MethodName)) (z := (⟨"java/lang/String", "charAt", "(I)C"⟩ : MethodName)) hown (mvT hZ (hw _ (List.mem_of_getElem? (i := 106) rfl))) (mvT hZ (hw _ (List.mem_of_getElem? (i := 107) rfl))) (notFace_of_selects (args := #[]) (mvT hZ (hw _ (List.mem_of_getElem? (i := 109) rfl)))) (mvT hZ (hw _ (List.mem_of_getElem? (i := 109) rfl))) (mvT hZ (hw _ (List.mem_of_getElem? (i := 108) rfl))) (by decide) (backOf (W := 0) (own_ca l Z a0 hw [] a t kt x q cc fm T117.heap n0 Z0'''' Ea Fv Fc Vt (SC0.ext O.2) hcs (SF0.ext O.2) hfm hq hqq) hZ (hw _ (List.mem_of_getElem? (i := 110) rfl)) (hw _ (List.mem_of_getElem? (i := 1) rfl)) (by decide) (by decide)) q119a q119c (g := (mkF m 28 #[.val (.ref a), .val (.ref la), .val (.ref b), .val (.int (0 : Int32)), .unset, .unset] [(.int (0 : Int32)), (.ref a)])) rfl (by rw [hml]; rfl) (Steps.refl _) (argsL := [(.int (0 : Int32))]) (rest := []) (lenOf own_pd17 rfl) rfl (by show 2 * 0 + _ ≤ _; exact Nat.le_of_eq rfl) (hb hby d9_28) (fun _ _ => ⟨rfl, e118, (by decide : (((((0 + 1) + 0) + 1) + 1) + 0) + 0 ≤ _), (by decide : (((((0 + 3) + 0) + 4) + 16) + 0) + 0 ≤ _)⟩)
  dsimp only [Pt.U, Pt.locs, Pt.cells, Pt.slots] at X119 l119 y119 z119 st119 hQ119
  subst l119 y119 z119
  obtain ⟨rfl, N119q, e119⟩ := hQ119
  have N0'''' := Fr.app N0''' N119q
  refine own_tr (T' := T119) (g' := (mkF m 31 #[.val (.ref a), .val (.ref la), .val (.ref b), .val (.int (0 : Int32)), .unset, .unset] [(.int q)])) st119 ?_
  refine own_st (T' := T119) (g' := (mkF m 33 #[.val (.ref a), .val (.ref la), .val (.ref b), .val (.int (0 : Int32)), .val (.int q), .unset] [])) (fun _ k => XS.istore X119.here hx rfl (hb hby d9_31) rfl (l' := #[.val (.ref a), .val (.ref la), .val (.ref b), .val (.int (0 : Int32)), .val (.int q), .unset]) rfl k) ?_
  refine own_st (T' := T119) (g' := (mkF m 35 #[.val (.ref a), .val (.ref la), .val (.ref b), .val (.int (0 : Int32)), .val (.int q), .unset] [(.int q)])) (fun _ k => XS.iload X119.here hx rfl (hb hby d9_33) rfl k) ?_
  refine own_st (T' := T119) (g' := (mkF m 37 #[.val (.ref a), .val (.ref la), .val (.ref b), .val (.int (0 : Int32)), .val (.int q), .unset] [(.int (39 : Int32)), (.int q)])) (fun _ k => XS.bipush X119.here hx rfl (hb hby d9_35) k) ?_
  by_cases q39 : q = (39 : Int32)
  · refine own_st (T' := T119) (g' := (mkF m 40 #[.val (.ref a), .val (.ref la), .val (.ref b), .val (.int (0 : Int32)), .val (.int q), .unset] [])) (fun _ k => XS.icmpNo X119.here hx rfl (hb hby d9_37) rfl (Jvm.Free.XT.ii_ne_f q39) k) ?_
    refine own_st (T' := T119) (g' := (mkF m 41 #[.val (.ref a), .val (.ref la), .val (.ref b), .val (.int (0 : Int32)), .val (.int q), .unset] [(.int (0 : Int32))])) (fun _ k => XS.iloadN X119.here hx rfl (hb hby d9_40) rfl k) ?_
    refine own_st (T' := T119) (g' := (mkF m 42 #[.val (.ref a), .val (.ref la), .val (.ref b), .val (.int (0 : Int32)), .val (.int q), .unset] [(.int (1 : Int32)), (.int (0 : Int32))])) (fun _ k => XS.iconst X119.here hx rfl (hb hby d9_41) k) ?_
    refine own_st (T' := T119) (g' := (mkF m 43 #[.val (.ref a), .val (.ref la), .val (.ref b), .val (.int (0 : Int32)), .val (.int q), .unset] [(.int ((0 : Int32) + (1 : Int32)))])) (fun _ k => XS.iadd X119.here hx rfl (hb hby d9_42) rfl k) ?_
    refine own_st (T' := T119) (g' := (mkF m 45 #[.val (.ref a), .val (.ref la), .val (.ref b), .val (.int (0 : Int32)), .val (.int q), .val (.int ((0 : Int32) + (1 : Int32)))] [])) (fun _ k => XS.istore X119.here hx rfl (hb hby d9_43) rfl (l' := #[.val (.ref a), .val (.ref la), .val (.ref b), .val (.int (0 : Int32)), .val (.int q), .val (.int ((0 : Int32) + (1 : Int32)))]) rfl k) ?_
    rw [show ((0 : Int32) + (1 : Int32)) = (1 : Int32) from rfl]
    refine own_st (T' := T119) (g' := (mkF m 47 #[.val (.ref a), .val (.ref la), .val (.ref b), .val (.int (0 : Int32)), .val (.int q), .val (.int (1 : Int32))] [(.int (1 : Int32))])) (fun _ k => XS.iload X119.here hx rfl (hb hby d9_45) rfl k) ?_
    refine own_st (T' := T119) (g' := (mkF m 48 #[.val (.ref a), .val (.ref la), .val (.ref b), .val (.int (0 : Int32)), .val (.int q), .val (.int (1 : Int32))] [(.ref a), (.int (1 : Int32))])) (fun _ k => XS.aloadN X119.here hx rfl (hb hby d9_47) rfl rfl k) ?_
    obtain ⟨cq120, kq120, q120a, q120b, q120c⟩ := isOf hZ e119 Ea
    obtain ⟨vq120, _, ⟨T120, L120, k120, n120⟩, -, X120, ⟨Lc120, hQ120, l120, y120, z120⟩, st120⟩ := X119.virtualBack hx (y := (⟨"java/lang/String", "length", "()I"⟩ : MethodName)) (z := (⟨"java/lang/String", "length", "()I"⟩ : MethodName)) hown (mvT hZ (hw _ (List.mem_of_getElem? (i := 96) rfl))) (mvT hZ (hw _ (List.mem_of_getElem? (i := 97) rfl))) (notFace_of_selects (args := #[]) (mvT hZ (hw _ (List.mem_of_getElem? (i := 99) rfl)))) (mvT hZ (hw _ (List.mem_of_getElem? (i := 99) rfl))) (mvT hZ (hw _ (List.mem_of_getElem? (i := 98) rfl))) (by decide) (backOf (W := 1) (own_len1 l Z a0 hw [] a t kt x cc T117.heap n0 Z0'''' Ea Fv Fc Vt (SC0.ext O.2) hcs) hZ (hw _ (List.mem_of_getElem? (i := 100) rfl)) (hw _ (List.mem_of_getElem? (i := 1) rfl)) (by decide) (by decide)) q120a q120c (g := (mkF m 48 #[.val (.ref a), .val (.ref la), .val (.ref b), .val (.int (0 : Int32)), .val (.int q), .val (.int (1 : Int32))] [(.ref a), (.int (1 : Int32))])) rfl (by rw [hml]; rfl) (Steps.refl _) (argsL := []) (rest := [(.int (1 : Int32))]) (lenOf own_pd14 rfl) rfl (by show 2 * 0 + _ ≤ _; exact Nat.le_of_eq rfl) (hb hby d9_48) (fun _ _ => ⟨rfl, e119, (by decide : ((((((0 + 1) + 0) + 1) + 1) + 0) + 0) + 0 ≤ _), (by decide : ((((((0 + 3) + 0) + 4) + 16) + 0) + 0) + 0 ≤ _)⟩)
    dsimp only [Pt.U, Pt.locs, Pt.cells, Pt.slots] at X120 l120 y120 z120 st120 hQ120
    subst l120 y120 z120
    obtain ⟨rfl, N120q, e120⟩ := hQ120
    have N0''''' := Fr.app N0'''' N120q
    refine own_tr (T' := T120) (g' := (mkF m 51 #[.val (.ref a), .val (.ref la), .val (.ref b), .val (.int (0 : Int32)), .val (.int q), .val (.int (1 : Int32))] [(.int (1 : Int32)), (.int (1 : Int32))])) st120 ?_
    refine own_st (T' := T120) (g' := (mkF m 133 #[.val (.ref a), .val (.ref la), .val (.ref b), .val (.int (0 : Int32)), .val (.int q), .val (.int (1 : Int32))] [])) (fun _ k => XS.icmpYes X120.here hx rfl (pc0 := 51) (pc' := 133) rfl (hb hby d9_51) rfl (Jvm.Free.XT.ii_ge_t (by decide)) (by decide) (by decide) k) ?_
    refine own_st (T' := T120) (g' := (mkF m 135 #[.val (.ref a), .val (.ref la), .val (.ref b), .val (.int (0 : Int32)), .val (.int q), .val (.int (1 : Int32))] [(.int (1 : Int32))])) (fun _ k => XS.iload X120.here hx rfl (hb hby d9_133) rfl k) ?_
    refine own_st (T' := T120) (g' := (mkF m 136 #[.val (.ref a), .val (.ref la), .val (.ref b), .val (.int (0 : Int32)), .val (.int q), .val (.int (1 : Int32))] [(.int (0 : Int32)), (.int (1 : Int32))])) (fun _ k => XS.iloadN X120.here hx rfl (hb hby d9_135) rfl k) ?_
    refine own_st (T' := T120) (g' := (mkF m 137 #[.val (.ref a), .val (.ref la), .val (.ref b), .val (.int (0 : Int32)), .val (.int q), .val (.int (1 : Int32))] [(.int (1 : Int32)), (.int (0 : Int32)), (.int (1 : Int32))])) (fun _ k => XS.iconst X120.here hx rfl (hb hby d9_136) k) ?_
    refine own_st (T' := T120) (g' := (mkF m 138 #[.val (.ref a), .val (.ref la), .val (.ref b), .val (.int (0 : Int32)), .val (.int q), .val (.int (1 : Int32))] [(.int ((0 : Int32) + (1 : Int32))), (.int (1 : Int32))])) (fun _ k => XS.iadd X120.here hx rfl (hb hby d9_137) rfl k) ?_
    rw [show ((0 : Int32) + (1 : Int32)) = (1 : Int32) from rfl]
    refine own_st (T' := T120) (g' := (mkF m 141 #[.val (.ref a), .val (.ref la), .val (.ref b), .val (.int (0 : Int32)), .val (.int q), .val (.int (1 : Int32))] [])) (fun _ k => XS.icmpNo X120.here hx rfl (hb hby d9_138) rfl (Jvm.Free.XT.ii_ne_f rfl) k) ?_
    refine own_st (T' := T120) (g' := (mkF m 142 #[.val (.ref a), .val (.ref la), .val (.ref b), .val (.int (0 : Int32)), .val (.int q), .val (.int (1 : Int32))] [(.ref b)])) (fun _ k => XS.aloadN X120.here hx rfl (hb hby d9_141) rfl rfl k) ?_
    refine own_st (T' := T120) (g' := (mkF m 144 #[.val (.ref a), .val (.ref la), .val (.ref b), .val (.int (0 : Int32)), .val (.int q), .val (.int (1 : Int32))] [(.int (39 : Int32)), (.ref b)])) (fun _ k => XS.bipush X120.here hx rfl (hb hby d9_142) k) ?_
    obtain ⟨cq121, kq121, q121a, q121b, q121c⟩ := isOf hZ e120 Eb
    obtain ⟨vq121, _, ⟨T121, L121, k121, n121⟩, -, X121, ⟨Lc121, hQ121, l121, y121, z121⟩, st121⟩ := X120.virtualBack hx (y := (⟨"java/lang/StringBuilder", "append", "(C)Ljava/lang/StringBuilder;"⟩ : MethodName)) (z := (⟨"java/lang/StringBuilder", "append", "(C)Ljava/lang/StringBuilder;"⟩ : MethodName)) hown (mvT hZ (hw _ (List.mem_of_getElem? (i := 127) rfl))) (mvT hZ (hw _ (List.mem_of_getElem? (i := 128) rfl))) (notFace_of_selects (args := #[]) (mvT hZ (hw _ (List.mem_of_getElem? (i := 130) rfl)))) (mvT hZ (hw _ (List.mem_of_getElem? (i := 130) rfl))) (mvT hZ (hw _ (List.mem_of_getElem? (i := 129) rfl))) (by decide) (backOf (W := 0) (own_sba l Z a0 hw [] b tb ktb (fun _ => .int 0) (39 : Int32) cc T117.heap n0 Z0'''' Gv Gc Gn Gm Eb ge_b Vb (fun _ _ => rfl) ge_tb ne_b_tb (by decide) (SC0.ext O.2) hcs) hZ (hw _ (List.mem_of_getElem? (i := 131) rfl)) (hw _ (List.mem_of_getElem? (i := 80) rfl)) (by decide) (by decide)) q121a q121c (g := (mkF m 144 #[.val (.ref a), .val (.ref la), .val (.ref b), .val (.int (0 : Int32)), .val (.int q), .val (.int (1 : Int32))] [(.int (39 : Int32)), (.ref b)])) rfl (by rw [hml]; rfl) (Steps.refl _) (argsL := [(.int (39 : Int32))]) (rest := []) (lenOf own_pd28 rfl) rfl (by show 2 * 0 + _ ≤ _; exact Nat.le_of_eq rfl) (hb hby d9_144) (fun _ _ => ⟨rfl, e120, (by decide : (((((((0 + 1) + 0) + 1) + 1) + 0) + 0) + 0) + 0 ≤ _), (by decide : (((((((0 + 3) + 0) + 4) + 16) + 0) + 0) + 0) + 0 ≤ _)⟩)
    dsimp only [Pt.U, Pt.locs, Pt.cells, Pt.slots] at X121 l121 y121 z121 st121 hQ121
    subst l121 y121 z121
    obtain ⟨rfl, N121q, K121, Gv, Gc, Gn, Gm, f2, Vb, hf2⟩ := hQ121
    have N0'''''' := Fr.app N0''''' N121q
    have Ea := Ea.keep K121
    have Fv := Fv.keep K121 (ninS ne_a_b (ninS ne_a_tb nin0))
    have Fc := Fc.keep K121 (ninS ne_a_b (ninS ne_a_tb nin0))
    have Vt := Vt.keep K121 (ninS ne_t_b (ninS ne_t_tb nin0))
    have O := O.keep K121 ((allS ge_b (allS ge_tb all0)))
    have Fm := Fm.keep K121 (ninS ne_la_b (ninS ne_la_tb nin0))
    have Fe := Fe.keep K121 (ninS ne_la_b (ninS ne_la_tb nin0))
    have Fs := Fs.keep K121 (ninS ne_la_b (ninS ne_la_tb nin0))
    have El := El.keep K121
    have Eb := Eb.keep K121
    have Z0''''' := Nat.le_trans Z0'''' K121.1
    have Kp := Kp.trans K121 (allS (P := fun x => x ∈ [] ∨ h0.size ≤ x) (Or.inr sz_b) (allS (P := fun x => x ∈ [] ∨ h0.size ≤ x) (Or.inr sz_tb) all0))
    refine own_tr (T' := T121) (g' := (mkF m 147 #[.val (.ref a), .val (.ref la), .val (.ref b), .val (.int (0 : Int32)), .val (.int q), .val (.int (1 : Int32))] [(.ref b)])) st121 ?_
    refine own_st (T' := T121) (g' := (mkF m 148 #[.val (.ref a), .val (.ref la), .val (.ref b), .val (.int (0 : Int32)), .val (.int q), .val (.int (1 : Int32))] [])) (fun _ k => XS.pop X121.here hx rfl (hb hby d9_147) rfl rfl k) ?_
    refine own_st (T' := T121) (g' := (mkF m 150 #[.val (.ref a), .val (.ref la), .val (.ref b), .val (.int (0 : Int32)), .val (.int q), .val (.int (1 : Int32))] [(.int (1 : Int32))])) (fun _ k => XS.iload X121.here hx rfl (hb hby d9_148) rfl k) ?_
    refine own_st (T' := T121) (g' := (mkF m 151 #[.val (.ref a), .val (.ref la), .val (.ref b), .val (.int (0 : Int32)), .val (.int q), .val (.int (1 : Int32))] [(.int (1 : Int32)), (.int (1 : Int32))])) (fun _ k => XS.iconst X121.here hx rfl (hb hby d9_150) k) ?_
    refine own_st (T' := T121) (g' := (mkF m 152 #[.val (.ref a), .val (.ref la), .val (.ref b), .val (.int (0 : Int32)), .val (.int q), .val (.int (1 : Int32))] [(.int ((1 : Int32) + (1 : Int32)))])) (fun _ k => XS.iadd X121.here hx rfl (hb hby d9_151) rfl k) ?_
    refine own_st (T' := T121) (g' := (mkF m 153 #[.val (.ref a), .val (.ref la), .val (.ref b), .val (.int ((1 : Int32) + (1 : Int32))), .val (.int q), .val (.int (1 : Int32))] [])) (fun _ k => XS.istoreN X121.here hx rfl (hb hby d9_152) rfl (l' := #[.val (.ref a), .val (.ref la), .val (.ref b), .val (.int ((1 : Int32) + (1 : Int32))), .val (.int q), .val (.int (1 : Int32))]) rfl k) ?_
    refine own_st (T' := T121) (g' := (mkF m 251 #[.val (.ref a), .val (.ref la), .val (.ref b), .val (.int ((1 : Int32) + (1 : Int32))), .val (.int q), .val (.int (1 : Int32))] [])) (fun _ k => XS.goto X121.here hx rfl (pc0 := 153) (pc' := 251) rfl (hb hby d9_153) (by decide) (by decide) k) ?_
    refine own_st (T' := T121) (g' := (mkF m 18 #[.val (.ref a), .val (.ref la), .val (.ref b), .val (.int ((1 : Int32) + (1 : Int32))), .val (.int q), .val (.int (1 : Int32))] [])) (fun _ k => XS.goto X121.here hx rfl (pc0 := 251) (pc' := 18) rfl (hb hby d9_251) (by decide) (by decide) k) ?_
    rw [show ((1 : Int32) + (1 : Int32)) = (2 : Int32) from rfl]
    refine own_st (T' := T121) (g' := (mkF m 19 #[.val (.ref a), .val (.ref la), .val (.ref b), .val (.int (2 : Int32)), .val (.int q), .val (.int (1 : Int32))] [(.int (2 : Int32))])) (fun _ k => XS.iloadN X121.here hx rfl (hb hby d9_18) rfl k) ?_
    refine own_st (T' := T121) (g' := (mkF m 20 #[.val (.ref a), .val (.ref la), .val (.ref b), .val (.int (2 : Int32)), .val (.int q), .val (.int (1 : Int32))] [(.ref a), (.int (2 : Int32))])) (fun _ k => XS.aloadN X121.here hx rfl (hb hby d9_19) rfl rfl k) ?_
    obtain ⟨cq122, kq122, q122a, q122b, q122c⟩ := isOf hZ rfl Ea
    obtain ⟨vq122, _, ⟨T122, L122, k122, n122⟩, -, X122, ⟨Lc122, hQ122, l122, y122, z122⟩, st122⟩ := X121.virtualBack hx (y := (⟨"java/lang/String", "length", "()I"⟩ : MethodName)) (z := (⟨"java/lang/String", "length", "()I"⟩ : MethodName)) hown (mvT hZ (hw _ (List.mem_of_getElem? (i := 96) rfl))) (mvT hZ (hw _ (List.mem_of_getElem? (i := 97) rfl))) (notFace_of_selects (args := #[]) (mvT hZ (hw _ (List.mem_of_getElem? (i := 99) rfl)))) (mvT hZ (hw _ (List.mem_of_getElem? (i := 99) rfl))) (mvT hZ (hw _ (List.mem_of_getElem? (i := 98) rfl))) (by decide) (backOf (W := 1) (own_len1 l Z a0 hw [] a t kt x cc T121.heap n0 Z0''''' Ea Fv Fc Vt (SC0.ext O.2) hcs) hZ (hw _ (List.mem_of_getElem? (i := 100) rfl)) (hw _ (List.mem_of_getElem? (i := 1) rfl)) (by decide) (by decide)) q122a q122c (g := (mkF m 20 #[.val (.ref a), .val (.ref la), .val (.ref b), .val (.int (2 : Int32)), .val (.int q), .val (.int (1 : Int32))] [(.ref a), (.int (2 : Int32))])) rfl (by rw [hml]; rfl) (Steps.refl _) (argsL := []) (rest := [(.int (2 : Int32))]) (lenOf own_pd14 rfl) rfl (by show 2 * 0 + _ ≤ _; exact Nat.le_of_eq rfl) (hb hby d9_20) (fun _ _ => ⟨rfl, rfl, (by decide : ((((((((0 + 1) + 0) + 1) + 1) + 0) + 0) + 0) + 0) + 0 ≤ _), (by decide : ((((((((0 + 3) + 0) + 4) + 16) + 0) + 0) + 0) + 0) + 0 ≤ _)⟩)
    dsimp only [Pt.U, Pt.locs, Pt.cells, Pt.slots] at X122 l122 y122 z122 st122 hQ122
    subst l122 y122 z122
    obtain ⟨rfl, N122q, e122⟩ := hQ122
    have N0''''''' := Fr.app N0'''''' N122q
    refine own_tr (T' := T122) (g' := (mkF m 23 #[.val (.ref a), .val (.ref la), .val (.ref b), .val (.int (2 : Int32)), .val (.int q), .val (.int (1 : Int32))] [(.int (1 : Int32)), (.int (2 : Int32))])) st122 ?_
    refine own_st (T' := T122) (g' := (mkF m 254 #[.val (.ref a), .val (.ref la), .val (.ref b), .val (.int (2 : Int32)), .val (.int q), .val (.int (1 : Int32))] [])) (fun _ k => XS.icmpYes X122.here hx rfl (pc0 := 23) (pc' := 254) rfl (hb hby d9_23) rfl (Jvm.Free.XT.ii_ge_t (by decide)) (by decide) (by decide) k) ?_
    refine own_st (T' := T122) (g' := (mkF m 255 #[.val (.ref a), .val (.ref la), .val (.ref b), .val (.int (2 : Int32)), .val (.int q), .val (.int (1 : Int32))] [(.ref la)])) (fun _ k => XS.aloadN X122.here hx rfl (hb hby d9_254) rfl rfl k) ?_
    refine own_st (T' := T122) (g' := (mkF m 256 #[.val (.ref a), .val (.ref la), .val (.ref b), .val (.int (2 : Int32)), .val (.int q), .val (.int (1 : Int32))] [(.ref b), (.ref la)])) (fun _ k => XS.aloadN X122.here hx rfl (hb hby d9_255) rfl rfl k) ?_
    have nlb := ne_la_b
    have nlt := ne_la_tb
    obtain ⟨vq123, _, ⟨T123, L123, k123, n123⟩, -, X123, ⟨Lc123, hQ123, l123, y123, z123⟩, st123⟩ := Jvm.LawKit.callS X122 hx (y := (⟨"com/example/idiolect/idiolect/internal/datetime/DateTimePatterns", "addLiteral", "(Ljava/util/List;Ljava/lang/StringBuilder;)V"⟩ : MethodName)) hown (mvT hZ (hw _ (List.mem_of_getElem? (i := 150) rfl))) (mvT hZ (hw _ (List.mem_of_getElem? (i := 151) rfl))) (mvT hZ (hw _ (List.mem_of_getElem? (i := 52) rfl))) (mvT hZ (hw _ (List.mem_of_getElem? (i := 152) rfl))) (by decide) (backOf (W := 0) (own_al1 l Z a0 hw [] la aD kD fD b tb ktb f2 cc T121.heap n0 Z0''''' Fm Fe Fs El gl nD Gv Gc Gn Gm Eb Vb hf2 hcs ge_b nlb nlt (Ne.symm ne_b_tb) O SD0 VD0 SC0) hZ (hw _ (List.mem_of_getElem? (i := 152) rfl)) (hw _ (List.mem_of_getElem? (i := 52) rfl)) (by decide) (by decide)) (g := (mkF m 256 #[.val (.ref a), .val (.ref la), .val (.ref b), .val (.int (2 : Int32)), .val (.int q), .val (.int (1 : Int32))] [(.ref b), (.ref la)])) rfl (by rw [hml]; rfl) (argsL := [(.ref la), (.ref b)]) (rest := []) (lenOf own_pd29 rfl) rfl (by show 2 * 0 + _ ≤ _; exact Nat.le_of_eq rfl) (hb hby d9_256) (fun _ _ => ⟨rfl, e122, (by decide : (((((((((0 + 1) + 0) + 1) + 1) + 0) + 0) + 0) + 0) + 0) + 6 ≤ _), (by decide : (((((((((0 + 3) + 0) + 4) + 16) + 0) + 0) + 0) + 0) + 0) + 24 ≤ _)⟩)
    dsimp only [Pt.U, Pt.locs, Pt.cells, Pt.slots] at X123 l123 y123 z123 st123 hQ123
    subst l123 y123 z123
    obtain ⟨rfl, N123q, K123, ta, ka, x, Fe, Fs, Va, Ex, Fx⟩ := hQ123
    have N0'''''''' := Fr.app N0''''''' N123q
    have Ea := Ea.keep K123
    have Fv := Fv.keep K123 (ninS ne_a_la (ninS ne_a_b nin0))
    have Fc := Fc.keep K123 (ninS ne_a_la (ninS ne_a_b nin0))
    have Vt := Vt.keep K123 (ninS ne_t_la (ninS ne_t_b nin0))
    have O := O.keep K123 ((allS ge_la (allS ge_b all0)))
    have El := El.keep K123
    have Eb := Eb.keep K123
    have Vb := Vb.keep K123 (ninS (Ne.symm ne_la_tb) (ninS (Ne.symm ne_b_tb) nin0))
    have Z0'''''' := Nat.le_trans Z0''''' K123.1
    have Kp := Kp.trans K123 (allS (P := fun x => x ∈ [] ∨ h0.size ≤ x) (Or.inr sz_la) (allS (P := fun x => x ∈ [] ∨ h0.size ≤ x) (Or.inr sz_b) all0))
    refine own_st (T' := T123) (g' := (mkF m 259 #[.val (.ref a), .val (.ref la), .val (.ref b), .val (.int (2 : Int32)), .val (.int q), .val (.int (1 : Int32))] [])) st123 ?_
    refine own_st (T' := T123) (g' := (mkF m 260 #[.val (.ref a), .val (.ref la), .val (.ref b), .val (.int (2 : Int32)), .val (.int q), .val (.int (1 : Int32))] [(.ref la)])) (fun _ k => XS.aloadN X123.here hx rfl (hb hby d9_259) rfl rfl k) ?_
    exact own_retR X123 hx Bd.returns Bd.notSynchronized rfl rfl rfl (hb hby d9_260) ⟨la, ta, ka, x, 0, rfl, N0'''''''', Kp, El, Fe, Fs, Va, Ex, Fx, Or.inr ⟨(by rw [q39]; unfold own_isL; decide), rfl⟩⟩ (by decide) (by decide)
  · refine own_st (T' := T119) (g' := (mkF m 156 #[.val (.ref a), .val (.ref la), .val (.ref b), .val (.int (0 : Int32)), .val (.int q), .unset] [])) (fun _ k => XS.icmpYes X119.here hx rfl (pc0 := 37) (pc' := 156) rfl (hb hby d9_37) rfl (Jvm.Free.XT.ii_ne_t q39) (by decide) (by decide) k) ?_
    have J184 : ∀ (hL : own_isL q), own_Go p e below s (own_tkn_Q Z a t kt x q cc fm aD kD fD h0 n0) 14 80 T119 (mkF m 184 #[.val (.ref a), .val (.ref la), .val (.ref b), .val (.int (0 : Int32)), .val (.int q), .unset] []) := by
      intro hL
      refine own_st (T' := T119) (g' := (mkF m 185 #[.val (.ref a), .val (.ref la), .val (.ref b), .val (.int (0 : Int32)), .val (.int q), .unset] [(.int (0 : Int32))])) (fun _ k => XS.iloadN X119.here hx rfl (hb hby d9_184) rfl k) ?_
      refine own_st (T' := T119) (g' := (mkF m 187 #[.val (.ref a), .val (.ref la), .val (.ref b), .val (.int (0 : Int32)), .val (.int q), .val (.int (0 : Int32))] [])) (fun _ k => XS.istore X119.here hx rfl (hb hby d9_185) rfl (l' := #[.val (.ref a), .val (.ref la), .val (.ref b), .val (.int (0 : Int32)), .val (.int q), .val (.int (0 : Int32))]) rfl k) ?_
      refine own_st (T' := T119) (g' := (mkF m 189 #[.val (.ref a), .val (.ref la), .val (.ref b), .val (.int (0 : Int32)), .val (.int q), .val (.int (0 : Int32))] [(.int (0 : Int32))])) (fun _ k => XS.iload X119.here hx rfl (hb hby d9_187) rfl k) ?_
      refine own_st (T' := T119) (g' := (mkF m 190 #[.val (.ref a), .val (.ref la), .val (.ref b), .val (.int (0 : Int32)), .val (.int q), .val (.int (0 : Int32))] [(.ref a), (.int (0 : Int32))])) (fun _ k => XS.aloadN X119.here hx rfl (hb hby d9_189) rfl rfl k) ?_
      obtain ⟨cq124, kq124, q124a, q124b, q124c⟩ := isOf hZ e119 Ea
      obtain ⟨vq124, _, ⟨T124, L124, k124, n124⟩, -, X124, ⟨Lc124, hQ124, l124, y124, z124⟩, st124⟩ := X119.virtualBack hx (y := (⟨"java/lang/String", "length", "()I"⟩ : MethodName)) (z := (⟨"java/lang/String", "length", "()I"⟩ : MethodName)) hown (mvT hZ (hw _ (List.mem_of_getElem? (i := 96) rfl))) (mvT hZ (hw _ (List.mem_of_getElem? (i := 97) rfl))) (notFace_of_selects (args := #[]) (mvT hZ (hw _ (List.mem_of_getElem? (i := 99) rfl)))) (mvT hZ (hw _ (List.mem_of_getElem? (i := 99) rfl))) (mvT hZ (hw _ (List.mem_of_getElem? (i := 98) rfl))) (by decide) (backOf (W := 1) (own_len1 l Z a0 hw [] a t kt x cc T117.heap n0 Z0'''' Ea Fv Fc Vt (SC0.ext O.2) hcs) hZ (hw _ (List.mem_of_getElem? (i := 100) rfl)) (hw _ (List.mem_of_getElem? (i := 1) rfl)) (by decide) (by decide)) q124a q124c (g := (mkF m 190 #[.val (.ref a), .val (.ref la), .val (.ref b), .val (.int (0 : Int32)), .val (.int q), .val (.int (0 : Int32))] [(.ref a), (.int (0 : Int32))])) rfl (by rw [hml]; rfl) (Steps.refl _) (argsL := []) (rest := [(.int (0 : Int32))]) (lenOf own_pd14 rfl) rfl (by show 2 * 0 + _ ≤ _; exact Nat.le_of_eq rfl) (hb hby d9_190) (fun _ _ => ⟨rfl, e119, (by decide : ((((((0 + 1) + 0) + 1) + 1) + 0) + 0) + 0 ≤ _), (by decide : ((((((0 + 3) + 0) + 4) + 16) + 0) + 0) + 0 ≤ _)⟩)
      dsimp only [Pt.U, Pt.locs, Pt.cells, Pt.slots] at X124 l124 y124 z124 st124 hQ124
      subst l124 y124 z124
      obtain ⟨rfl, N124q, e124⟩ := hQ124
      have N0''''' := Fr.app N0'''' N124q
      refine own_tr (T' := T124) (g' := (mkF m 193 #[.val (.ref a), .val (.ref la), .val (.ref b), .val (.int (0 : Int32)), .val (.int q), .val (.int (0 : Int32))] [(.int (1 : Int32)), (.int (0 : Int32))])) st124 ?_
      refine own_st (T' := T124) (g' := (mkF m 196 #[.val (.ref a), .val (.ref la), .val (.ref b), .val (.int (0 : Int32)), .val (.int q), .val (.int (0 : Int32))] [])) (fun _ k => XS.icmpNo X124.here hx rfl (hb hby d9_193) rfl (Jvm.Free.XT.ii_ge_f (by decide)) k) ?_
      refine own_st (T' := T124) (g' := (mkF m 197 #[.val (.ref a), .val (.ref la), .val (.ref b), .val (.int (0 : Int32)), .val (.int q), .val (.int (0 : Int32))] [(.ref a)])) (fun _ k => XS.aloadN X124.here hx rfl (hb hby d9_196) rfl rfl k) ?_
      refine own_st (T' := T124) (g' := (mkF m 199 #[.val (.ref a), .val (.ref la), .val (.ref b), .val (.int (0 : Int32)), .val (.int q), .val (.int (0 : Int32))] [(.int (0 : Int32)), (.ref a)])) (fun _ k => XS.iload X124.here hx rfl (hb hby d9_197) rfl k) ?_
      obtain ⟨cq125, kq125, q125a, q125b, q125c⟩ := isOf hZ e124 Ea
      obtain ⟨vq125, _, ⟨T125, L125, k125, n125⟩, -, X125, ⟨Lc125, hQ125, l125, y125, z125⟩, st125⟩ := X124.virtualBack hx (y := (⟨"java/lang/String", "charAt", "(I)C"⟩ : MethodName)) (z := (⟨"java/lang/String", "charAt", "(I)C"⟩ : MethodName)) hown (mvT hZ (hw _ (List.mem_of_getElem? (i := 106) rfl))) (mvT hZ (hw _ (List.mem_of_getElem? (i := 107) rfl))) (notFace_of_selects (args := #[]) (mvT hZ (hw _ (List.mem_of_getElem? (i := 109) rfl)))) (mvT hZ (hw _ (List.mem_of_getElem? (i := 109) rfl))) (mvT hZ (hw _ (List.mem_of_getElem? (i := 108) rfl))) (by decide) (backOf (W := 0) (own_ca l Z a0 hw [] a t kt x q cc fm T117.heap n0 Z0'''' Ea Fv Fc Vt (SC0.ext O.2) hcs (SF0.ext O.2) hfm hq hqq) hZ (hw _ (List.mem_of_getElem? (i := 110) rfl)) (hw _ (List.mem_of_getElem? (i := 1) rfl)) (by decide) (by decide)) q125a q125c (g := (mkF m 199 #[.val (.ref a), .val (.ref la), .val (.ref b), .val (.int (0 : Int32)), .val (.int q), .val (.int (0 : Int32))] [(.int (0 : Int32)), (.ref a)])) rfl (by rw [hml]; rfl) (Steps.refl _) (argsL := [(.int (0 : Int32))]) (rest := []) (lenOf own_pd17 rfl) rfl (by show 2 * 0 + _ ≤ _; exact Nat.le_of_eq rfl) (hb hby d9_199) (fun _ _ => ⟨rfl, e124, (by decide : (((((((0 + 1) + 0) + 1) + 1) + 0) + 0) + 0) + 0 ≤ _), (by decide : (((((((0 + 3) + 0) + 4) + 16) + 0) + 0) + 0) + 0 ≤ _)⟩)
      dsimp only [Pt.U, Pt.locs, Pt.cells, Pt.slots] at X125 l125 y125 z125 st125 hQ125
      subst l125 y125 z125
      obtain ⟨rfl, N125q, e125⟩ := hQ125
      have N0'''''' := Fr.app N0''''' N125q
      refine own_tr (T' := T125) (g' := (mkF m 202 #[.val (.ref a), .val (.ref la), .val (.ref b), .val (.int (0 : Int32)), .val (.int q), .val (.int (0 : Int32))] [(.int q)])) st125 ?_
      refine own_st (T' := T125) (g' := (mkF m 204 #[.val (.ref a), .val (.ref la), .val (.ref b), .val (.int (0 : Int32)), .val (.int q), .val (.int (0 : Int32))] [(.int q), (.int q)])) (fun _ k => XS.iload X125.here hx rfl (hb hby d9_202) rfl k) ?_
      refine own_st (T' := T125) (g' := (mkF m 207 #[.val (.ref a), .val (.ref la), .val (.ref b), .val (.int (0 : Int32)), .val (.int q), .val (.int (0 : Int32))] [])) (fun _ k => XS.icmpNo X125.here hx rfl (hb hby d9_204) rfl (Jvm.Free.XT.ii_ne_f rfl) k) ?_
      refine own_st (T' := T125) (g' := (mkF m 210 #[.val (.ref a), .val (.ref la), .val (.ref b), .val (.int (0 : Int32)), .val (.int q), .val (.int ((0 : Int32) + (1 : Int32)))] [])) (fun _ k => XS.iinc X125.here hx rfl (hb hby d9_207) rfl (l' := #[.val (.ref a), .val (.ref la), .val (.ref b), .val (.int (0 : Int32)), .val (.int q), .val (.int ((0 : Int32) + (1 : Int32)))]) rfl k) ?_
      refine own_st (T' := T125) (g' := (mkF m 187 #[.val (.ref a), .val (.ref la), .val (.ref b), .val (.int (0 : Int32)), .val (.int q), .val (.int ((0 : Int32) + (1 : Int32)))] [])) (fun _ k => XS.goto X125.here hx rfl (pc0 := 210) (pc' := 187) rfl (hb hby d9_210) (by decide) (by decide) k) ?_
      rw [show ((0 : Int32) + (1 : Int32)) = (1 : Int32) from rfl]
      refine own_st (T' := T125) (g' := (mkF m 189 #[.val (.ref a), .val (.ref la), .val (.ref b), .val (.int (0 : Int32)), .val (.int q), .val (.int (1 : Int32))] [(.int (1 : Int32))])) (fun _ k => XS.iload X125.here hx rfl (hb hby d9_187) rfl k) ?_
      refine own_st (T' := T125) (g' := (mkF m 190 #[.val (.ref a), .val (.ref la), .val (.ref b), .val (.int (0 : Int32)), .val (.int q), .val (.int (1 : Int32))] [(.ref a), (.int (1 : Int32))])) (fun _ k => XS.aloadN X125.here hx rfl (hb hby d9_189) rfl rfl k) ?_
      obtain ⟨cq126, kq126, q126a, q126b, q126c⟩ := isOf hZ e125 Ea
      obtain ⟨vq126, _, ⟨T126, L126, k126, n126⟩, -, X126, ⟨Lc126, hQ126, l126, y126, z126⟩, st126⟩ := X125.virtualBack hx (y := (⟨"java/lang/String", "length", "()I"⟩ : MethodName)) (z := (⟨"java/lang/String", "length", "()I"⟩ : MethodName)) hown (mvT hZ (hw _ (List.mem_of_getElem? (i := 96) rfl))) (mvT hZ (hw _ (List.mem_of_getElem? (i := 97) rfl))) (notFace_of_selects (args := #[]) (mvT hZ (hw _ (List.mem_of_getElem? (i := 99) rfl)))) (mvT hZ (hw _ (List.mem_of_getElem? (i := 99) rfl))) (mvT hZ (hw _ (List.mem_of_getElem? (i := 98) rfl))) (by decide) (backOf (W := 1) (own_len1 l Z a0 hw [] a t kt x cc T117.heap n0 Z0'''' Ea Fv Fc Vt (SC0.ext O.2) hcs) hZ (hw _ (List.mem_of_getElem? (i := 100) rfl)) (hw _ (List.mem_of_getElem? (i := 1) rfl)) (by decide) (by decide)) q126a q126c (g := (mkF m 190 #[.val (.ref a), .val (.ref la), .val (.ref b), .val (.int (0 : Int32)), .val (.int q), .val (.int (1 : Int32))] [(.ref a), (.int (1 : Int32))])) rfl (by rw [hml]; rfl) (Steps.refl _) (argsL := []) (rest := [(.int (1 : Int32))]) (lenOf own_pd14 rfl) rfl (by show 2 * 0 + _ ≤ _; exact Nat.le_of_eq rfl) (hb hby d9_190) (fun _ _ => ⟨rfl, e125, (by decide : ((((((((0 + 1) + 0) + 1) + 1) + 0) + 0) + 0) + 0) + 0 ≤ _), (by decide : ((((((((0 + 3) + 0) + 4) + 16) + 0) + 0) + 0) + 0) + 0 ≤ _)⟩)
      dsimp only [Pt.U, Pt.locs, Pt.cells, Pt.slots] at X126 l126 y126 z126 st126 hQ126
      subst l126 y126 z126
      obtain ⟨rfl, N126q, e126⟩ := hQ126
      have N0''''''' := Fr.app N0'''''' N126q
      refine own_tr (T' := T126) (g' := (mkF m 193 #[.val (.ref a), .val (.ref la), .val (.ref b), .val (.int (0 : Int32)), .val (.int q), .val (.int (1 : Int32))] [(.int (1 : Int32)), (.int (1 : Int32))])) st126 ?_
      refine own_st (T' := T126) (g' := (mkF m 213 #[.val (.ref a), .val (.ref la), .val (.ref b), .val (.int (0 : Int32)), .val (.int q), .val (.int (1 : Int32))] [])) (fun _ k => XS.icmpYes X126.here hx rfl (pc0 := 193) (pc' := 213) rfl (hb hby d9_193) rfl (Jvm.Free.XT.ii_ge_t (by decide)) (by decide) (by decide) k) ?_
      refine own_st (T' := T126) (g' := (mkF m 214 #[.val (.ref a), .val (.ref la), .val (.ref b), .val (.int (0 : Int32)), .val (.int q), .val (.int (1 : Int32))] [(.ref la)])) (fun _ k => XS.aloadN X126.here hx rfl (hb hby d9_213) rfl rfl k) ?_
      refine own_st (T' := T126) (g' := (mkF m 215 #[.val (.ref a), .val (.ref la), .val (.ref b), .val (.int (0 : Int32)), .val (.int q), .val (.int (1 : Int32))] [(.ref b), (.ref la)])) (fun _ k => XS.aloadN X126.here hx rfl (hb hby d9_214) rfl rfl k) ?_
      obtain ⟨vq127, _, ⟨T127, L127, k127, n127⟩, -, X127, ⟨Lc127, hQ127, l127, y127, z127⟩, st127⟩ := Jvm.LawKit.callS X126 hx (y := (⟨"com/example/idiolect/idiolect/internal/datetime/DateTimePatterns", "addLiteral", "(Ljava/util/List;Ljava/lang/StringBuilder;)V"⟩ : MethodName)) hown (mvT hZ (hw _ (List.mem_of_getElem? (i := 150) rfl))) (mvT hZ (hw _ (List.mem_of_getElem? (i := 151) rfl))) (mvT hZ (hw _ (List.mem_of_getElem? (i := 52) rfl))) (mvT hZ (hw _ (List.mem_of_getElem? (i := 152) rfl))) (by decide) (backOf (W := 0) (own_al0 l Z a0 hw [] la b T117.heap n0 Z0'''' Gn Eb) hZ (hw _ (List.mem_of_getElem? (i := 152) rfl)) (hw _ (List.mem_of_getElem? (i := 52) rfl)) (by decide) (by decide)) (g := (mkF m 215 #[.val (.ref a), .val (.ref la), .val (.ref b), .val (.int (0 : Int32)), .val (.int q), .val (.int (1 : Int32))] [(.ref b), (.ref la)])) rfl (by rw [hml]; rfl) (argsL := [(.ref la), (.ref b)]) (rest := []) (lenOf own_pd29 rfl) rfl (by show 2 * 0 + _ ≤ _; exact Nat.le_of_eq rfl) (hb hby d9_215) (fun _ _ => ⟨rfl, e126, (by decide : (((((((((0 + 1) + 0) + 1) + 1) + 0) + 0) + 0) + 0) + 0) + 0 ≤ _), (by decide : (((((((((0 + 3) + 0) + 4) + 16) + 0) + 0) + 0) + 0) + 0) + 0 ≤ _)⟩)
      dsimp only [Pt.U, Pt.locs, Pt.cells, Pt.slots] at X127 l127 y127 z127 st127 hQ127
      subst l127 y127 z127
      obtain ⟨rfl, N127q, e127⟩ := hQ127
      have N0'''''''' := Fr.app N0''''''' N127q
      refine own_st (T' := T127) (g' := (mkF m 218 #[.val (.ref a), .val (.ref la), .val (.ref b), .val (.int (0 : Int32)), .val (.int q), .val (.int (1 : Int32))] [])) st127 ?_
      refine own_st (T' := T127) (g' := (mkF m 219 #[.val (.ref a), .val (.ref la), .val (.ref b), .val (.int (0 : Int32)), .val (.int q), .val (.int (1 : Int32))] [(.ref la)])) (fun _ k => XS.aloadN X127.here hx rfl (hb hby d9_218) rfl rfl k) ?_
      refine own_st (T' := T127) (g' := (mkF m 220 #[.val (.ref a), .val (.ref la), .val (.ref b), .val (.int (0 : Int32)), .val (.int q), .val (.int (1 : Int32))] [(.ref a), (.ref la)])) (fun _ k => XS.aloadN X127.here hx rfl (hb hby d9_219) rfl rfl k) ?_
      refine own_st (T' := T127) (g' := (mkF m 221 #[.val (.ref a), .val (.ref la), .val (.ref b), .val (.int (0 : Int32)), .val (.int q), .val (.int (1 : Int32))] [(.int (0 : Int32)), (.ref a), (.ref la)])) (fun _ k => XS.iloadN X127.here hx rfl (hb hby d9_220) rfl k) ?_
      refine own_st (T' := T127) (g' := (mkF m 223 #[.val (.ref a), .val (.ref la), .val (.ref b), .val (.int (0 : Int32)), .val (.int q), .val (.int (1 : Int32))] [(.int (1 : Int32)), (.int (0 : Int32)), (.ref a), (.ref la)])) (fun _ k => XS.iload X127.here hx rfl (hb hby d9_221) rfl k) ?_
      obtain ⟨cq128, kq128, q128a, q128b, q128c⟩ := isOf hZ e127 Ea
      obtain ⟨vq128, _, ⟨T128, L128, k128, n128⟩, -, X128, ⟨Lc128, hQ128, l128, y128, z128⟩, st128⟩ := X127.virtualBack hx (y := (⟨"java/lang/String", "substring", "(II)Ljava/lang/String;"⟩ : MethodName)) (z := (⟨"java/lang/String", "substring", "(II)Ljava/lang/String;"⟩ : MethodName)) hown (mvT hZ (hw _ (List.mem_of_getElem? (i := 277) rfl))) (mvT hZ (hw _ (List.mem_of_getElem? (i := 278) rfl))) (notFace_of_selects (args := #[]) (mvT hZ (hw _ (List.mem_of_getElem? (i := 280) rfl)))) (mvT hZ (hw _ (List.mem_of_getElem? (i := 280) rfl))) (mvT hZ (hw _ (List.mem_of_getElem? (i := 279) rfl))) (by decide) (backOf (W := 1) (own_sub l Z a0 hw [] a t kt x cc fm T117.heap n0 Z0'''' Ea Fv Fc Vt (SC0.ext O.2) hcs (SF0.ext O.2) hfm) hZ (hw _ (List.mem_of_getElem? (i := 281) rfl)) (hw _ (List.mem_of_getElem? (i := 1) rfl)) (by decide) (by decide)) q128a q128c (g := (mkF m 223 #[.val (.ref a), .val (.ref la), .val (.ref b), .val (.int (0 : Int32)), .val (.int q), .val (.int (1 : Int32))] [(.int (1 : Int32)), (.int (0 : Int32)), (.ref a), (.ref la)])) rfl (by rw [hml]; rfl) (Steps.refl _) (argsL := [(.int (0 : Int32)), (.int (1 : Int32))]) (rest := [(.ref la)]) (lenOf own_pd30 rfl) rfl (by show 2 * 0 + _ ≤ _; exact Nat.le_of_eq rfl) (hb hby d9_223) (fun _ _ => ⟨rfl, e127, (by decide : ((((((((((0 + 1) + 0) + 1) + 1) + 0) + 0) + 0) + 0) + 0) + 0) + 0 ≤ _), (by decide : ((((((((((0 + 3) + 0) + 4) + 16) + 0) + 0) + 0) + 0) + 0) + 0) + 0 ≤ _)⟩)
      dsimp only [Pt.U, Pt.locs, Pt.cells, Pt.slots] at X128 l128 y128 z128 st128 hQ128
      subst l128 y128 z128
      obtain ⟨rfl, N128q, e128⟩ := hQ128
      have N0''''''''' := Fr.app N0'''''''' N128q
      refine own_tr (T' := T128) (g' := (mkF m 226 #[.val (.ref a), .val (.ref la), .val (.ref b), .val (.int (0 : Int32)), .val (.int q), .val (.int (1 : Int32))] [(.ref a), (.ref la)])) st128 ?_
      have lt_a := Ea.lt
      have lt_t := Vt.lt
      have lt_la := Fm.lt
      have lt_b := Gv.lt
      have lt_tb := Vb.lt
      obtain ⟨vq129, _, ⟨T129, L129, k129, n129⟩, -, X129, ⟨Lc129, hQ129, l129, y129, z129⟩, st129⟩ := Jvm.LawKit.callS X128 hx (y := (⟨"com/example/idiolect/idiolect/internal/datetime/DateTimePatterns$Token", "field", "(Ljava/lang/String;)Lcom/example/idiolect/idiolect/internal/datetime/DateTimePatterns$Token;"⟩ : MethodName)) hown (mvT hZ (hw _ (List.mem_of_getElem? (i := 289) rfl))) (mvT hZ (hw _ (List.mem_of_getElem? (i := 290) rfl))) (mvT hZ (hw _ (List.mem_of_getElem? (i := 10) rfl))) (mvT hZ (hw _ (List.mem_of_getElem? (i := 291) rfl))) (by decide) (backOf (W := 1) (own_fie l Z a0 hw [] a t kt x q cc fm T117.heap n0 Z0'''' Ea Fv Fc Vt (SC0.ext O.2) hcs (SF0.ext O.2) hfm hq hqq) hZ (hw _ (List.mem_of_getElem? (i := 291) rfl)) (hw _ (List.mem_of_getElem? (i := 10) rfl)) (by decide) (by decide)) (g := (mkF m 226 #[.val (.ref a), .val (.ref la), .val (.ref b), .val (.int (0 : Int32)), .val (.int q), .val (.int (1 : Int32))] [(.ref a), (.ref la)])) rfl (by rw [hml]; rfl) (argsL := [(.ref a)]) (rest := [(.ref la)]) (lenOf own_pd26 rfl) rfl (by show 2 * 0 + _ ≤ _; exact Nat.le_of_eq rfl) (hb hby d9_226) (fun _ _ => ⟨rfl, e128, (by decide : (((((((((((0 + 1) + 0) + 1) + 1) + 0) + 0) + 0) + 0) + 0) + 0) + 0) + 1 ≤ _), (by decide : (((((((((((0 + 3) + 0) + 4) + 16) + 0) + 0) + 0) + 0) + 0) + 0) + 0) + 2 ≤ _)⟩)
      dsimp only [Pt.U, Pt.locs, Pt.cells, Pt.slots] at X129 l129 y129 z129 st129 hQ129
      subst l129 y129 z129
      obtain ⟨x1, rfl, N129q, K129, gx, Ex, Fx⟩ := hQ129
      have N0'''''''''' := Fr.app N0''''''''' N129q
      have ne_a_x1 : a ≠ x1 := own_ne2 lt_a gx
      have ne_t_x1 : t ≠ x1 := own_ne2 lt_t gx
      have ne_la_x1 : la ≠ x1 := own_ne2 lt_la gx
      have ne_b_x1 : b ≠ x1 := own_ne2 lt_b gx
      have ne_tb_x1 : tb ≠ x1 := own_ne2 lt_tb gx
      have ge_x1 : n0 ≤ x1 := Nat.le_trans Z0'''' gx
      have sz_x1 : h0.size ≤ x1 := Nat.le_trans Kp.1 gx
      have Ea := Ea.keep K129
      have Fv := Fv.keep K129 nin0
      have Fc := Fc.keep K129 nin0
      have Vt := Vt.keep K129 nin0
      have O := O.keep K129 (all0)
      have Fm := Fm.keep K129 nin0
      have Fe := Fe.keep K129 nin0
      have Fs := Fs.keep K129 nin0
      have El := El.keep K129
      have Gv := Gv.keep K129 nin0
      have Gc := Gc.keep K129 nin0
      have Gn := Gn.keep K129 nin0
      have Gm := Gm.keep K129 nin0
      have Eb := Eb.keep K129
      have Vb := Vb.keep K129 nin0
      have Z0''''' := Nat.le_trans Z0'''' K129.1
      have Kp := Kp.trans K129 all0
      refine own_st (T' := T129) (g' := (mkF m 229 #[.val (.ref a), .val (.ref la), .val (.ref b), .val (.int (0 : Int32)), .val (.int q), .val (.int (1 : Int32))] [(.ref x1), (.ref la)])) st129 ?_
      have VD := VD0.ext O.2
      have SD := SD0.ext O.2
      have lt_a := Ea.lt
      have lt_t := Vt.lt
      have lt_la := Fm.lt
      have lt_b := Gv.lt
      have lt_tb := Vb.lt
      have lt_x1 := Ex.lt
      obtain ⟨cq130, kq130, q130a, q130b, q130c⟩ := isOf hZ rfl El
      obtain ⟨vq130, _, ⟨T130, L130, k130, n130⟩, -, X130, ⟨Lc130, hQ130, l130, y130, z130⟩, st130⟩ := X129.interfaceBack hx (xi := (⟨"java/util/List", "add", "(Ljava/lang/Object;)Z"⟩ : MethodName)) (y := (⟨"java/util/ArrayList", "add", "(Ljava/lang/Object;)Z"⟩ : MethodName)) hown (mvT hZ (hw _ (List.mem_of_getElem? (i := 205) rfl))) (mvT hZ (hw _ (List.mem_of_getElem? (i := 206) rfl))) (mvT hZ (hw _ (List.mem_of_getElem? (i := 207) rfl))) (mvT hZ (hw _ (List.mem_of_getElem? (i := 208) rfl))) (mvT hZ (hw _ (List.mem_of_getElem? (i := 209) rfl))) (mvT hZ (hw _ (List.mem_of_getElem? (i := 210) rfl))) (mvT hZ (hw _ (List.mem_of_getElem? (i := 211) rfl))) (mvT hZ (hw _ (List.mem_of_getElem? (i := 212) rfl))) (by decide) (backOf (W := 0) (own_alAdd l Z a0 hw [] la aD kD fD (0 : Int32) x1 T129.heap n0 Z0''''' Fm Fe Fs El gl VD nD SD (Ins.of_exa Ex (hw _ (List.mem_of_getElem? (i := 238) rfl)))) hZ (hw _ (List.mem_of_getElem? (i := 213) rfl)) (hw _ (List.mem_of_getElem? (i := 56) rfl)) (by decide) (by decide)) q130a q130b q130c (g := (mkF m 229 #[.val (.ref a), .val (.ref la), .val (.ref b), .val (.int (0 : Int32)), .val (.int q), .val (.int (1 : Int32))] [(.ref x1), (.ref la)])) rfl (by rw [hml]; rfl) (Steps.refl _) (argsL := [(.ref x1)]) (rest := []) (lenOf own_pd27 rfl) rfl (by show 2 * 0 + _ ≤ _; exact Nat.le_of_eq rfl) (hb hby d9_229) (fun _ _ => ⟨rfl, rfl, (by decide : ((((((((((((0 + 1) + 0) + 1) + 1) + 0) + 0) + 0) + 0) + 0) + 0) + 0) + 1) + 1 ≤ _), (by decide : ((((((((((((0 + 3) + 0) + 4) + 16) + 0) + 0) + 0) + 0) + 0) + 0) + 0) + 2) + 10 ≤ _)⟩)
      dsimp only [Pt.U, Pt.locs, Pt.cells, Pt.slots] at X130 l130 y130 z130 st130 hQ130
      subst l130 y130 z130
      obtain ⟨rfl, N130q, K130, ta, ka, gta, Va, Fe, Fs⟩ := hQ130
      have N0''''''''''' := Fr.app N0'''''''''' N130q
      have ne_a_ta : a ≠ ta := own_ne2 lt_a gta
      have ne_t_ta : t ≠ ta := own_ne2 lt_t gta
      have ne_la_ta : la ≠ ta := own_ne2 lt_la gta
      have ne_b_ta : b ≠ ta := own_ne2 lt_b gta
      have ne_tb_ta : tb ≠ ta := own_ne2 lt_tb gta
      have ne_x1_ta : x1 ≠ ta := own_ne2 lt_x1 gta
      have ge_ta : n0 ≤ ta := Nat.le_trans Z0''''' gta
      have sz_ta : h0.size ≤ ta := Nat.le_trans Kp.1 gta
      have Ea := Ea.keep K130
      have Fv := Fv.keep K130 (ninS ne_a_la nin0)
      have Fc := Fc.keep K130 (ninS ne_a_la nin0)
      have Vt := Vt.keep K130 (ninS ne_t_la nin0)
      have O := O.keep K130 ((allS ge_la all0))
      have El := El.keep K130
      have Gv := Gv.keep K130 (ninS (Ne.symm ne_la_b) nin0)
      have Gc := Gc.keep K130 (ninS (Ne.symm ne_la_b) nin0)
      have Gn := Gn.keep K130 (ninS (Ne.symm ne_la_b) nin0)
      have Gm := Gm.keep K130 (ninS (Ne.symm ne_la_b) nin0)
      have Eb := Eb.keep K130
      have Vb := Vb.keep K130 (ninS (Ne.symm ne_la_tb) nin0)
      have Ex := Ex.keep K130
      have Fx := Fx.keep K130 (ninS (Ne.symm ne_la_x1) nin0)
      have Z0'''''' := Nat.le_trans Z0''''' K130.1
      have Kp := Kp.trans K130 (allS (P := fun x => x ∈ [] ∨ h0.size ≤ x) (Or.inr sz_la) all0)
      refine own_tr (T' := T130) (g' := (mkF m 234 #[.val (.ref a), .val (.ref la), .val (.ref b), .val (.int (0 : Int32)), .val (.int q), .val (.int (1 : Int32))] [(.int (1 : Int32))])) st130 ?_
      refine own_st (T' := T130) (g' := (mkF m 235 #[.val (.ref a), .val (.ref la), .val (.ref b), .val (.int (0 : Int32)), .val (.int q), .val (.int (1 : Int32))] [])) (fun _ k => XS.pop X130.here hx rfl (hb hby d9_234) rfl rfl k) ?_
      refine own_st (T' := T130) (g' := (mkF m 237 #[.val (.ref a), .val (.ref la), .val (.ref b), .val (.int (0 : Int32)), .val (.int q), .val (.int (1 : Int32))] [(.int (1 : Int32))])) (fun _ k => XS.iload X130.here hx rfl (hb hby d9_235) rfl k) ?_
      refine own_st (T' := T130) (g' := (mkF m 238 #[.val (.ref a), .val (.ref la), .val (.ref b), .val (.int (1 : Int32)), .val (.int q), .val (.int (1 : Int32))] [])) (fun _ k => XS.istoreN X130.here hx rfl (hb hby d9_237) rfl (l' := #[.val (.ref a), .val (.ref la), .val (.ref b), .val (.int (1 : Int32)), .val (.int q), .val (.int (1 : Int32))]) rfl k) ?_
      refine own_st (T' := T130) (g' := (mkF m 251 #[.val (.ref a), .val (.ref la), .val (.ref b), .val (.int (1 : Int32)), .val (.int q), .val (.int (1 : Int32))] [])) (fun _ k => XS.goto X130.here hx rfl (pc0 := 238) (pc' := 251) rfl (hb hby d9_238) (by decide) (by decide) k) ?_
      refine own_st (T' := T130) (g' := (mkF m 18 #[.val (.ref a), .val (.ref la), .val (.ref b), .val (.int (1 : Int32)), .val (.int q), .val (.int (1 : Int32))] [])) (fun _ k => XS.goto X130.here hx rfl (pc0 := 251) (pc' := 18) rfl (hb hby d9_251) (by decide) (by decide) k) ?_
      refine own_st (T' := T130) (g' := (mkF m 19 #[.val (.ref a), .val (.ref la), .val (.ref b), .val (.int (1 : Int32)), .val (.int q), .val (.int (1 : Int32))] [(.int (1 : Int32))])) (fun _ k => XS.iloadN X130.here hx rfl (hb hby d9_18) rfl k) ?_
      refine own_st (T' := T130) (g' := (mkF m 20 #[.val (.ref a), .val (.ref la), .val (.ref b), .val (.int (1 : Int32)), .val (.int q), .val (.int (1 : Int32))] [(.ref a), (.int (1 : Int32))])) (fun _ k => XS.aloadN X130.here hx rfl (hb hby d9_19) rfl rfl k) ?_
      obtain ⟨cq131, kq131, q131a, q131b, q131c⟩ := isOf hZ rfl Ea
      obtain ⟨vq131, _, ⟨T131, L131, k131, n131⟩, -, X131, ⟨Lc131, hQ131, l131, y131, z131⟩, st131⟩ := X130.virtualBack hx (y := (⟨"java/lang/String", "length", "()I"⟩ : MethodName)) (z := (⟨"java/lang/String", "length", "()I"⟩ : MethodName)) hown (mvT hZ (hw _ (List.mem_of_getElem? (i := 96) rfl))) (mvT hZ (hw _ (List.mem_of_getElem? (i := 97) rfl))) (notFace_of_selects (args := #[]) (mvT hZ (hw _ (List.mem_of_getElem? (i := 99) rfl)))) (mvT hZ (hw _ (List.mem_of_getElem? (i := 99) rfl))) (mvT hZ (hw _ (List.mem_of_getElem? (i := 98) rfl))) (by decide) (backOf (W := 1) (own_len1 l Z a0 hw [] a t kt x cc T130.heap n0 Z0'''''' Ea Fv Fc Vt (SC0.ext O.2) hcs) hZ (hw _ (List.mem_of_getElem? (i := 100) rfl)) (hw _ (List.mem_of_getElem? (i := 1) rfl)) (by decide) (by decide)) q131a q131c (g := (mkF m 20 #[.val (.ref a), .val (.ref la), .val (.ref b), .val (.int (1 : Int32)), .val (.int q), .val (.int (1 : Int32))] [(.ref a), (.int (1 : Int32))])) rfl (by rw [hml]; rfl) (Steps.refl _) (argsL := []) (rest := [(.int (1 : Int32))]) (lenOf own_pd14 rfl) rfl (by show 2 * 0 + _ ≤ _; exact Nat.le_of_eq rfl) (hb hby d9_20) (fun _ _ => ⟨rfl, rfl, (by decide : (((((((((((((0 + 1) + 0) + 1) + 1) + 0) + 0) + 0) + 0) + 0) + 0) + 0) + 1) + 1) + 0 ≤ _), (by decide : (((((((((((((0 + 3) + 0) + 4) + 16) + 0) + 0) + 0) + 0) + 0) + 0) + 0) + 2) + 10) + 0 ≤ _)⟩)
      dsimp only [Pt.U, Pt.locs, Pt.cells, Pt.slots] at X131 l131 y131 z131 st131 hQ131
      subst l131 y131 z131
      obtain ⟨rfl, N131q, e131⟩ := hQ131
      have N0'''''''''''' := Fr.app N0''''''''''' N131q
      refine own_tr (T' := T131) (g' := (mkF m 23 #[.val (.ref a), .val (.ref la), .val (.ref b), .val (.int (1 : Int32)), .val (.int q), .val (.int (1 : Int32))] [(.int (1 : Int32)), (.int (1 : Int32))])) st131 ?_
      refine own_st (T' := T131) (g' := (mkF m 254 #[.val (.ref a), .val (.ref la), .val (.ref b), .val (.int (1 : Int32)), .val (.int q), .val (.int (1 : Int32))] [])) (fun _ k => XS.icmpYes X131.here hx rfl (pc0 := 23) (pc' := 254) rfl (hb hby d9_23) rfl (Jvm.Free.XT.ii_ge_t (by decide)) (by decide) (by decide) k) ?_
      refine own_st (T' := T131) (g' := (mkF m 255 #[.val (.ref a), .val (.ref la), .val (.ref b), .val (.int (1 : Int32)), .val (.int q), .val (.int (1 : Int32))] [(.ref la)])) (fun _ k => XS.aloadN X131.here hx rfl (hb hby d9_254) rfl rfl k) ?_
      refine own_st (T' := T131) (g' := (mkF m 256 #[.val (.ref a), .val (.ref la), .val (.ref b), .val (.int (1 : Int32)), .val (.int q), .val (.int (1 : Int32))] [(.ref b), (.ref la)])) (fun _ k => XS.aloadN X131.here hx rfl (hb hby d9_255) rfl rfl k) ?_
      obtain ⟨vq132, _, ⟨T132, L132, k132, n132⟩, -, X132, ⟨Lc132, hQ132, l132, y132, z132⟩, st132⟩ := Jvm.LawKit.callS X131 hx (y := (⟨"com/example/idiolect/idiolect/internal/datetime/DateTimePatterns", "addLiteral", "(Ljava/util/List;Ljava/lang/StringBuilder;)V"⟩ : MethodName)) hown (mvT hZ (hw _ (List.mem_of_getElem? (i := 150) rfl))) (mvT hZ (hw _ (List.mem_of_getElem? (i := 151) rfl))) (mvT hZ (hw _ (List.mem_of_getElem? (i := 52) rfl))) (mvT hZ (hw _ (List.mem_of_getElem? (i := 152) rfl))) (by decide) (backOf (W := 0) (own_al0 l Z a0 hw [] la b T130.heap n0 Z0'''''' Gn Eb) hZ (hw _ (List.mem_of_getElem? (i := 152) rfl)) (hw _ (List.mem_of_getElem? (i := 52) rfl)) (by decide) (by decide)) (g := (mkF m 256 #[.val (.ref a), .val (.ref la), .val (.ref b), .val (.int (1 : Int32)), .val (.int q), .val (.int (1 : Int32))] [(.ref b), (.ref la)])) rfl (by rw [hml]; rfl) (argsL := [(.ref la), (.ref b)]) (rest := []) (lenOf own_pd29 rfl) rfl (by show 2 * 0 + _ ≤ _; exact Nat.le_of_eq rfl) (hb hby d9_256) (fun _ _ => ⟨rfl, e131, (by decide : ((((((((((((((0 + 1) + 0) + 1) + 1) + 0) + 0) + 0) + 0) + 0) + 0) + 0) + 1) + 1) + 0) + 0 ≤ _), (by decide : ((((((((((((((0 + 3) + 0) + 4) + 16) + 0) + 0) + 0) + 0) + 0) + 0) + 0) + 2) + 10) + 0) + 0 ≤ _)⟩)
      dsimp only [Pt.U, Pt.locs, Pt.cells, Pt.slots] at X132 l132 y132 z132 st132 hQ132
      subst l132 y132 z132
      obtain ⟨rfl, N132q, e132⟩ := hQ132
      have N0''''''''''''' := Fr.app N0'''''''''''' N132q
      refine own_st (T' := T132) (g' := (mkF m 259 #[.val (.ref a), .val (.ref la), .val (.ref b), .val (.int (1 : Int32)), .val (.int q), .val (.int (1 : Int32))] [])) st132 ?_
      refine own_st (T' := T132) (g' := (mkF m 260 #[.val (.ref a), .val (.ref la), .val (.ref b), .val (.int (1 : Int32)), .val (.int q), .val (.int (1 : Int32))] [(.ref la)])) (fun _ k => XS.aloadN X132.here hx rfl (hb hby d9_259) rfl rfl k) ?_
      exact own_retR X132 hx Bd.returns Bd.notSynchronized e132 rfl rfl (hb hby d9_260) ⟨la, ta, ka, x1, q, rfl, N0''''''''''''', Kp, El, Fe, Fs, Va, Ex, Fx, Or.inl ⟨hL, rfl⟩⟩ (by decide) (by decide)
    have J241 : ∀ (hN : ¬ own_isL q), own_Go p e below s (own_tkn_Q Z a t kt x q cc fm aD kD fD h0 n0) 14 80 T119 (mkF m 241 #[.val (.ref a), .val (.ref la), .val (.ref b), .val (.int (0 : Int32)), .val (.int q), .unset] []) := by
      intro hN
      refine own_st (T' := T119) (g' := (mkF m 242 #[.val (.ref a), .val (.ref la), .val (.ref b), .val (.int (0 : Int32)), .val (.int q), .unset] [(.ref b)])) (fun _ k => XS.aloadN X119.here hx rfl (hb hby d9_241) rfl rfl k) ?_
      refine own_st (T' := T119) (g' := (mkF m 244 #[.val (.ref a), .val (.ref la), .val (.ref b), .val (.int (0 : Int32)), .val (.int q), .unset] [(.int q), (.ref b)])) (fun _ k => XS.iload X119.here hx rfl (hb hby d9_242) rfl k) ?_
      obtain ⟨cq133, kq133, q133a, q133b, q133c⟩ := isOf hZ e119 Eb
      obtain ⟨vq133, _, ⟨T133, L133, k133, n133⟩, -, X133, ⟨Lc133, hQ133, l133, y133, z133⟩, st133⟩ := X119.virtualBack hx (y := (⟨"java/lang/StringBuilder", "append", "(C)Ljava/lang/StringBuilder;"⟩ : MethodName)) (z := (⟨"java/lang/StringBuilder", "append", "(C)Ljava/lang/StringBuilder;"⟩ : MethodName)) hown (mvT hZ (hw _ (List.mem_of_getElem? (i := 127) rfl))) (mvT hZ (hw _ (List.mem_of_getElem? (i := 128) rfl))) (notFace_of_selects (args := #[]) (mvT hZ (hw _ (List.mem_of_getElem? (i := 130) rfl)))) (mvT hZ (hw _ (List.mem_of_getElem? (i := 130) rfl))) (mvT hZ (hw _ (List.mem_of_getElem? (i := 129) rfl))) (by decide) (backOf (W := 0) (own_sba l Z a0 hw [] b tb ktb (fun _ => .int 0) q cc T117.heap n0 Z0'''' Gv Gc Gn Gm Eb ge_b Vb (fun _ _ => rfl) ge_tb ne_b_tb hch (SC0.ext O.2) hcs) hZ (hw _ (List.mem_of_getElem? (i := 131) rfl)) (hw _ (List.mem_of_getElem? (i := 80) rfl)) (by decide) (by decide)) q133a q133c (g := (mkF m 244 #[.val (.ref a), .val (.ref la), .val (.ref b), .val (.int (0 : Int32)), .val (.int q), .unset] [(.int q), (.ref b)])) rfl (by rw [hml]; rfl) (Steps.refl _) (argsL := [(.int q)]) (rest := []) (lenOf own_pd28 rfl) rfl (by show 2 * 0 + _ ≤ _; exact Nat.le_of_eq rfl) (hb hby d9_244) (fun _ _ => ⟨rfl, e119, (by decide : ((((((0 + 1) + 0) + 1) + 1) + 0) + 0) + 0 ≤ _), (by decide : ((((((0 + 3) + 0) + 4) + 16) + 0) + 0) + 0 ≤ _)⟩)
      dsimp only [Pt.U, Pt.locs, Pt.cells, Pt.slots] at X133 l133 y133 z133 st133 hQ133
      subst l133 y133 z133
      obtain ⟨rfl, N133q, K133, Gv, Gc, Gn, Gm, f2, Vb, hf2⟩ := hQ133
      have N0''''' := Fr.app N0'''' N133q
      have Ea := Ea.keep K133
      have Fv := Fv.keep K133 (ninS ne_a_b (ninS ne_a_tb nin0))
      have Fc := Fc.keep K133 (ninS ne_a_b (ninS ne_a_tb nin0))
      have Vt := Vt.keep K133 (ninS ne_t_b (ninS ne_t_tb nin0))
      have O := O.keep K133 ((allS ge_b (allS ge_tb all0)))
      have Fm := Fm.keep K133 (ninS ne_la_b (ninS ne_la_tb nin0))
      have Fe := Fe.keep K133 (ninS ne_la_b (ninS ne_la_tb nin0))
      have Fs := Fs.keep K133 (ninS ne_la_b (ninS ne_la_tb nin0))
      have El := El.keep K133
      have Eb := Eb.keep K133
      have Z0''''' := Nat.le_trans Z0'''' K133.1
      have Kp := Kp.trans K133 (allS (P := fun x => x ∈ [] ∨ h0.size ≤ x) (Or.inr sz_b) (allS (P := fun x => x ∈ [] ∨ h0.size ≤ x) (Or.inr sz_tb) all0))
      refine own_tr (T' := T133) (g' := (mkF m 247 #[.val (.ref a), .val (.ref la), .val (.ref b), .val (.int (0 : Int32)), .val (.int q), .unset] [(.ref b)])) st133 ?_
      refine own_st (T' := T133) (g' := (mkF m 248 #[.val (.ref a), .val (.ref la), .val (.ref b), .val (.int (0 : Int32)), .val (.int q), .unset] [])) (fun _ k => XS.pop X133.here hx rfl (hb hby d9_247) rfl rfl k) ?_
      refine own_st (T' := T133) (g' := (mkF m 251 #[.val (.ref a), .val (.ref la), .val (.ref b), .val (.int ((0 : Int32) + (1 : Int32))), .val (.int q), .unset] [])) (fun _ k => XS.iinc X133.here hx rfl (hb hby d9_248) rfl (l' := #[.val (.ref a), .val (.ref la), .val (.ref b), .val (.int ((0 : Int32) + (1 : Int32))), .val (.int q), .unset]) rfl k) ?_
      refine own_st (T' := T133) (g' := (mkF m 18 #[.val (.ref a), .val (.ref la), .val (.ref b), .val (.int ((0 : Int32) + (1 : Int32))), .val (.int q), .unset] [])) (fun _ k => XS.goto X133.here hx rfl (pc0 := 251) (pc' := 18) rfl (hb hby d9_251) (by decide) (by decide) k) ?_
      rw [show ((0 : Int32) + (1 : Int32)) = (1 : Int32) from rfl]
      refine own_st (T' := T133) (g' := (mkF m 19 #[.val (.ref a), .val (.ref la), .val (.ref b), .val (.int (1 : Int32)), .val (.int q), .unset] [(.int (1 : Int32))])) (fun _ k => XS.iloadN X133.here hx rfl (hb hby d9_18) rfl k) ?_
      refine own_st (T' := T133) (g' := (mkF m 20 #[.val (.ref a), .val (.ref la), .val (.ref b), .val (.int (1 : Int32)), .val (.int q), .unset] [(.ref a), (.int (1 : Int32))])) (fun _ k => XS.aloadN X133.here hx rfl (hb hby d9_19) rfl rfl k) ?_
      obtain ⟨cq134, kq134, q134a, q134b, q134c⟩ := isOf hZ rfl Ea
      obtain ⟨vq134, _, ⟨T134, L134, k134, n134⟩, -, X134, ⟨Lc134, hQ134, l134, y134, z134⟩, st134⟩ := X133.virtualBack hx (y := (⟨"java/lang/String", "length", "()I"⟩ : MethodName)) (z := (⟨"java/lang/String", "length", "()I"⟩ : MethodName)) hown (mvT hZ (hw _ (List.mem_of_getElem? (i := 96) rfl))) (mvT hZ (hw _ (List.mem_of_getElem? (i := 97) rfl))) (notFace_of_selects (args := #[]) (mvT hZ (hw _ (List.mem_of_getElem? (i := 99) rfl)))) (mvT hZ (hw _ (List.mem_of_getElem? (i := 99) rfl))) (mvT hZ (hw _ (List.mem_of_getElem? (i := 98) rfl))) (by decide) (backOf (W := 1) (own_len1 l Z a0 hw [] a t kt x cc T133.heap n0 Z0''''' Ea Fv Fc Vt (SC0.ext O.2) hcs) hZ (hw _ (List.mem_of_getElem? (i := 100) rfl)) (hw _ (List.mem_of_getElem? (i := 1) rfl)) (by decide) (by decide)) q134a q134c (g := (mkF m 20 #[.val (.ref a), .val (.ref la), .val (.ref b), .val (.int (1 : Int32)), .val (.int q), .unset] [(.ref a), (.int (1 : Int32))])) rfl (by rw [hml]; rfl) (Steps.refl _) (argsL := []) (rest := [(.int (1 : Int32))]) (lenOf own_pd14 rfl) rfl (by show 2 * 0 + _ ≤ _; exact Nat.le_of_eq rfl) (hb hby d9_20) (fun _ _ => ⟨rfl, rfl, (by decide : (((((((0 + 1) + 0) + 1) + 1) + 0) + 0) + 0) + 0 ≤ _), (by decide : (((((((0 + 3) + 0) + 4) + 16) + 0) + 0) + 0) + 0 ≤ _)⟩)
      dsimp only [Pt.U, Pt.locs, Pt.cells, Pt.slots] at X134 l134 y134 z134 st134 hQ134
      subst l134 y134 z134
      obtain ⟨rfl, N134q, e134⟩ := hQ134
      have N0'''''' := Fr.app N0''''' N134q
      refine own_tr (T' := T134) (g' := (mkF m 23 #[.val (.ref a), .val (.ref la), .val (.ref b), .val (.int (1 : Int32)), .val (.int q), .unset] [(.int (1 : Int32)), (.int (1 : Int32))])) st134 ?_
      refine own_st (T' := T134) (g' := (mkF m 254 #[.val (.ref a), .val (.ref la), .val (.ref b), .val (.int (1 : Int32)), .val (.int q), .unset] [])) (fun _ k => XS.icmpYes X134.here hx rfl (pc0 := 23) (pc' := 254) rfl (hb hby d9_23) rfl (Jvm.Free.XT.ii_ge_t (by decide)) (by decide) (by decide) k) ?_
      refine own_st (T' := T134) (g' := (mkF m 255 #[.val (.ref a), .val (.ref la), .val (.ref b), .val (.int (1 : Int32)), .val (.int q), .unset] [(.ref la)])) (fun _ k => XS.aloadN X134.here hx rfl (hb hby d9_254) rfl rfl k) ?_
      refine own_st (T' := T134) (g' := (mkF m 256 #[.val (.ref a), .val (.ref la), .val (.ref b), .val (.int (1 : Int32)), .val (.int q), .unset] [(.ref b), (.ref la)])) (fun _ k => XS.aloadN X134.here hx rfl (hb hby d9_255) rfl rfl k) ?_
      have nlb := ne_la_b
      have nlt := ne_la_tb
      obtain ⟨vq135, _, ⟨T135, L135, k135, n135⟩, -, X135, ⟨Lc135, hQ135, l135, y135, z135⟩, st135⟩ := Jvm.LawKit.callS X134 hx (y := (⟨"com/example/idiolect/idiolect/internal/datetime/DateTimePatterns", "addLiteral", "(Ljava/util/List;Ljava/lang/StringBuilder;)V"⟩ : MethodName)) hown (mvT hZ (hw _ (List.mem_of_getElem? (i := 150) rfl))) (mvT hZ (hw _ (List.mem_of_getElem? (i := 151) rfl))) (mvT hZ (hw _ (List.mem_of_getElem? (i := 52) rfl))) (mvT hZ (hw _ (List.mem_of_getElem? (i := 152) rfl))) (by decide) (backOf (W := 0) (own_al1 l Z a0 hw [] la aD kD fD b tb ktb f2 cc T133.heap n0 Z0''''' Fm Fe Fs El gl nD Gv Gc Gn Gm Eb Vb hf2 hcs ge_b nlb nlt (Ne.symm ne_b_tb) O SD0 VD0 SC0) hZ (hw _ (List.mem_of_getElem? (i := 152) rfl)) (hw _ (List.mem_of_getElem? (i := 52) rfl)) (by decide) (by decide)) (g := (mkF m 256 #[.val (.ref a), .val (.ref la), .val (.ref b), .val (.int (1 : Int32)), .val (.int q), .unset] [(.ref b), (.ref la)])) rfl (by rw [hml]; rfl) (argsL := [(.ref la), (.ref b)]) (rest := []) (lenOf own_pd29 rfl) rfl (by show 2 * 0 + _ ≤ _; exact Nat.le_of_eq rfl) (hb hby d9_256) (fun _ _ => ⟨rfl, e134, (by decide : ((((((((0 + 1) + 0) + 1) + 1) + 0) + 0) + 0) + 0) + 6 ≤ _), (by decide : ((((((((0 + 3) + 0) + 4) + 16) + 0) + 0) + 0) + 0) + 24 ≤ _)⟩)
      dsimp only [Pt.U, Pt.locs, Pt.cells, Pt.slots] at X135 l135 y135 z135 st135 hQ135
      subst l135 y135 z135
      obtain ⟨rfl, N135q, K135, ta, ka, x, Fe, Fs, Va, Ex, Fx⟩ := hQ135
      have N0''''''' := Fr.app N0'''''' N135q
      have Ea := Ea.keep K135
      have Fv := Fv.keep K135 (ninS ne_a_la (ninS ne_a_b nin0))
      have Fc := Fc.keep K135 (ninS ne_a_la (ninS ne_a_b nin0))
      have Vt := Vt.keep K135 (ninS ne_t_la (ninS ne_t_b nin0))
      have O := O.keep K135 ((allS ge_la (allS ge_b all0)))
      have El := El.keep K135
      have Eb := Eb.keep K135
      have Vb := Vb.keep K135 (ninS (Ne.symm ne_la_tb) (ninS (Ne.symm ne_b_tb) nin0))
      have Z0'''''' := Nat.le_trans Z0''''' K135.1
      have Kp := Kp.trans K135 (allS (P := fun x => x ∈ [] ∨ h0.size ≤ x) (Or.inr sz_la) (allS (P := fun x => x ∈ [] ∨ h0.size ≤ x) (Or.inr sz_b) all0))
      refine own_st (T' := T135) (g' := (mkF m 259 #[.val (.ref a), .val (.ref la), .val (.ref b), .val (.int (1 : Int32)), .val (.int q), .unset] [])) st135 ?_
      refine own_st (T' := T135) (g' := (mkF m 260 #[.val (.ref a), .val (.ref la), .val (.ref b), .val (.int (1 : Int32)), .val (.int q), .unset] [(.ref la)])) (fun _ k => XS.aloadN X135.here hx rfl (hb hby d9_259) rfl rfl k) ?_
      exact own_retR X135 hx Bd.returns Bd.notSynchronized rfl rfl rfl (hb hby d9_260) ⟨la, ta, ka, x, 0, rfl, N0''''''', Kp, El, Fe, Fs, Va, Ex, Fx, Or.inr ⟨hN, rfl⟩⟩ (by decide) (by decide)
    refine own_st (T' := T119) (g' := (mkF m 158 #[.val (.ref a), .val (.ref la), .val (.ref b), .val (.int (0 : Int32)), .val (.int q), .unset] [(.int q)])) (fun _ k => XS.iload X119.here hx rfl (hb hby d9_156) rfl k) ?_
    refine own_st (T' := T119) (g' := (mkF m 160 #[.val (.ref a), .val (.ref la), .val (.ref b), .val (.int (0 : Int32)), .val (.int q), .unset] [(.int (65 : Int32)), (.int q)])) (fun _ k => XS.bipush X119.here hx rfl (hb hby d9_158) k) ?_
    by_cases qA : q < (65 : Int32)
    · refine own_st (T' := T119) (g' := (mkF m 170 #[.val (.ref a), .val (.ref la), .val (.ref b), .val (.int (0 : Int32)), .val (.int q), .unset] [])) (fun _ k => XS.icmpYes X119.here hx rfl (pc0 := 160) (pc' := 170) rfl (hb hby d9_160) rfl (Jvm.Free.XT.ii_lt_t qA) (by decide) (by decide) k) ?_
      refine own_st (T' := T119) (g' := (mkF m 172 #[.val (.ref a), .val (.ref la), .val (.ref b), .val (.int (0 : Int32)), .val (.int q), .unset] [(.int q)])) (fun _ k => XS.iload X119.here hx rfl (hb hby d9_170) rfl k) ?_
      refine own_st (T' := T119) (g' := (mkF m 174 #[.val (.ref a), .val (.ref la), .val (.ref b), .val (.int (0 : Int32)), .val (.int q), .unset] [(.int (97 : Int32)), (.int q)])) (fun _ k => XS.bipush X119.here hx rfl (hb hby d9_172) k) ?_
      by_cases qa : q < (97 : Int32)
      · refine own_st (T' := T119) (g' := (mkF m 241 #[.val (.ref a), .val (.ref la), .val (.ref b), .val (.int (0 : Int32)), .val (.int q), .unset] [])) (fun _ k => XS.icmpYes X119.here hx rfl (pc0 := 174) (pc' := 241) rfl (hb hby d9_174) rfl (Jvm.Free.XT.ii_lt_t qa) (by decide) (by decide) k) ?_
        exact J241 (by unfold own_isL; simp_all)
      · refine own_st (T' := T119) (g' := (mkF m 177 #[.val (.ref a), .val (.ref la), .val (.ref b), .val (.int (0 : Int32)), .val (.int q), .unset] [])) (fun _ k => XS.icmpNo X119.here hx rfl (hb hby d9_174) rfl (Jvm.Free.XT.ii_lt_f qa) k) ?_
        refine own_st (T' := T119) (g' := (mkF m 179 #[.val (.ref a), .val (.ref la), .val (.ref b), .val (.int (0 : Int32)), .val (.int q), .unset] [(.int q)])) (fun _ k => XS.iload X119.here hx rfl (hb hby d9_177) rfl k) ?_
        refine own_st (T' := T119) (g' := (mkF m 181 #[.val (.ref a), .val (.ref la), .val (.ref b), .val (.int (0 : Int32)), .val (.int q), .unset] [(.int (122 : Int32)), (.int q)])) (fun _ k => XS.bipush X119.here hx rfl (hb hby d9_179) k) ?_
        by_cases qz : (122 : Int32) < q
        · refine own_st (T' := T119) (g' := (mkF m 241 #[.val (.ref a), .val (.ref la), .val (.ref b), .val (.int (0 : Int32)), .val (.int q), .unset] [])) (fun _ k => XS.icmpYes X119.here hx rfl (pc0 := 181) (pc' := 241) rfl (hb hby d9_181) rfl (Jvm.Free.XT.ii_gt_t qz) (by decide) (by decide) k) ?_
          exact J241 (by unfold own_isL; simp_all)
        · refine own_st (T' := T119) (g' := (mkF m 184 #[.val (.ref a), .val (.ref la), .val (.ref b), .val (.int (0 : Int32)), .val (.int q), .unset] [])) (fun _ k => XS.icmpNo X119.here hx rfl (hb hby d9_181) rfl (Jvm.Free.XT.ii_gt_f qz) k) ?_
          exact J184 (Or.inr ⟨qa, qz⟩)
    · refine own_st (T' := T119) (g' := (mkF m 163 #[.val (.ref a), .val (.ref la), .val (.ref b), .val (.int (0 : Int32)), .val (.int q), .unset] [])) (fun _ k => XS.icmpNo X119.here hx rfl (hb hby d9_160) rfl (Jvm.Free.XT.ii_lt_f qA) k) ?_
      refine own_st (T' := T119) (g' := (mkF m 165 #[.val (.ref a), .val (.ref la), .val (.ref b), .val (.int (0 : Int32)), .val (.int q), .unset] [(.int q)])) (fun _ k => XS.iload X119.here hx rfl (hb hby d9_163) rfl k) ?_
      refine own_st (T' := T119) (g' := (mkF m 167 #[.val (.ref a), .val (.ref la), .val (.ref b), .val (.int (0 : Int32)), .val (.int q), .unset] [(.int (90 : Int32)), (.int q)])) (fun _ k => XS.bipush X119.here hx rfl (hb hby d9_165) k) ?_
      by_cases qZ : (90 : Int32) < q
      · refine own_st (T' := T119) (g' := (mkF m 170 #[.val (.ref a), .val (.ref la), .val (.ref b), .val (.int (0 : Int32)), .val (.int q), .unset] [])) (fun _ k => XS.icmpNo X119.here hx rfl (hb hby d9_167) rfl (Jvm.Free.XT.ii_le_f qZ) k) ?_
        refine own_st (T' := T119) (g' := (mkF m 172 #[.val (.ref a), .val (.ref la), .val (.ref b), .val (.int (0 : Int32)), .val (.int q), .unset] [(.int q)])) (fun _ k => XS.iload X119.here hx rfl (hb hby d9_170) rfl k) ?_
        refine own_st (T' := T119) (g' := (mkF m 174 #[.val (.ref a), .val (.ref la), .val (.ref b), .val (.int (0 : Int32)), .val (.int q), .unset] [(.int (97 : Int32)), (.int q)])) (fun _ k => XS.bipush X119.here hx rfl (hb hby d9_172) k) ?_
        by_cases qa : q < (97 : Int32)
        · refine own_st (T' := T119) (g' := (mkF m 241 #[.val (.ref a), .val (.ref la), .val (.ref b), .val (.int (0 : Int32)), .val (.int q), .unset] [])) (fun _ k => XS.icmpYes X119.here hx rfl (pc0 := 174) (pc' := 241) rfl (hb hby d9_174) rfl (Jvm.Free.XT.ii_lt_t qa) (by decide) (by decide) k) ?_
          exact J241 (by unfold own_isL; simp_all)
        · refine own_st (T' := T119) (g' := (mkF m 177 #[.val (.ref a), .val (.ref la), .val (.ref b), .val (.int (0 : Int32)), .val (.int q), .unset] [])) (fun _ k => XS.icmpNo X119.here hx rfl (hb hby d9_174) rfl (Jvm.Free.XT.ii_lt_f qa) k) ?_
          refine own_st (T' := T119) (g' := (mkF m 179 #[.val (.ref a), .val (.ref la), .val (.ref b), .val (.int (0 : Int32)), .val (.int q), .unset] [(.int q)])) (fun _ k => XS.iload X119.here hx rfl (hb hby d9_177) rfl k) ?_
          refine own_st (T' := T119) (g' := (mkF m 181 #[.val (.ref a), .val (.ref la), .val (.ref b), .val (.int (0 : Int32)), .val (.int q), .unset] [(.int (122 : Int32)), (.int q)])) (fun _ k => XS.bipush X119.here hx rfl (hb hby d9_179) k) ?_
          by_cases qz : (122 : Int32) < q
          · refine own_st (T' := T119) (g' := (mkF m 241 #[.val (.ref a), .val (.ref la), .val (.ref b), .val (.int (0 : Int32)), .val (.int q), .unset] [])) (fun _ k => XS.icmpYes X119.here hx rfl (pc0 := 181) (pc' := 241) rfl (hb hby d9_181) rfl (Jvm.Free.XT.ii_gt_t qz) (by decide) (by decide) k) ?_
            exact J241 (by unfold own_isL; simp_all)
          · refine own_st (T' := T119) (g' := (mkF m 184 #[.val (.ref a), .val (.ref la), .val (.ref b), .val (.int (0 : Int32)), .val (.int q), .unset] [])) (fun _ k => XS.icmpNo X119.here hx rfl (hb hby d9_181) rfl (Jvm.Free.XT.ii_gt_f qz) k) ?_
            exact J184 (Or.inr ⟨qa, qz⟩)
      · refine own_st (T' := T119) (g' := (mkF m 184 #[.val (.ref a), .val (.ref la), .val (.ref b), .val (.int (0 : Int32)), .val (.int q), .unset] [])) (fun _ k => XS.icmpYes X119.here hx rfl (pc0 := 167) (pc' := 184) rfl (hb hby d9_167) rfl (Jvm.Free.XT.ii_le_t qZ) (by decide) (by decide) k) ?_
        exact J184 (Or.inl ⟨qA, qZ⟩)
theorem own_pd31 : parseMethodDescriptor "(C)Ljava/lang/String;" = some ⟨[.char], some (.object "java/lang/String")⟩ := by decide +kernel
theorem own_pd32 : parseMethodDescriptor "(Ljava/lang/String;)Ljava/util/List;" = some ⟨[(.object "java/lang/String")], some (.object "java/util/List")⟩ := by decide +kernel
theorem own_pn13 : plainName "com/example/idiolect/idiolect/internal/datetime/TokenIsFieldPinLaw" = true := by first | (simp [plainName, overriddenIn]; done) | decide +kernel
def own_law_Q (Z : State) (g0 : Int32) (g1 : Int32) (g2 : Int32) (g3 : Int32) (cc : Int32) (fm : Value) (aD : Addr) (kD : ClassId) (fD : Nat → Value) (h0 : Heap) (n0 : Nat) (v : Option Value) (h : Heap) (L : List Loc) : Prop := v = some (.int 1) ∧ Fr n0 L
set_option maxRecDepth 65536 in
set_option maxHeartbeats 40000000 in
theorem own_law (l : Launch) (Z : State) (a0 : Array Value) (hw : ∀ d ∈ tables_1, d.before a0 Z = true) (ws : List Jvm.Cond) (g0 : Int32) (g1 : Int32) (g2 : Int32) (g3 : Int32) (cc : Int32) (fm : Value) (aD : Addr) (kD : ClassId) (fD : Nat → Value) (h0 : Heap) (n0 : Nat) (Z0 : n0 ≤ h0.size) (O : Old Z n0 h0) (SC0 : Sta Z Z.heap "java/lang/String" "COMPACT_STRINGS" "Z" (.int cc)) (hcs : ¬ cc = (0 : Int32)) (SF0 : Sta Z Z.heap "jdk/internal/util/Preconditions" "SIOOBE_FORMATTER" "Ljava/util/function/BiFunction;" fm) (hfm : fm.isRef = true) (SD0 : Sta Z Z.heap "java/util/ArrayList" "DEFAULTCAPACITY_EMPTY_ELEMENTDATA" "[Ljava/lang/Object;" (.ref aD)) (VD0 : own_Av Z Z.heap aD kD (.object "java/lang/Object") 0 fD) (hn0 : Z.heap.size ≤ n0) :
    MetFree l x (head1 (Jvm.Cond.code x code maxLocals ret :: ws) room_1) (fun aa U0 => aa = #[(.int g0), (.int g1), (.int g2), (.int g3)] ∧ Z.Warmed39 U0.vm ∧ U0.heap = h0) (fun _ _ _ _ _ => True) (fun _ U0 o0 U1 => ∃ v0 L0, o0 = .returned v0 ∧ own_law_Q Z g0 g1 g2 g3 cc fm aD kD fD h0 n0 v0 U1.heap L0 ∧ ReturnedEndW U0 o0 U1 L0 40 1216) := by
  refine MetFree.of_bodySF (plainFor_of_name own_pn13) hisR ?_
  intro p e s m args below meth c s₁ Bd hml0 hP hK
  obtain ⟨rfl, hZ, hh⟩ := hP
  have hx := Bd.exec
  have hby := Bd.bytes
  have hml : c.maxLocals = 13 := hml0
  have hown : s.vm.findClass "com/example/idiolect/idiolect/internal/datetime/TokenIsFieldPinLaw" = some m.cls := findClass_of_methodNamed Bd.named
  have hnm := (name_of_methodNamed Bd.named Bd.method).1
  have X0 : Stand p l e room_1 s m #[(.int g0), (.int g1), (.int g2), (.int g3)] below meth c s₁ [] 0 0 := Stand.of_body Bd
  have e0 : s₁.heap = h0 := by rw [← hh, Bd.state]; rfl
  have N0 := Fr.nil n0
  have X0 : Stand p l e room_1 (s.setVm s.vm) m #[(.int g0), (.int g1), (.int g2), (.int g3)] below meth c s₁ [] 0 0 := X0
  have hS := (State.WarmedH.refl s).since 0
  have hk0 : 0 ≤ h0.size := Nat.zero_le _
  have wS : ∀ d ∈ Bundle.stringAtoms, d.before a0 Z = true := fun d hd => hw d ((by decide +kernel : ∀ d ∈ Bundle.stringAtoms, d ∈ tables_1) d hd)
  show own_GoW p e below s (own_law_Q Z g0 g1 g2 g3 cc fm aD kD fD h0 n0) 40 1216 s₁ (entryFrame m #[(.int g0), (.int g1), (.int g2), (.int g3)] maxLocals)
  rw [show entryFrame m #[(.int g0), (.int g1), (.int g2), (.int g3)] maxLocals = mkF m 0 #[.val (.int g0), .val (.int g1), .val (.int g2), .val (.int g3), .unset, .unset, .unset, .unset, .unset, .unset, .unset, .unset, .unset] [] from by first | (simp [entryFrame, mkF, argsToLocals, Value.category, maxLocals]; done) | rfl]
  refine own_stW (T' := s₁) (g' := (mkF m 1 #[.val (.int g0), .val (.int g1), .val (.int g2), .val (.int g3), .unset, .unset, .unset, .unset, .unset, .unset, .unset, .unset, .unset] [(.int g0)])) (fun _ k => XS.iloadN X0.here hx rfl (hb hby at_0) rfl k) ?_
  refine own_stW (T' := s₁) (g' := (mkF m 2 #[.val (.int g0), .val (.int g1), .val (.int g2), .val (.int g3), .unset, .unset, .unset, .unset, .unset, .unset, .unset, .unset, .unset] [(.int (g0.toUInt32.toUInt16.toUInt32.toInt32))])) (fun _ k => XS.i2c X0.here hx rfl (hb hby at_1) rfl k) ?_
  refine own_stW (T' := s₁) (g' := (mkF m 4 #[.val (.int g0), .val (.int g1), .val (.int g2), .val (.int g3), .val (.int (g0.toUInt32.toUInt16.toUInt32.toInt32)), .unset, .unset, .unset, .unset, .unset, .unset, .unset, .unset] [])) (fun _ k => XS.istore X0.here hx rfl (hb hby at_2) rfl (l' := #[.val (.int g0), .val (.int g1), .val (.int g2), .val (.int g3), .val (.int (g0.toUInt32.toUInt16.toUInt32.toInt32)), .unset, .unset, .unset, .unset, .unset, .unset, .unset, .unset]) rfl k) ?_
  have J4 : ∀ (ch : Int32) (hchn : nar .char ch = ch), own_GoW p e below s (own_law_Q Z g0 g1 g2 g3 cc fm aD kD fD h0 n0) 40 1216 s₁ (mkF m 4 #[.val (.int g0), .val (.int g1), .val (.int g2), .val (.int g3), .val (.int ch), .unset, .unset, .unset, .unset, .unset, .unset, .unset, .unset] []) := by
    intro ch hchn
    refine own_stW (T' := s₁) (g' := (mkF m 5 #[.val (.int g0), .val (.int g1), .val (.int g2), .val (.int g3), .val (.int ch), .unset, .unset, .unset, .unset, .unset, .unset, .unset, .unset] [(.int g1)])) (fun _ k => XS.iloadN X0.here hx rfl (hb hby at_4) rfl k) ?_
    refine own_stW (T' := s₁) (g' := (mkF m 8 #[.val (.int g0), .val (.int g1), .val (.int g2), .val (.int g3), .val (.int ch), .unset, .unset, .unset, .unset, .unset, .unset, .unset, .unset] [(.int (255 : Int32)), (.int g1)])) (fun _ k => XS.sipush X0.here hx rfl (hb hby at_5) k) ?_
    refine own_stW (T' := s₁) (g' := (mkF m 9 #[.val (.int g0), .val (.int g1), .val (.int g2), .val (.int g3), .val (.int ch), .unset, .unset, .unset, .unset, .unset, .unset, .unset, .unset] [(.int (g1 &&& (255 : Int32)))])) (fun _ k => XS.iand X0.here hx rfl (hb hby at_8) rfl k) ?_
    refine own_stW (T' := s₁) (g' := (mkF m 10 #[.val (.int g0), .val (.int g1), .val (.int g2), .val (.int g3), .val (.int ch), .unset, .unset, .unset, .unset, .unset, .unset, .unset, .unset] [(.int ((g1 &&& (255 : Int32)).toUInt32.toUInt16.toUInt32.toInt32))])) (fun _ k => XS.i2c X0.here hx rfl (hb hby at_9) rfl k) ?_
    refine own_stW (T' := s₁) (g' := (mkF m 12 #[.val (.int g0), .val (.int g1), .val (.int g2), .val (.int g3), .val (.int ch), .val (.int ((g1 &&& (255 : Int32)).toUInt32.toUInt16.toUInt32.toInt32)), .unset, .unset, .unset, .unset, .unset, .unset, .unset] [])) (fun _ k => XS.istore X0.here hx rfl (hb hby at_10) rfl (l' := #[.val (.int g0), .val (.int g1), .val (.int g2), .val (.int g3), .val (.int ch), .val (.int ((g1 &&& (255 : Int32)).toUInt32.toUInt16.toUInt32.toInt32)), .unset, .unset, .unset, .unset, .unset, .unset, .unset]) rfl k) ?_
    have J12 : ∀ (tc : Int32) (htc : ¬ (255 : Int32) < tc), own_GoW p e below s (own_law_Q Z g0 g1 g2 g3 cc fm aD kD fD h0 n0) 40 1216 s₁ (mkF m 12 #[.val (.int g0), .val (.int g1), .val (.int g2), .val (.int g3), .val (.int ch), .val (.int tc), .unset, .unset, .unset, .unset, .unset, .unset, .unset] []) := by
      intro tc htc
      refine own_stW (T' := s₁) (g' := (mkF m 13 #[.val (.int g0), .val (.int g1), .val (.int g2), .val (.int g3), .val (.int ch), .val (.int tc), .unset, .unset, .unset, .unset, .unset, .unset, .unset] [(.int g3)])) (fun _ k => XS.iloadN X0.here hx rfl (hb hby at_12) rfl k) ?_
      refine own_stW (T' := s₁) (g' := (mkF m 14 #[.val (.int g0), .val (.int g1), .val (.int g2), .val (.int g3), .val (.int ch), .val (.int tc), .unset, .unset, .unset, .unset, .unset, .unset, .unset] [(.int (1 : Int32)), (.int g3)])) (fun _ k => XS.iconst X0.here hx rfl (hb hby at_13) k) ?_
      refine own_stW (T' := s₁) (g' := (mkF m 15 #[.val (.int g0), .val (.int g1), .val (.int g2), .val (.int g3), .val (.int ch), .val (.int tc), .unset, .unset, .unset, .unset, .unset, .unset, .unset] [(.int (g3 &&& (1 : Int32)))])) (fun _ k => XS.iand X0.here hx rfl (hb hby at_14) rfl k) ?_
      by_cases qf : (g3 &&& (1 : Int32)) = (0 : Int32)
      · refine own_stW (T' := s₁) (g' := (mkF m 23 #[.val (.int g0), .val (.int g1), .val (.int g2), .val (.int g3), .val (.int ch), .val (.int tc), .unset, .unset, .unset, .unset, .unset, .unset, .unset] [])) (fun _ k => XS.ifYes X0.here hx rfl (pc0 := 15) (pc' := 23) rfl (hb hby at_15) rfl (Jvm.Free.XT.i0_eq_t qf) (by decide) (by decide) k) ?_
        refine own_stW (T' := s₁) (g' := (mkF m 25 #[.val (.int g0), .val (.int g1), .val (.int g2), .val (.int g3), .val (.int ch), .val (.int tc), .unset, .unset, .unset, .unset, .unset, .unset, .unset] [(.int tc)])) (fun _ k => XS.iload X0.here hx rfl (hb hby at_23) rfl k) ?_
        obtain ⟨vq136, _, ⟨T136, L136, k136, n136⟩, -, X136, ⟨Lc136, hQ136, l136, y136, z136⟩, st136⟩ := Jvm.LawKit.callS X0 hx (y := (⟨"java/lang/String", "valueOf", "(C)Ljava/lang/String;"⟩ : MethodName)) hown (mvT hZ (hw _ (List.mem_of_getElem? (i := 31) rfl))) (mvT hZ (hw _ (List.mem_of_getElem? (i := 32) rfl))) (mvT hZ (hw _ (List.mem_of_getElem? (i := 1) rfl))) (mvT hZ (hw _ (List.mem_of_getElem? (i := 33) rfl))) (by decide) (backOf (W := 0) (own_valueOf l Z a0 hw [] tc cc h0 n0 Z0 htc (SC0.ext O.2) hcs) hZ (hw _ (List.mem_of_getElem? (i := 33) rfl)) (hw _ (List.mem_of_getElem? (i := 1) rfl)) (by decide) (by decide)) (g := (mkF m 25 #[.val (.int g0), .val (.int g1), .val (.int g2), .val (.int g3), .val (.int ch), .val (.int tc), .unset, .unset, .unset, .unset, .unset, .unset, .unset] [(.int tc)])) rfl (by rw [hml]; rfl) (argsL := [(.int tc)]) (rest := []) (lenOf own_pd31 rfl) rfl (by show 2 * 0 + _ ≤ _; exact Nat.le_of_eq rfl) (hb hby at_25) (fun _ _ => ⟨rfl, e0, (by decide : 0 + 2 ≤ _), (by decide : 0 + 5 ≤ _)⟩)
        dsimp only [Pt.U, Pt.locs, Pt.cells, Pt.slots] at X136 l136 y136 z136 st136 hQ136
        subst l136 y136 z136
        obtain ⟨s1, t1, kt1, rfl, N136q, K136, -⟩ := hQ136
        have N0' := Fr.app N0 N136q
        have O := O.keep K136 (all0)
        have Z0' := Nat.le_trans Z0 K136.1
        have hk0 := Nat.le_trans hk0 K136.1
        refine own_stW (T' := T136) (g' := (mkF m 28 #[.val (.int g0), .val (.int g1), .val (.int g2), .val (.int g3), .val (.int ch), .val (.int tc), .unset, .unset, .unset, .unset, .unset, .unset, .unset] [(.ref s1)])) st136 ?_
        refine own_stW (T' := T136) (g' := (mkF m 30 #[.val (.int g0), .val (.int g1), .val (.int g2), .val (.int g3), .val (.int ch), .val (.int tc), .val (.ref s1), .unset, .unset, .unset, .unset, .unset, .unset] [])) (fun _ k => XS.astore X136.here hx rfl (hb hby at_28) rfl rfl (l' := #[.val (.int g0), .val (.int g1), .val (.int g2), .val (.int g3), .val (.int ch), .val (.int tc), .val (.ref s1), .unset, .unset, .unset, .unset, .unset, .unset]) rfl k) ?_
        obtain ⟨T137, h137, X137, e137, E137, A137, D137, -, st137⟩ := newO X136 hx hZ hown (hw _ (List.mem_of_getElem? (i := 8) rfl)) (hw _ (List.mem_of_getElem? (i := 9) rfl)) (hw _ (List.mem_of_getElem? (i := 10) rfl)) rfl (g := (mkF m 30 #[.val (.int g0), .val (.int g1), .val (.int g2), .val (.int g3), .val (.int ch), .val (.int tc), .val (.ref s1), .unset, .unset, .unset, .unset, .unset, .unset] [])) rfl (hb hby at_30) (by decide) (by decide)
        obtain ⟨tk, gtk⟩ : ∃ z, z = T136.heap.size := ⟨_, rfl⟩
        rw [← gtk] at A137 D137 st137
        have ge_tk : n0 ≤ tk := own_ge Z0' gtk
        have O := O.ext E137
        have Z0'' := Nat.le_trans Z0' E137.1
        have hk0 := Nat.le_trans hk0 E137.1
        have E_tk := A137
        have F_letter_tk : Fld Z h137 tk "com/example/idiolect/idiolect/internal/datetime/DateTimePatterns$Token" "letter" "C" (.int (0 : Int32)) := D137 (Or.inr (hw _ (List.mem_of_getElem? (i := 23) rfl))) (ty := .char) (by decide)
        have F_text_tk : Fld Z h137 tk "com/example/idiolect/idiolect/internal/datetime/DateTimePatterns$Token" "text" "Ljava/lang/String;" .null := D137 (Or.inr (hw _ (List.mem_of_getElem? (i := 25) rfl))) (ty := (.object "java/lang/String")) (by decide)
        refine own_stW (T' := T137) (g' := (mkF m 33 #[.val (.int g0), .val (.int g1), .val (.int g2), .val (.int g3), .val (.int ch), .val (.int tc), .val (.ref s1), .unset, .unset, .unset, .unset, .unset, .unset] [(.ref tk)])) st137 ?_
        refine own_stW (T' := T137) (g' := (mkF m 34 #[.val (.int g0), .val (.int g1), .val (.int g2), .val (.int g3), .val (.int ch), .val (.int tc), .val (.ref s1), .unset, .unset, .unset, .unset, .unset, .unset] [(.ref tk), (.ref tk)])) (fun _ k => XS.dup X137.here hx rfl (hb hby at_33) rfl rfl k) ?_
        refine own_stW (T' := T137) (g' := (mkF m 36 #[.val (.int g0), .val (.int g1), .val (.int g2), .val (.int g3), .val (.int ch), .val (.int tc), .val (.ref s1), .unset, .unset, .unset, .unset, .unset, .unset] [(.int ch), (.ref tk), (.ref tk)])) (fun _ k => XS.iload X137.here hx rfl (hb hby at_34) rfl k) ?_
        refine own_stW (T' := T137) (g' := (mkF m 38 #[.val (.int g0), .val (.int g1), .val (.int g2), .val (.int g3), .val (.int ch), .val (.int tc), .val (.ref s1), .unset, .unset, .unset, .unset, .unset, .unset] [(.ref s1), (.int ch), (.ref tk), (.ref tk)])) (fun _ k => XS.aload X137.here hx rfl (hb hby at_36) rfl rfl k) ?_
        obtain ⟨vq138, _, ⟨T138, L138, k138, n138⟩, -, X138, ⟨Lc138, hQ138, l138, y138, z138⟩, st138⟩ := X137.specialBack hx (y := (⟨"com/example/idiolect/idiolect/internal/datetime/DateTimePatterns$Token", "<init>", "(CLjava/lang/String;)V"⟩ : MethodName)) rfl hown (mvT hZ (hw _ (List.mem_of_getElem? (i := 11) rfl))) (mvT hZ (hw _ (List.mem_of_getElem? (i := 12) rfl))) (mvT hZ (hw _ (List.mem_of_getElem? (i := 13) rfl))) (by decide) (backOf (W := 1) (own_ti l Z a0 hw [] tk ch (.ref s1) h137 n0 Z0'' rfl F_letter_tk F_text_tk E_tk ge_tk) hZ (hw _ (List.mem_of_getElem? (i := 13) rfl)) (hw _ (List.mem_of_getElem? (i := 10) rfl)) (by decide) (by decide)) (g := (mkF m 38 #[.val (.int g0), .val (.int g1), .val (.int g2), .val (.int g3), .val (.int ch), .val (.int tc), .val (.ref s1), .unset, .unset, .unset, .unset, .unset, .unset] [(.ref s1), (.int ch), (.ref tk), (.ref tk)])) rfl (by rw [hml]; rfl) (Steps.refl _) (a := tk) (argsL := [(.int ch), (.ref s1)]) (rest := [(.ref tk)]) (lenOf own_pd16 rfl) rfl (by show 2 * 0 + _ ≤ _; exact Nat.le_of_eq rfl) (hb hby at_38) (fun _ _ => ⟨rfl, e137, (by decide : ((0 + 2) + 1) + 0 ≤ _), (by decide : ((0 + 5) + 2) + 0 ≤ _)⟩)
        dsimp only [Pt.U, Pt.locs, Pt.cells, Pt.slots] at X138 l138 y138 z138 st138 hQ138
        subst l138 y138 z138
        obtain ⟨rfl, N138q, K138, -, Fl_tk⟩ := hQ138
        have N0'' := Fr.app N0' N138q
        have O := O.keep K138 ((allS ge_tk all0))
        have E_tk := E_tk.keep K138
        have Z0''' := Nat.le_trans Z0'' K138.1
        have hk0 := Nat.le_trans hk0 K138.1
        refine own_trW (T' := T138) (g' := (mkF m 41 #[.val (.int g0), .val (.int g1), .val (.int g2), .val (.int g3), .val (.int ch), .val (.int tc), .val (.ref s1), .unset, .unset, .unset, .unset, .unset, .unset] [(.ref tk)])) st138 ?_
        rw [hchn] at Fl_tk
        refine own_stW (T' := T138) (g' := (mkF m 43 #[.val (.int g0), .val (.int g1), .val (.int g2), .val (.int g3), .val (.int ch), .val (.int tc), .val (.ref s1), .val (.ref tk), .unset, .unset, .unset, .unset, .unset] [])) (fun _ k => XS.astore X138.here hx rfl (hb hby at_41) rfl rfl (l' := #[.val (.int g0), .val (.int g1), .val (.int g2), .val (.int g3), .val (.int ch), .val (.int tc), .val (.ref s1), .val (.ref tk), .unset, .unset, .unset, .unset, .unset]) rfl k) ?_
        refine own_stW (T' := T138) (g' := (mkF m 45 #[.val (.int g0), .val (.int g1), .val (.int g2), .val (.int g3), .val (.int ch), .val (.int tc), .val (.ref s1), .val (.ref tk), .unset, .unset, .unset, .unset, .unset] [(.ref tk)])) (fun _ k => XS.aload X138.here hx rfl (hb hby at_43) rfl rfl k) ?_
        obtain ⟨cq139, kq139, q139a, q139b, q139c⟩ := isOf hZ rfl E_tk
        obtain ⟨vq139, _, ⟨T139, L139, k139, n139⟩, -, X139, ⟨Lc139, hQ139, l139, y139, z139⟩, st139⟩ := X138.virtualBack hx (y := (⟨"com/example/idiolect/idiolect/internal/datetime/DateTimePatterns$Token", "isField", "()Z"⟩ : MethodName)) (z := (⟨"com/example/idiolect/idiolect/internal/datetime/DateTimePatterns$Token", "isField", "()Z"⟩ : MethodName)) hown (mvT hZ (hw _ (List.mem_of_getElem? (i := 26) rfl))) (mvT hZ (hw _ (List.mem_of_getElem? (i := 27) rfl))) (notFace_of_selects (args := #[]) (mvT hZ (hw _ (List.mem_of_getElem? (i := 29) rfl)))) (mvT hZ (hw _ (List.mem_of_getElem? (i := 29) rfl))) (mvT hZ (hw _ (List.mem_of_getElem? (i := 28) rfl))) (by decide) (backOf (W := 0) (own_isf l Z a0 hw [] tk ch T138.heap n0 Z0''' Fl_tk) hZ (hw _ (List.mem_of_getElem? (i := 30) rfl)) (hw _ (List.mem_of_getElem? (i := 10) rfl)) (by decide) (by decide)) q139a q139c (g := (mkF m 45 #[.val (.int g0), .val (.int g1), .val (.int g2), .val (.int g3), .val (.int ch), .val (.int tc), .val (.ref s1), .val (.ref tk), .unset, .unset, .unset, .unset, .unset] [(.ref tk)])) rfl (by rw [hml]; rfl) (Steps.refl _) (argsL := []) (rest := []) (lenOf own_pd11 rfl) rfl (by show 2 * 0 + _ ≤ _; exact Nat.le_of_eq rfl) (hb hby at_45) (fun _ _ => ⟨rfl, rfl, (by decide : (((0 + 2) + 1) + 0) + 0 ≤ _), (by decide : (((0 + 5) + 2) + 0) + 0 ≤ _)⟩)
        dsimp only [Pt.U, Pt.locs, Pt.cells, Pt.slots] at X139 l139 y139 z139 st139 hQ139
        subst l139 y139 z139
        obtain ⟨hv, N139q, e139⟩ := hQ139
        obtain ⟨r1, hr1⟩ : ∃ r : Int32, r = (if ch = 0 then 0 else 1) := ⟨_, rfl⟩
        rw [← hr1] at hv
        subst hv
        have N0''' := Fr.app N0'' N139q
        refine own_trW (T' := T139) (g' := (mkF m 48 #[.val (.int g0), .val (.int g1), .val (.int g2), .val (.int g3), .val (.int ch), .val (.int tc), .val (.ref s1), .val (.ref tk), .unset, .unset, .unset, .unset, .unset] [(.int r1)])) st139 ?_
        refine own_stW (T' := T139) (g' := (mkF m 50 #[.val (.int g0), .val (.int g1), .val (.int g2), .val (.int g3), .val (.int ch), .val (.int tc), .val (.ref s1), .val (.ref tk), .unset, .unset, .unset, .unset, .unset] [(.int ch), (.int r1)])) (fun _ k => XS.iload X139.here hx rfl (hb hby at_48) rfl k) ?_
        have J66 : ∀ (u0 : True), own_GoW p e below s (own_law_Q Z g0 g1 g2 g3 cc fm aD kD fD h0 n0) 40 1216 T139 (mkF m 66 #[.val (.int g0), .val (.int g1), .val (.int g2), .val (.int g3), .val (.int ch), .val (.int tc), .val (.ref s1), .val (.ref tk), .unset, .unset, .unset, .unset, .unset] [(.int (1 : Int32))]) := by
          intro u0
          refine own_stW (T' := T139) (g' := (mkF m 68 #[.val (.int g0), .val (.int g1), .val (.int g2), .val (.int g3), .val (.int ch), .val (.int tc), .val (.ref s1), .val (.ref tk), .val (.int (1 : Int32)), .unset, .unset, .unset, .unset] [])) (fun _ k => XS.istore X139.here hx rfl (hb hby at_66) rfl (l' := #[.val (.int g0), .val (.int g1), .val (.int g2), .val (.int g3), .val (.int ch), .val (.int tc), .val (.ref s1), .val (.ref tk), .val (.int (1 : Int32)), .unset, .unset, .unset, .unset]) rfl k) ?_
          refine own_stW (T' := T139) (g' := (mkF m 69 #[.val (.int g0), .val (.int g1), .val (.int g2), .val (.int g3), .val (.int ch), .val (.int tc), .val (.ref s1), .val (.ref tk), .val (.int (1 : Int32)), .unset, .unset, .unset, .unset] [(.int g2)])) (fun _ k => XS.iloadN X139.here hx rfl (hb hby at_68) rfl k) ?_
          refine own_stW (T' := T139) (g' := (mkF m 72 #[.val (.int g0), .val (.int g1), .val (.int g2), .val (.int g3), .val (.int ch), .val (.int tc), .val (.ref s1), .val (.ref tk), .val (.int (1 : Int32)), .unset, .unset, .unset, .unset] [(.int (255 : Int32)), (.int g2)])) (fun _ k => XS.sipush X139.here hx rfl (hb hby at_69) k) ?_
          refine own_stW (T' := T139) (g' := (mkF m 73 #[.val (.int g0), .val (.int g1), .val (.int g2), .val (.int g3), .val (.int ch), .val (.int tc), .val (.ref s1), .val (.ref tk), .val (.int (1 : Int32)), .unset, .unset, .unset, .unset] [(.int (g2 &&& (255 : Int32)))])) (fun _ k => XS.iand X139.here hx rfl (hb hby at_72) rfl k) ?_
          refine own_stW (T' := T139) (g' := (mkF m 74 #[.val (.int g0), .val (.int g1), .val (.int g2), .val (.int g3), .val (.int ch), .val (.int tc), .val (.ref s1), .val (.ref tk), .val (.int (1 : Int32)), .unset, .unset, .unset, .unset] [(.int ((g2 &&& (255 : Int32)).toUInt32.toUInt16.toUInt32.toInt32))])) (fun _ k => XS.i2c X139.here hx rfl (hb hby at_73) rfl k) ?_
          refine own_stW (T' := T139) (g' := (mkF m 76 #[.val (.int g0), .val (.int g1), .val (.int g2), .val (.int g3), .val (.int ch), .val (.int tc), .val (.ref s1), .val (.ref tk), .val (.int (1 : Int32)), .val (.int ((g2 &&& (255 : Int32)).toUInt32.toUInt16.toUInt32.toInt32)), .unset, .unset, .unset] [])) (fun _ k => XS.istore X139.here hx rfl (hb hby at_74) rfl (l' := #[.val (.int g0), .val (.int g1), .val (.int g2), .val (.int g3), .val (.int ch), .val (.int tc), .val (.ref s1), .val (.ref tk), .val (.int (1 : Int32)), .val (.int ((g2 &&& (255 : Int32)).toUInt32.toUInt16.toUInt32.toInt32)), .unset, .unset, .unset]) rfl k) ?_
          have J76 : ∀ (pp : Int32) (hp1 : ¬ pp < 0 ∧ ¬ (255 : Int32) < pp) (hp2 : nar .char pp = pp) (hp3 : nar .char (pp.toInt8.toInt32 &&& (255 : Int32)).toUInt32.toUInt16.toUInt32.toInt32 = pp), own_GoW p e below s (own_law_Q Z g0 g1 g2 g3 cc fm aD kD fD h0 n0) 40 1216 T139 (mkF m 76 #[.val (.int g0), .val (.int g1), .val (.int g2), .val (.int g3), .val (.int ch), .val (.int tc), .val (.ref s1), .val (.ref tk), .val (.int (1 : Int32)), .val (.int pp), .unset, .unset, .unset] []) := by
            intro pp hp1 hp2 hp3
            refine own_stW (T' := T139) (g' := (mkF m 78 #[.val (.int g0), .val (.int g1), .val (.int g2), .val (.int g3), .val (.int ch), .val (.int tc), .val (.ref s1), .val (.ref tk), .val (.int (1 : Int32)), .val (.int pp), .unset, .unset, .unset] [(.int pp)])) (fun _ k => XS.iload X139.here hx rfl (hb hby at_76) rfl k) ?_
            refine own_stW (T' := T139) (g' := (mkF m 80 #[.val (.int g0), .val (.int g1), .val (.int g2), .val (.int g3), .val (.int ch), .val (.int tc), .val (.ref s1), .val (.ref tk), .val (.int (1 : Int32)), .val (.int pp), .unset, .unset, .unset] [(.int (65 : Int32)), (.int pp)])) (fun _ k => XS.bipush X139.here hx rfl (hb hby at_78) k) ?_
            have J109 : ∀ (al : Int32) (hal : (own_isL pp ∧ al = 1) ∨ (¬ own_isL pp ∧ al = 0)), own_GoW p e below s (own_law_Q Z g0 g1 g2 g3 cc fm aD kD fD h0 n0) 40 1216 T139 (mkF m 109 #[.val (.int g0), .val (.int g1), .val (.int g2), .val (.int g3), .val (.int ch), .val (.int tc), .val (.ref s1), .val (.ref tk), .val (.int (1 : Int32)), .val (.int pp), .unset, .unset, .unset] [(.int al)]) := by
              intro al hal
              refine own_stW (T' := T139) (g' := (mkF m 111 #[.val (.int g0), .val (.int g1), .val (.int g2), .val (.int g3), .val (.int ch), .val (.int tc), .val (.ref s1), .val (.ref tk), .val (.int (1 : Int32)), .val (.int pp), .val (.int al), .unset, .unset] [])) (fun _ k => XS.istore X139.here hx rfl (hb hby at_109) rfl (l' := #[.val (.int g0), .val (.int g1), .val (.int g2), .val (.int g3), .val (.int ch), .val (.int tc), .val (.ref s1), .val (.ref tk), .val (.int (1 : Int32)), .val (.int pp), .val (.int al), .unset, .unset]) rfl k) ?_
              refine own_stW (T' := T139) (g' := (mkF m 113 #[.val (.int g0), .val (.int g1), .val (.int g2), .val (.int g3), .val (.int ch), .val (.int tc), .val (.ref s1), .val (.ref tk), .val (.int (1 : Int32)), .val (.int pp), .val (.int al), .unset, .unset] [(.int pp)])) (fun _ k => XS.iload X139.here hx rfl (hb hby at_111) rfl k) ?_
              have lt_tk := E_tk.lt
              obtain ⟨vq140, _, ⟨T140, L140, k140, n140⟩, -, X140, ⟨Lc140, hQ140, l140, y140, z140⟩, st140⟩ := Jvm.LawKit.callS X139 hx (y := (⟨"java/lang/String", "valueOf", "(C)Ljava/lang/String;"⟩ : MethodName)) hown (mvT hZ (hw _ (List.mem_of_getElem? (i := 31) rfl))) (mvT hZ (hw _ (List.mem_of_getElem? (i := 32) rfl))) (mvT hZ (hw _ (List.mem_of_getElem? (i := 1) rfl))) (mvT hZ (hw _ (List.mem_of_getElem? (i := 33) rfl))) (by decide) (backOf (W := 0) (own_valueOf l Z a0 hw [] pp cc T138.heap n0 Z0''' hp1.2 (SC0.ext O.2) hcs) hZ (hw _ (List.mem_of_getElem? (i := 33) rfl)) (hw _ (List.mem_of_getElem? (i := 1) rfl)) (by decide) (by decide)) (g := (mkF m 113 #[.val (.int g0), .val (.int g1), .val (.int g2), .val (.int g3), .val (.int ch), .val (.int tc), .val (.ref s1), .val (.ref tk), .val (.int (1 : Int32)), .val (.int pp), .val (.int al), .unset, .unset] [(.int pp)])) rfl (by rw [hml]; rfl) (argsL := [(.int pp)]) (rest := []) (lenOf own_pd31 rfl) rfl (by show 2 * 0 + _ ≤ _; exact Nat.le_of_eq rfl) (hb hby at_113) (fun _ _ => ⟨rfl, e139, (by decide : ((((0 + 2) + 1) + 0) + 0) + 2 ≤ _), (by decide : ((((0 + 5) + 2) + 0) + 0) + 5 ≤ _)⟩)
              dsimp only [Pt.U, Pt.locs, Pt.cells, Pt.slots] at X140 l140 y140 z140 st140 hQ140
              subst l140 y140 z140
              obtain ⟨s2, t2, kt2, rfl, N140q, K140, gs2, gt2, Es, Fvs, Fcs, Vs⟩ := hQ140
              have N0'''' := Fr.app N0''' N140q
              have ne_tk_s2 : tk ≠ s2 := own_ne2 lt_tk gs2
              have ge_s2 : n0 ≤ s2 := Nat.le_trans Z0''' gs2
              have ne_tk_t2 : tk ≠ t2 := own_ne2 lt_tk gt2
              have ge_t2 : n0 ≤ t2 := Nat.le_trans Z0''' gt2
              have O := O.keep K140 (all0)
              have E_tk := E_tk.keep K140
              have Fl_tk := Fl_tk.keep K140 nin0
              have Z0'''' := Nat.le_trans Z0''' K140.1
              have hk0 := Nat.le_trans hk0 K140.1
              refine own_stW (T' := T140) (g' := (mkF m 116 #[.val (.int g0), .val (.int g1), .val (.int g2), .val (.int g3), .val (.int ch), .val (.int tc), .val (.ref s1), .val (.ref tk), .val (.int (1 : Int32)), .val (.int pp), .val (.int al), .unset, .unset] [(.ref s2)])) st140 ?_
              obtain ⟨vq141, _, ⟨T141, L141, k141, n141⟩, -, X141, ⟨Lc141, hQ141, l141, y141, z141⟩, st141⟩ := Jvm.LawKit.callS X140 hx (y := (⟨"com/example/idiolect/idiolect/internal/datetime/DateTimePatterns", "tokens", "(Ljava/lang/String;)Ljava/util/List;"⟩ : MethodName)) hown (mvT hZ (hw _ (List.mem_of_getElem? (i := 50) rfl))) (mvT hZ (hw _ (List.mem_of_getElem? (i := 51) rfl))) (mvT hZ (hw _ (List.mem_of_getElem? (i := 52) rfl))) (mvT hZ (hw _ (List.mem_of_getElem? (i := 53) rfl))) (by decide) (backOf (W := 0) (own_tkn l Z a0 hw [] s2 t2 kt2 _ pp cc fm aD kD fD T140.heap n0 Z0'''' Es Fvs Fcs Vs O SC0 hcs SF0 hfm SD0 VD0 hn0 hp1.2 hp3 hp2) hZ (hw _ (List.mem_of_getElem? (i := 53) rfl)) (hw _ (List.mem_of_getElem? (i := 52) rfl)) (by decide) (by decide)) (g := (mkF m 116 #[.val (.int g0), .val (.int g1), .val (.int g2), .val (.int g3), .val (.int ch), .val (.int tc), .val (.ref s1), .val (.ref tk), .val (.int (1 : Int32)), .val (.int pp), .val (.int al), .unset, .unset] [(.ref s2)])) rfl (by rw [hml]; rfl) (argsL := [(.ref s2)]) (rest := []) (lenOf own_pd32 rfl) rfl (by show 2 * 0 + _ ≤ _; exact Nat.le_of_eq rfl) (hb hby at_116) (fun _ _ => ⟨rfl, rfl, (by decide : (((((0 + 2) + 1) + 0) + 0) + 2) + 14 ≤ _), (by decide : (((((0 + 5) + 2) + 0) + 0) + 5) + 80 ≤ _)⟩)
              dsimp only [Pt.U, Pt.locs, Pt.cells, Pt.slots] at X141 l141 y141 z141 st141 hQ141
              subst l141 y141 z141
              obtain ⟨la, ta, ka, x, lw, rfl, N141q, K141, El, Fe, Fs, Va, Ex, Fx, hlw⟩ := hQ141
              have N0''''' := Fr.app N0'''' N141q
              have O := O.keep K141 (all0)
              have E_tk := E_tk.keep K141
              have Fl_tk := Fl_tk.keep K141 nin0
              have Z0''''' := Nat.le_trans Z0'''' K141.1
              have hk0 := Nat.le_trans hk0 K141.1
              refine own_stW (T' := T141) (g' := (mkF m 119 #[.val (.int g0), .val (.int g1), .val (.int g2), .val (.int g3), .val (.int ch), .val (.int tc), .val (.ref s1), .val (.ref tk), .val (.int (1 : Int32)), .val (.int pp), .val (.int al), .unset, .unset] [(.ref la)])) st141 ?_
              refine own_stW (T' := T141) (g' := (mkF m 121 #[.val (.int g0), .val (.int g1), .val (.int g2), .val (.int g3), .val (.int ch), .val (.int tc), .val (.ref s1), .val (.ref tk), .val (.int (1 : Int32)), .val (.int pp), .val (.int al), .val (.ref la), .unset] [])) (fun _ k => XS.astore X141.here hx rfl (hb hby at_119) rfl rfl (l' := #[.val (.int g0), .val (.int g1), .val (.int g2), .val (.int g3), .val (.int ch), .val (.int tc), .val (.ref s1), .val (.ref tk), .val (.int (1 : Int32)), .val (.int pp), .val (.int al), .val (.ref la), .unset]) rfl k) ?_
              refine own_stW (T' := T141) (g' := (mkF m 123 #[.val (.int g0), .val (.int g1), .val (.int g2), .val (.int g3), .val (.int ch), .val (.int tc), .val (.ref s1), .val (.ref tk), .val (.int (1 : Int32)), .val (.int pp), .val (.int al), .val (.ref la), .unset] [(.ref la)])) (fun _ k => XS.aload X141.here hx rfl (hb hby at_121) rfl rfl k) ?_
              obtain ⟨cq142, kq142, q142a, q142b, q142c⟩ := isOf hZ rfl El
              obtain ⟨vq142, _, ⟨T142, L142, k142, n142⟩, -, X142, ⟨Lc142, hQ142, l142, y142, z142⟩, st142⟩ := X141.interfaceBack hx (xi := (⟨"java/util/List", "size", "()I"⟩ : MethodName)) (y := (⟨"java/util/ArrayList", "size", "()I"⟩ : MethodName)) hown (mvT hZ (hw _ (List.mem_of_getElem? (i := 250) rfl))) (mvT hZ (hw _ (List.mem_of_getElem? (i := 251) rfl))) (mvT hZ (hw _ (List.mem_of_getElem? (i := 252) rfl))) (mvT hZ (hw _ (List.mem_of_getElem? (i := 253) rfl))) (mvT hZ (hw _ (List.mem_of_getElem? (i := 254) rfl))) (mvT hZ (hw _ (List.mem_of_getElem? (i := 255) rfl))) (mvT hZ (hw _ (List.mem_of_getElem? (i := 256) rfl))) (mvT hZ (hw _ (List.mem_of_getElem? (i := 212) rfl))) (by decide) (backOf (W := 0) (own_sz l Z a0 hw [] la T141.heap n0 Z0''''' Fs) hZ (hw _ (List.mem_of_getElem? (i := 257) rfl)) (hw _ (List.mem_of_getElem? (i := 56) rfl)) (by decide) (by decide)) q142a q142b q142c (g := (mkF m 123 #[.val (.int g0), .val (.int g1), .val (.int g2), .val (.int g3), .val (.int ch), .val (.int tc), .val (.ref s1), .val (.ref tk), .val (.int (1 : Int32)), .val (.int pp), .val (.int al), .val (.ref la), .unset] [(.ref la)])) rfl (by rw [hml]; rfl) (Steps.refl _) (argsL := []) (rest := []) (lenOf own_pd14 rfl) rfl (by show 2 * 0 + _ ≤ _; exact Nat.le_of_eq rfl) (hb hby at_123) (fun _ _ => ⟨rfl, rfl, (by decide : ((((((0 + 2) + 1) + 0) + 0) + 2) + 14) + 0 ≤ _), (by decide : ((((((0 + 5) + 2) + 0) + 0) + 5) + 80) + 0 ≤ _)⟩)
              dsimp only [Pt.U, Pt.locs, Pt.cells, Pt.slots] at X142 l142 y142 z142 st142 hQ142
              subst l142 y142 z142
              obtain ⟨rfl, N142q, e142⟩ := hQ142
              have N0'''''' := Fr.app N0''''' N142q
              refine own_trW (T' := T142) (g' := (mkF m 128 #[.val (.int g0), .val (.int g1), .val (.int g2), .val (.int g3), .val (.int ch), .val (.int tc), .val (.ref s1), .val (.ref tk), .val (.int (1 : Int32)), .val (.int pp), .val (.int al), .val (.ref la), .unset] [(.int (1 : Int32))])) st142 ?_
              refine own_stW (T' := T142) (g' := (mkF m 129 #[.val (.int g0), .val (.int g1), .val (.int g2), .val (.int g3), .val (.int ch), .val (.int tc), .val (.ref s1), .val (.ref tk), .val (.int (1 : Int32)), .val (.int pp), .val (.int al), .val (.ref la), .unset] [(.int (1 : Int32)), (.int (1 : Int32))])) (fun _ k => XS.iconst X142.here hx rfl (hb hby at_128) k) ?_
              refine own_stW (T' := T142) (g' := (mkF m 132 #[.val (.int g0), .val (.int g1), .val (.int g2), .val (.int g3), .val (.int ch), .val (.int tc), .val (.ref s1), .val (.ref tk), .val (.int (1 : Int32)), .val (.int pp), .val (.int al), .val (.ref la), .unset] [])) (fun _ k => XS.icmpNo X142.here hx rfl (hb hby at_129) rfl (Jvm.Free.XT.ii_ne_f rfl) k) ?_
              refine own_stW (T' := T142) (g' := (mkF m 134 #[.val (.int g0), .val (.int g1), .val (.int g2), .val (.int g3), .val (.int ch), .val (.int tc), .val (.ref s1), .val (.ref tk), .val (.int (1 : Int32)), .val (.int pp), .val (.int al), .val (.ref la), .unset] [(.ref la)])) (fun _ k => XS.aload X142.here hx rfl (hb hby at_132) rfl rfl k) ?_
              refine own_stW (T' := T142) (g' := (mkF m 135 #[.val (.int g0), .val (.int g1), .val (.int g2), .val (.int g3), .val (.int ch), .val (.int tc), .val (.ref s1), .val (.ref tk), .val (.int (1 : Int32)), .val (.int pp), .val (.int al), .val (.ref la), .unset] [(.int (0 : Int32)), (.ref la)])) (fun _ k => XS.iconst X142.here hx rfl (hb hby at_134) k) ?_
              obtain ⟨cq143, kq143, q143a, q143b, q143c⟩ := isOf hZ e142 El
              obtain ⟨vq143, _, ⟨T143, L143, k143, n143⟩, -, X143, ⟨Lc143, hQ143, l143, y143, z143⟩, st143⟩ := X142.interfaceBack hx (xi := (⟨"java/util/List", "get", "(I)Ljava/lang/Object;"⟩ : MethodName)) (y := (⟨"java/util/ArrayList", "get", "(I)Ljava/lang/Object;"⟩ : MethodName)) hown (mvT hZ (hw _ (List.mem_of_getElem? (i := 258) rfl))) (mvT hZ (hw _ (List.mem_of_getElem? (i := 259) rfl))) (mvT hZ (hw _ (List.mem_of_getElem? (i := 260) rfl))) (mvT hZ (hw _ (List.mem_of_getElem? (i := 261) rfl))) (mvT hZ (hw _ (List.mem_of_getElem? (i := 262) rfl))) (mvT hZ (hw _ (List.mem_of_getElem? (i := 263) rfl))) (mvT hZ (hw _ (List.mem_of_getElem? (i := 264) rfl))) (mvT hZ (hw _ (List.mem_of_getElem? (i := 212) rfl))) (by decide) (backOf (W := 0) (own_get l Z a0 hw [] la ta ka x T141.heap n0 Z0''''' Fe Va Fs El) hZ (hw _ (List.mem_of_getElem? (i := 265) rfl)) (hw _ (List.mem_of_getElem? (i := 56) rfl)) (by decide) (by decide)) q143a q143b q143c (g := (mkF m 135 #[.val (.int g0), .val (.int g1), .val (.int g2), .val (.int g3), .val (.int ch), .val (.int tc), .val (.ref s1), .val (.ref tk), .val (.int (1 : Int32)), .val (.int pp), .val (.int al), .val (.ref la), .unset] [(.int (0 : Int32)), (.ref la)])) rfl (by rw [hml]; rfl) (Steps.refl _) (argsL := [(.int (0 : Int32))]) (rest := []) (lenOf own_pd18 rfl) rfl (by show 2 * 0 + _ ≤ _; exact Nat.le_of_eq rfl) (hb hby at_135) (fun _ _ => ⟨rfl, e142, (by decide : (((((((0 + 2) + 1) + 0) + 0) + 2) + 14) + 0) + 0 ≤ _), (by decide : (((((((0 + 5) + 2) + 0) + 0) + 5) + 80) + 0) + 0 ≤ _)⟩)
              dsimp only [Pt.U, Pt.locs, Pt.cells, Pt.slots] at X143 l143 y143 z143 st143 hQ143
              subst l143 y143 z143
              obtain ⟨rfl, N143q, e143⟩ := hQ143
              have N0''''''' := Fr.app N0'''''' N143q
              refine own_trW (T' := T143) (g' := (mkF m 140 #[.val (.int g0), .val (.int g1), .val (.int g2), .val (.int g3), .val (.int ch), .val (.int tc), .val (.ref s1), .val (.ref tk), .val (.int (1 : Int32)), .val (.int pp), .val (.int al), .val (.ref la), .unset] [(.ref x)])) st143 ?_
              obtain ⟨T144, X144, e144, st144⟩ := castY X143 hx hZ hown (hw _ (List.mem_of_getElem? (i := 8) rfl)) e143 (Ins.self Ex) (g := (mkF m 140 #[.val (.int g0), .val (.int g1), .val (.int g2), .val (.int g3), .val (.int ch), .val (.int tc), .val (.ref s1), .val (.ref tk), .val (.int (1 : Int32)), .val (.int pp), .val (.int al), .val (.ref la), .unset] [(.ref x)])) rfl rfl (hb hby at_140)
              refine own_stW (T' := T144) (g' := (mkF m 143 #[.val (.int g0), .val (.int g1), .val (.int g2), .val (.int g3), .val (.int ch), .val (.int tc), .val (.ref s1), .val (.ref tk), .val (.int (1 : Int32)), .val (.int pp), .val (.int al), .val (.ref la), .unset] [(.ref x)])) st144 ?_
              obtain ⟨cq145, kq145, q145a, q145b, q145c⟩ := isOf hZ e144 Ex
              obtain ⟨vq145, _, ⟨T145, L145, k145, n145⟩, -, X145, ⟨Lc145, hQ145, l145, y145, z145⟩, st145⟩ := X144.virtualBack hx (y := (⟨"com/example/idiolect/idiolect/internal/datetime/DateTimePatterns$Token", "isField", "()Z"⟩ : MethodName)) (z := (⟨"com/example/idiolect/idiolect/internal/datetime/DateTimePatterns$Token", "isField", "()Z"⟩ : MethodName)) hown (mvT hZ (hw _ (List.mem_of_getElem? (i := 26) rfl))) (mvT hZ (hw _ (List.mem_of_getElem? (i := 27) rfl))) (notFace_of_selects (args := #[]) (mvT hZ (hw _ (List.mem_of_getElem? (i := 29) rfl)))) (mvT hZ (hw _ (List.mem_of_getElem? (i := 29) rfl))) (mvT hZ (hw _ (List.mem_of_getElem? (i := 28) rfl))) (by decide) (backOf (W := 0) (own_isf l Z a0 hw [] x lw T141.heap n0 Z0''''' Fx) hZ (hw _ (List.mem_of_getElem? (i := 30) rfl)) (hw _ (List.mem_of_getElem? (i := 10) rfl)) (by decide) (by decide)) q145a q145c (g := (mkF m 143 #[.val (.int g0), .val (.int g1), .val (.int g2), .val (.int g3), .val (.int ch), .val (.int tc), .val (.ref s1), .val (.ref tk), .val (.int (1 : Int32)), .val (.int pp), .val (.int al), .val (.ref la), .unset] [(.ref x)])) rfl (by rw [hml]; rfl) (Steps.refl _) (argsL := []) (rest := []) (lenOf own_pd11 rfl) rfl (by show 2 * 0 + _ ≤ _; exact Nat.le_of_eq rfl) (hb hby at_143) (fun _ _ => ⟨rfl, e144, (by decide : ((((((((0 + 2) + 1) + 0) + 0) + 2) + 14) + 0) + 0) + 0 ≤ _), (by decide : ((((((((0 + 5) + 2) + 0) + 0) + 5) + 80) + 0) + 0) + 0 ≤ _)⟩)
              dsimp only [Pt.U, Pt.locs, Pt.cells, Pt.slots] at X145 l145 y145 z145 st145 hQ145
              subst l145 y145 z145
              obtain ⟨hv, N145q, e145⟩ := hQ145
              rw [show (if lw = 0 then (0 : Int32) else 1) = al from by rcases hlw with ⟨u1, u2⟩ | ⟨u1, u2⟩ <;> rcases hal with ⟨u3, u4⟩ | ⟨u3, u4⟩ <;> first | (exact absurd u1 u3) | (exact absurd u3 u1) | (rw [u2, u4, if_neg (own_isL0 u1)]) | (rw [u2, u4, if_pos rfl])] at hv
              subst hv
              have N0'''''''' := Fr.app N0''''''' N145q
              refine own_trW (T' := T145) (g' := (mkF m 146 #[.val (.int g0), .val (.int g1), .val (.int g2), .val (.int g3), .val (.int ch), .val (.int tc), .val (.ref s1), .val (.ref tk), .val (.int (1 : Int32)), .val (.int pp), .val (.int al), .val (.ref la), .unset] [(.int al)])) st145 ?_
              refine own_stW (T' := T145) (g' := (mkF m 148 #[.val (.int g0), .val (.int g1), .val (.int g2), .val (.int g3), .val (.int ch), .val (.int tc), .val (.ref s1), .val (.ref tk), .val (.int (1 : Int32)), .val (.int pp), .val (.int al), .val (.ref la), .unset] [(.int al), (.int al)])) (fun _ k => XS.iload X145.here hx rfl (hb hby at_146) rfl k) ?_
              refine own_stW (T' := T145) (g' := (mkF m 151 #[.val (.int g0), .val (.int g1), .val (.int g2), .val (.int g3), .val (.int ch), .val (.int tc), .val (.ref s1), .val (.ref tk), .val (.int (1 : Int32)), .val (.int pp), .val (.int al), .val (.ref la), .unset] [])) (fun _ k => XS.icmpNo X145.here hx rfl (hb hby at_148) rfl (Jvm.Free.XT.ii_ne_f rfl) k) ?_
              refine own_stW (T' := T145) (g' := (mkF m 152 #[.val (.int g0), .val (.int g1), .val (.int g2), .val (.int g3), .val (.int ch), .val (.int tc), .val (.ref s1), .val (.ref tk), .val (.int (1 : Int32)), .val (.int pp), .val (.int al), .val (.ref la), .unset] [(.int (1 : Int32))])) (fun _ k => XS.iconst X145.here hx rfl (hb hby at_151) k) ?_
              refine own_stW (T' := T145) (g' := (mkF m 156 #[.val (.int g0), .val (.int g1), .val (.int g2), .val (.int g3), .val (.int ch), .val (.int tc), .val (.ref s1), .val (.ref tk), .val (.int (1 : Int32)), .val (.int pp), .val (.int al), .val (.ref la), .unset] [(.int (1 : Int32))])) (fun _ k => XS.goto X145.here hx rfl (pc0 := 152) (pc' := 156) rfl (hb hby at_152) (by decide) (by decide) k) ?_
              refine own_stW (T' := T145) (g' := (mkF m 158 #[.val (.int g0), .val (.int g1), .val (.int g2), .val (.int g3), .val (.int ch), .val (.int tc), .val (.ref s1), .val (.ref tk), .val (.int (1 : Int32)), .val (.int pp), .val (.int al), .val (.ref la), .val (.int (1 : Int32))] [])) (fun _ k => XS.istore X145.here hx rfl (hb hby at_156) rfl (l' := #[.val (.int g0), .val (.int g1), .val (.int g2), .val (.int g3), .val (.int ch), .val (.int tc), .val (.ref s1), .val (.ref tk), .val (.int (1 : Int32)), .val (.int pp), .val (.int al), .val (.ref la), .val (.int (1 : Int32))]) rfl k) ?_
              refine own_stW (T' := T145) (g' := (mkF m 160 #[.val (.int g0), .val (.int g1), .val (.int g2), .val (.int g3), .val (.int ch), .val (.int tc), .val (.ref s1), .val (.ref tk), .val (.int (1 : Int32)), .val (.int pp), .val (.int al), .val (.ref la), .val (.int (1 : Int32))] [(.int (1 : Int32))])) (fun _ k => XS.iload X145.here hx rfl (hb hby at_158) rfl k) ?_
              refine own_stW (T' := T145) (g' := (mkF m 163 #[.val (.int g0), .val (.int g1), .val (.int g2), .val (.int g3), .val (.int ch), .val (.int tc), .val (.ref s1), .val (.ref tk), .val (.int (1 : Int32)), .val (.int pp), .val (.int al), .val (.ref la), .val (.int (1 : Int32))] [])) (fun _ k => XS.ifNo X145.here hx rfl (hb hby at_160) rfl (Jvm.Free.XT.i0_eq_f (by decide)) k) ?_
              refine own_stW (T' := T145) (g' := (mkF m 165 #[.val (.int g0), .val (.int g1), .val (.int g2), .val (.int g3), .val (.int ch), .val (.int tc), .val (.ref s1), .val (.ref tk), .val (.int (1 : Int32)), .val (.int pp), .val (.int al), .val (.ref la), .val (.int (1 : Int32))] [(.int (1 : Int32))])) (fun _ k => XS.iload X145.here hx rfl (hb hby at_163) rfl k) ?_
              refine own_stW (T' := T145) (g' := (mkF m 168 #[.val (.int g0), .val (.int g1), .val (.int g2), .val (.int g3), .val (.int ch), .val (.int tc), .val (.ref s1), .val (.ref tk), .val (.int (1 : Int32)), .val (.int pp), .val (.int al), .val (.ref la), .val (.int (1 : Int32))] [])) (fun _ k => XS.ifNo X145.here hx rfl (hb hby at_165) rfl (Jvm.Free.XT.i0_eq_f (by decide)) k) ?_
              refine own_stW (T' := T145) (g' := (mkF m 169 #[.val (.int g0), .val (.int g1), .val (.int g2), .val (.int g3), .val (.int ch), .val (.int tc), .val (.ref s1), .val (.ref tk), .val (.int (1 : Int32)), .val (.int pp), .val (.int al), .val (.ref la), .val (.int (1 : Int32))] [(.int (1 : Int32))])) (fun _ k => XS.iconst X145.here hx rfl (hb hby at_168) k) ?_
              refine own_stW (T' := T145) (g' := (mkF m 173 #[.val (.int g0), .val (.int g1), .val (.int g2), .val (.int g3), .val (.int ch), .val (.int tc), .val (.ref s1), .val (.ref tk), .val (.int (1 : Int32)), .val (.int pp), .val (.int al), .val (.ref la), .val (.int (1 : Int32))] [(.int (1 : Int32))])) (fun _ k => XS.goto X145.here hx rfl (pc0 := 169) (pc' := 173) rfl (hb hby at_169) (by decide) (by decide) k) ?_
              exact own_retNW X145 hS hx Bd.returns Bd.notSynchronized e145 hk0 (by simp) (hb hby at_173) ⟨rfl, N0''''''''⟩ (by decide) (by decide)
            by_cases qA : pp < (65 : Int32)
            · refine own_stW (T' := T139) (g' := (mkF m 90 #[.val (.int g0), .val (.int g1), .val (.int g2), .val (.int g3), .val (.int ch), .val (.int tc), .val (.ref s1), .val (.ref tk), .val (.int (1 : Int32)), .val (.int pp), .unset, .unset, .unset] [])) (fun _ k => XS.icmpYes X139.here hx rfl (pc0 := 80) (pc' := 90) rfl (hb hby at_80) rfl (Jvm.Free.XT.ii_lt_t qA) (by decide) (by decide) k) ?_
              refine own_stW (T' := T139) (g' := (mkF m 92 #[.val (.int g0), .val (.int g1), .val (.int g2), .val (.int g3), .val (.int ch), .val (.int tc), .val (.ref s1), .val (.ref tk), .val (.int (1 : Int32)), .val (.int pp), .unset, .unset, .unset] [(.int pp)])) (fun _ k => XS.iload X139.here hx rfl (hb hby at_90) rfl k) ?_
              refine own_stW (T' := T139) (g' := (mkF m 94 #[.val (.int g0), .val (.int g1), .val (.int g2), .val (.int g3), .val (.int ch), .val (.int tc), .val (.ref s1), .val (.ref tk), .val (.int (1 : Int32)), .val (.int pp), .unset, .unset, .unset] [(.int (97 : Int32)), (.int pp)])) (fun _ k => XS.bipush X139.here hx rfl (hb hby at_92) k) ?_
              by_cases qa : pp < (97 : Int32)
              · refine own_stW (T' := T139) (g' := (mkF m 108 #[.val (.int g0), .val (.int g1), .val (.int g2), .val (.int g3), .val (.int ch), .val (.int tc), .val (.ref s1), .val (.ref tk), .val (.int (1 : Int32)), .val (.int pp), .unset, .unset, .unset] [])) (fun _ k => XS.icmpYes X139.here hx rfl (pc0 := 94) (pc' := 108) rfl (hb hby at_94) rfl (Jvm.Free.XT.ii_lt_t qa) (by decide) (by decide) k) ?_
                refine own_stW (T' := T139) (g' := (mkF m 109 #[.val (.int g0), .val (.int g1), .val (.int g2), .val (.int g3), .val (.int ch), .val (.int tc), .val (.ref s1), .val (.ref tk), .val (.int (1 : Int32)), .val (.int pp), .unset, .unset, .unset] [(.int (0 : Int32))])) (fun _ k => XS.iconst X139.here hx rfl (hb hby at_108) k) ?_
                exact J109 _ (Or.inr ⟨by unfold own_isL; simp_all, rfl⟩)
              · refine own_stW (T' := T139) (g' := (mkF m 97 #[.val (.int g0), .val (.int g1), .val (.int g2), .val (.int g3), .val (.int ch), .val (.int tc), .val (.ref s1), .val (.ref tk), .val (.int (1 : Int32)), .val (.int pp), .unset, .unset, .unset] [])) (fun _ k => XS.icmpNo X139.here hx rfl (hb hby at_94) rfl (Jvm.Free.XT.ii_lt_f qa) k) ?_
                refine own_stW (T' := T139) (g' := (mkF m 99 #[.val (.int g0), .val (.int g1), .val (.int g2), .val (.int g3), .val (.int ch), .val (.int tc), .val (.ref s1), .val (.ref tk), .val (.int (1 : Int32)), .val (.int pp), .unset, .unset, .unset] [(.int pp)])) (fun _ k => XS.iload X139.here hx rfl (hb hby at_97) rfl k) ?_
                refine own_stW (T' := T139) (g' := (mkF m 101 #[.val (.int g0), .val (.int g1), .val (.int g2), .val (.int g3), .val (.int ch), .val (.int tc), .val (.ref s1), .val (.ref tk), .val (.int (1 : Int32)), .val (.int pp), .unset, .unset, .unset] [(.int (122 : Int32)), (.int pp)])) (fun _ k => XS.bipush X139.here hx rfl (hb hby at_99) k) ?_
                by_cases qz : (122 : Int32) < pp
                · refine own_stW (T' := T139) (g' := (mkF m 108 #[.val (.int g0), .val (.int g1), .val (.int g2), .val (.int g3), .val (.int ch), .val (.int tc), .val (.ref s1), .val (.ref tk), .val (.int (1 : Int32)), .val (.int pp), .unset, .unset, .unset] [])) (fun _ k => XS.icmpYes X139.here hx rfl (pc0 := 101) (pc' := 108) rfl (hb hby at_101) rfl (Jvm.Free.XT.ii_gt_t qz) (by decide) (by decide) k) ?_
                  refine own_stW (T' := T139) (g' := (mkF m 109 #[.val (.int g0), .val (.int g1), .val (.int g2), .val (.int g3), .val (.int ch), .val (.int tc), .val (.ref s1), .val (.ref tk), .val (.int (1 : Int32)), .val (.int pp), .unset, .unset, .unset] [(.int (0 : Int32))])) (fun _ k => XS.iconst X139.here hx rfl (hb hby at_108) k) ?_
                  exact J109 _ (Or.inr ⟨by unfold own_isL; simp_all, rfl⟩)
                · refine own_stW (T' := T139) (g' := (mkF m 104 #[.val (.int g0), .val (.int g1), .val (.int g2), .val (.int g3), .val (.int ch), .val (.int tc), .val (.ref s1), .val (.ref tk), .val (.int (1 : Int32)), .val (.int pp), .unset, .unset, .unset] [])) (fun _ k => XS.icmpNo X139.here hx rfl (hb hby at_101) rfl (Jvm.Free.XT.ii_gt_f qz) k) ?_
                  refine own_stW (T' := T139) (g' := (mkF m 105 #[.val (.int g0), .val (.int g1), .val (.int g2), .val (.int g3), .val (.int ch), .val (.int tc), .val (.ref s1), .val (.ref tk), .val (.int (1 : Int32)), .val (.int pp), .unset, .unset, .unset] [(.int (1 : Int32))])) (fun _ k => XS.iconst X139.here hx rfl (hb hby at_104) k) ?_
                  refine own_stW (T' := T139) (g' := (mkF m 109 #[.val (.int g0), .val (.int g1), .val (.int g2), .val (.int g3), .val (.int ch), .val (.int tc), .val (.ref s1), .val (.ref tk), .val (.int (1 : Int32)), .val (.int pp), .unset, .unset, .unset] [(.int (1 : Int32))])) (fun _ k => XS.goto X139.here hx rfl (pc0 := 105) (pc' := 109) rfl (hb hby at_105) (by decide) (by decide) k) ?_
                  exact J109 _ (Or.inl ⟨Or.inr ⟨qa, qz⟩, rfl⟩)
            · refine own_stW (T' := T139) (g' := (mkF m 83 #[.val (.int g0), .val (.int g1), .val (.int g2), .val (.int g3), .val (.int ch), .val (.int tc), .val (.ref s1), .val (.ref tk), .val (.int (1 : Int32)), .val (.int pp), .unset, .unset, .unset] [])) (fun _ k => XS.icmpNo X139.here hx rfl (hb hby at_80) rfl (Jvm.Free.XT.ii_lt_f qA) k) ?_
              refine own_stW (T' := T139) (g' := (mkF m 85 #[.val (.int g0), .val (.int g1), .val (.int g2), .val (.int g3), .val (.int ch), .val (.int tc), .val (.ref s1), .val (.ref tk), .val (.int (1 : Int32)), .val (.int pp), .unset, .unset, .unset] [(.int pp)])) (fun _ k => XS.iload X139.here hx rfl (hb hby at_83) rfl k) ?_
              refine own_stW (T' := T139) (g' := (mkF m 87 #[.val (.int g0), .val (.int g1), .val (.int g2), .val (.int g3), .val (.int ch), .val (.int tc), .val (.ref s1), .val (.ref tk), .val (.int (1 : Int32)), .val (.int pp), .unset, .unset, .unset] [(.int (90 : Int32)), (.int pp)])) (fun _ k => XS.bipush X139.here hx rfl (hb hby at_85) k) ?_
              by_cases qZ : (90 : Int32) < pp
              · refine own_stW (T' := T139) (g' := (mkF m 90 #[.val (.int g0), .val (.int g1), .val (.int g2), .val (.int g3), .val (.int ch), .val (.int tc), .val (.ref s1), .val (.ref tk), .val (.int (1 : Int32)), .val (.int pp), .unset, .unset, .unset] [])) (fun _ k => XS.icmpNo X139.here hx rfl (hb hby at_87) rfl (Jvm.Free.XT.ii_le_f qZ) k) ?_
                refine own_stW (T' := T139) (g' := (mkF m 92 #[.val (.int g0), .val (.int g1), .val (.int g2), .val (.int g3), .val (.int ch), .val (.int tc), .val (.ref s1), .val (.ref tk), .val (.int (1 : Int32)), .val (.int pp), .unset, .unset, .unset] [(.int pp)])) (fun _ k => XS.iload X139.here hx rfl (hb hby at_90) rfl k) ?_
                refine own_stW (T' := T139) (g' := (mkF m 94 #[.val (.int g0), .val (.int g1), .val (.int g2), .val (.int g3), .val (.int ch), .val (.int tc), .val (.ref s1), .val (.ref tk), .val (.int (1 : Int32)), .val (.int pp), .unset, .unset, .unset] [(.int (97 : Int32)), (.int pp)])) (fun _ k => XS.bipush X139.here hx rfl (hb hby at_92) k) ?_
                by_cases qa : pp < (97 : Int32)
                · refine own_stW (T' := T139) (g' := (mkF m 108 #[.val (.int g0), .val (.int g1), .val (.int g2), .val (.int g3), .val (.int ch), .val (.int tc), .val (.ref s1), .val (.ref tk), .val (.int (1 : Int32)), .val (.int pp), .unset, .unset, .unset] [])) (fun _ k => XS.icmpYes X139.here hx rfl (pc0 := 94) (pc' := 108) rfl (hb hby at_94) rfl (Jvm.Free.XT.ii_lt_t qa) (by decide) (by decide) k) ?_
                  refine own_stW (T' := T139) (g' := (mkF m 109 #[.val (.int g0), .val (.int g1), .val (.int g2), .val (.int g3), .val (.int ch), .val (.int tc), .val (.ref s1), .val (.ref tk), .val (.int (1 : Int32)), .val (.int pp), .unset, .unset, .unset] [(.int (0 : Int32))])) (fun _ k => XS.iconst X139.here hx rfl (hb hby at_108) k) ?_
                  exact J109 _ (Or.inr ⟨by unfold own_isL; simp_all, rfl⟩)
                · refine own_stW (T' := T139) (g' := (mkF m 97 #[.val (.int g0), .val (.int g1), .val (.int g2), .val (.int g3), .val (.int ch), .val (.int tc), .val (.ref s1), .val (.ref tk), .val (.int (1 : Int32)), .val (.int pp), .unset, .unset, .unset] [])) (fun _ k => XS.icmpNo X139.here hx rfl (hb hby at_94) rfl (Jvm.Free.XT.ii_lt_f qa) k) ?_
                  refine own_stW (T' := T139) (g' := (mkF m 99 #[.val (.int g0), .val (.int g1), .val (.int g2), .val (.int g3), .val (.int ch), .val (.int tc), .val (.ref s1), .val (.ref tk), .val (.int (1 : Int32)), .val (.int pp), .unset, .unset, .unset] [(.int pp)])) (fun _ k => XS.iload X139.here hx rfl (hb hby at_97) rfl k) ?_
                  refine own_stW (T' := T139) (g' := (mkF m 101 #[.val (.int g0), .val (.int g1), .val (.int g2), .val (.int g3), .val (.int ch), .val (.int tc), .val (.ref s1), .val (.ref tk), .val (.int (1 : Int32)), .val (.int pp), .unset, .unset, .unset] [(.int (122 : Int32)), (.int pp)])) (fun _ k => XS.bipush X139.here hx rfl (hb hby at_99) k) ?_
                  by_cases qz : (122 : Int32) < pp
                  · refine own_stW (T' := T139) (g' := (mkF m 108 #[.val (.int g0), .val (.int g1), .val (.int g2), .val (.int g3), .val (.int ch), .val (.int tc), .val (.ref s1), .val (.ref tk), .val (.int (1 : Int32)), .val (.int pp), .unset, .unset, .unset] [])) (fun _ k => XS.icmpYes X139.here hx rfl (pc0 := 101) (pc' := 108) rfl (hb hby at_101) rfl (Jvm.Free.XT.ii_gt_t qz) (by decide) (by decide) k) ?_
                    refine own_stW (T' := T139) (g' := (mkF m 109 #[.val (.int g0), .val (.int g1), .val (.int g2), .val (.int g3), .val (.int ch), .val (.int tc), .val (.ref s1), .val (.ref tk), .val (.int (1 : Int32)), .val (.int pp), .unset, .unset, .unset] [(.int (0 : Int32))])) (fun _ k => XS.iconst X139.here hx rfl (hb hby at_108) k) ?_
                    exact J109 _ (Or.inr ⟨by unfold own_isL; simp_all, rfl⟩)
                  · refine own_stW (T' := T139) (g' := (mkF m 104 #[.val (.int g0), .val (.int g1), .val (.int g2), .val (.int g3), .val (.int ch), .val (.int tc), .val (.ref s1), .val (.ref tk), .val (.int (1 : Int32)), .val (.int pp), .unset, .unset, .unset] [])) (fun _ k => XS.icmpNo X139.here hx rfl (hb hby at_101) rfl (Jvm.Free.XT.ii_gt_f qz) k) ?_
                    refine own_stW (T' := T139) (g' := (mkF m 105 #[.val (.int g0), .val (.int g1), .val (.int g2), .val (.int g3), .val (.int ch), .val (.int tc), .val (.ref s1), .val (.ref tk), .val (.int (1 : Int32)), .val (.int pp), .unset, .unset, .unset] [(.int (1 : Int32))])) (fun _ k => XS.iconst X139.here hx rfl (hb hby at_104) k) ?_
                    refine own_stW (T' := T139) (g' := (mkF m 109 #[.val (.int g0), .val (.int g1), .val (.int g2), .val (.int g3), .val (.int ch), .val (.int tc), .val (.ref s1), .val (.ref tk), .val (.int (1 : Int32)), .val (.int pp), .unset, .unset, .unset] [(.int (1 : Int32))])) (fun _ k => XS.goto X139.here hx rfl (pc0 := 105) (pc' := 109) rfl (hb hby at_105) (by decide) (by decide) k) ?_
                    exact J109 _ (Or.inl ⟨Or.inr ⟨qa, qz⟩, rfl⟩)
              · refine own_stW (T' := T139) (g' := (mkF m 104 #[.val (.int g0), .val (.int g1), .val (.int g2), .val (.int g3), .val (.int ch), .val (.int tc), .val (.ref s1), .val (.ref tk), .val (.int (1 : Int32)), .val (.int pp), .unset, .unset, .unset] [])) (fun _ k => XS.icmpYes X139.here hx rfl (pc0 := 87) (pc' := 104) rfl (hb hby at_87) rfl (Jvm.Free.XT.ii_le_t qZ) (by decide) (by decide) k) ?_
                refine own_stW (T' := T139) (g' := (mkF m 105 #[.val (.int g0), .val (.int g1), .val (.int g2), .val (.int g3), .val (.int ch), .val (.int tc), .val (.ref s1), .val (.ref tk), .val (.int (1 : Int32)), .val (.int pp), .unset, .unset, .unset] [(.int (1 : Int32))])) (fun _ k => XS.iconst X139.here hx rfl (hb hby at_104) k) ?_
                refine own_stW (T' := T139) (g' := (mkF m 109 #[.val (.int g0), .val (.int g1), .val (.int g2), .val (.int g3), .val (.int ch), .val (.int tc), .val (.ref s1), .val (.ref tk), .val (.int (1 : Int32)), .val (.int pp), .unset, .unset, .unset] [(.int (1 : Int32))])) (fun _ k => XS.goto X139.here hx rfl (pc0 := 105) (pc' := 109) rfl (hb hby at_105) (by decide) (by decide) k) ?_
                exact J109 _ (Or.inl ⟨Or.inl ⟨qA, qZ⟩, rfl⟩)
          exact J76 _ (own_pp _).1 (own_pp _).2.1 (own_pp _).2.2
        by_cases qc : ch = (0 : Int32)
        · refine own_stW (T' := T139) (g' := (mkF m 57 #[.val (.int g0), .val (.int g1), .val (.int g2), .val (.int g3), .val (.int ch), .val (.int tc), .val (.ref s1), .val (.ref tk), .unset, .unset, .unset, .unset, .unset] [(.int r1)])) (fun _ k => XS.ifYes X139.here hx rfl (pc0 := 50) (pc' := 57) rfl (hb hby at_50) rfl (Jvm.Free.XT.i0_eq_t qc) (by decide) (by decide) k) ?_
          refine own_stW (T' := T139) (g' := (mkF m 58 #[.val (.int g0), .val (.int g1), .val (.int g2), .val (.int g3), .val (.int ch), .val (.int tc), .val (.ref s1), .val (.ref tk), .unset, .unset, .unset, .unset, .unset] [(.int (0 : Int32)), (.int r1)])) (fun _ k => XS.iconst X139.here hx rfl (hb hby at_57) k) ?_
          refine own_stW (T' := T139) (g' := (mkF m 61 #[.val (.int g0), .val (.int g1), .val (.int g2), .val (.int g3), .val (.int ch), .val (.int tc), .val (.ref s1), .val (.ref tk), .unset, .unset, .unset, .unset, .unset] [])) (fun _ k => XS.icmpNo X139.here hx rfl (hb hby at_58) rfl (Jvm.Free.XT.ii_ne_f (by rw [hr1, if_pos qc])) k) ?_
          refine own_stW (T' := T139) (g' := (mkF m 62 #[.val (.int g0), .val (.int g1), .val (.int g2), .val (.int g3), .val (.int ch), .val (.int tc), .val (.ref s1), .val (.ref tk), .unset, .unset, .unset, .unset, .unset] [(.int (1 : Int32))])) (fun _ k => XS.iconst X139.here hx rfl (hb hby at_61) k) ?_
          refine own_stW (T' := T139) (g' := (mkF m 66 #[.val (.int g0), .val (.int g1), .val (.int g2), .val (.int g3), .val (.int ch), .val (.int tc), .val (.ref s1), .val (.ref tk), .unset, .unset, .unset, .unset, .unset] [(.int (1 : Int32))])) (fun _ k => XS.goto X139.here hx rfl (pc0 := 62) (pc' := 66) rfl (hb hby at_62) (by decide) (by decide) k) ?_
          exact J66 trivial
        · refine own_stW (T' := T139) (g' := (mkF m 53 #[.val (.int g0), .val (.int g1), .val (.int g2), .val (.int g3), .val (.int ch), .val (.int tc), .val (.ref s1), .val (.ref tk), .unset, .unset, .unset, .unset, .unset] [(.int r1)])) (fun _ k => XS.ifNo X139.here hx rfl (hb hby at_50) rfl (Jvm.Free.XT.i0_eq_f qc) k) ?_
          refine own_stW (T' := T139) (g' := (mkF m 54 #[.val (.int g0), .val (.int g1), .val (.int g2), .val (.int g3), .val (.int ch), .val (.int tc), .val (.ref s1), .val (.ref tk), .unset, .unset, .unset, .unset, .unset] [(.int (1 : Int32)), (.int r1)])) (fun _ k => XS.iconst X139.here hx rfl (hb hby at_53) k) ?_
          refine own_stW (T' := T139) (g' := (mkF m 58 #[.val (.int g0), .val (.int g1), .val (.int g2), .val (.int g3), .val (.int ch), .val (.int tc), .val (.ref s1), .val (.ref tk), .unset, .unset, .unset, .unset, .unset] [(.int (1 : Int32)), (.int r1)])) (fun _ k => XS.goto X139.here hx rfl (pc0 := 54) (pc' := 58) rfl (hb hby at_54) (by decide) (by decide) k) ?_
          refine own_stW (T' := T139) (g' := (mkF m 61 #[.val (.int g0), .val (.int g1), .val (.int g2), .val (.int g3), .val (.int ch), .val (.int tc), .val (.ref s1), .val (.ref tk), .unset, .unset, .unset, .unset, .unset] [])) (fun _ k => XS.icmpNo X139.here hx rfl (hb hby at_58) rfl (Jvm.Free.XT.ii_ne_f (by rw [hr1, if_neg qc])) k) ?_
          refine own_stW (T' := T139) (g' := (mkF m 62 #[.val (.int g0), .val (.int g1), .val (.int g2), .val (.int g3), .val (.int ch), .val (.int tc), .val (.ref s1), .val (.ref tk), .unset, .unset, .unset, .unset, .unset] [(.int (1 : Int32))])) (fun _ k => XS.iconst X139.here hx rfl (hb hby at_61) k) ?_
          refine own_stW (T' := T139) (g' := (mkF m 66 #[.val (.int g0), .val (.int g1), .val (.int g2), .val (.int g3), .val (.int ch), .val (.int tc), .val (.ref s1), .val (.ref tk), .unset, .unset, .unset, .unset, .unset] [(.int (1 : Int32))])) (fun _ k => XS.goto X139.here hx rfl (pc0 := 62) (pc' := 66) rfl (hb hby at_62) (by decide) (by decide) k) ?_
          exact J66 trivial
      · refine own_stW (T' := s₁) (g' := (mkF m 18 #[.val (.int g0), .val (.int g1), .val (.int g2), .val (.int g3), .val (.int ch), .val (.int tc), .unset, .unset, .unset, .unset, .unset, .unset, .unset] [])) (fun _ k => XS.ifNo X0.here hx rfl (hb hby at_15) rfl (Jvm.Free.XT.i0_eq_f qf) k) ?_
        obtain ⟨s1, T146, h146, k146, X146, e146, E146, hS, hk146, hZ, hown, st146⟩ := ldcS (s := s) X0 hx hZ hown (hw _ (List.mem_of_getElem? (i := 0) rfl)) wS e0 hS hk0 (g := (mkF m 18 #[.val (.int g0), .val (.int g1), .val (.int g2), .val (.int g3), .val (.int ch), .val (.int tc), .unset, .unset, .unset, .unset, .unset, .unset, .unset] [])) rfl (hb hby at_18) (n := 0) (by decide) (by decide) (by decide) (by decide)
        have O := O.ext E146
        have Z0' := Nat.le_trans Z0 E146.1
        refine own_stW (T' := T146) (g' := (mkF m 20 #[.val (.int g0), .val (.int g1), .val (.int g2), .val (.int g3), .val (.int ch), .val (.int tc), .unset, .unset, .unset, .unset, .unset, .unset, .unset] [(.ref s1)])) st146 ?_
        refine own_stW (T' := T146) (g' := (mkF m 28 #[.val (.int g0), .val (.int g1), .val (.int g2), .val (.int g3), .val (.int ch), .val (.int tc), .unset, .unset, .unset, .unset, .unset, .unset, .unset] [(.ref s1)])) (fun _ k => XS.goto X146.here hx rfl (pc0 := 20) (pc' := 28) rfl (hb hby at_20) (by decide) (by decide) k) ?_
        refine own_stW (T' := T146) (g' := (mkF m 30 #[.val (.int g0), .val (.int g1), .val (.int g2), .val (.int g3), .val (.int ch), .val (.int tc), .val (.ref s1), .unset, .unset, .unset, .unset, .unset, .unset] [])) (fun _ k => XS.astore X146.here hx rfl (hb hby at_28) rfl rfl (l' := #[.val (.int g0), .val (.int g1), .val (.int g2), .val (.int g3), .val (.int ch), .val (.int tc), .val (.ref s1), .unset, .unset, .unset, .unset, .unset, .unset]) rfl k) ?_
        obtain ⟨T147, h147, X147, e147, E147, A147, D147, -, st147⟩ := newO X146 hx hZ hown (hw _ (List.mem_of_getElem? (i := 8) rfl)) (hw _ (List.mem_of_getElem? (i := 9) rfl)) (hw _ (List.mem_of_getElem? (i := 10) rfl)) e146 (g := (mkF m 30 #[.val (.int g0), .val (.int g1), .val (.int g2), .val (.int g3), .val (.int ch), .val (.int tc), .val (.ref s1), .unset, .unset, .unset, .unset, .unset, .unset] [])) rfl (hb hby at_30) (by decide) (by decide)
        obtain ⟨tk, gtk⟩ : ∃ z, z = h146.size := ⟨_, rfl⟩
        rw [← gtk] at A147 D147 st147
        have ge_tk : n0 ≤ tk := own_ge Z0' gtk
        have O := O.ext E147
        have Z0'' := Nat.le_trans Z0' E147.1
        have hk146 := Nat.le_trans hk146 E147.1
        have E_tk := A147
        have F_letter_tk : Fld Z h147 tk "com/example/idiolect/idiolect/internal/datetime/DateTimePatterns$Token" "letter" "C" (.int (0 : Int32)) := D147 (Or.inr (hw _ (List.mem_of_getElem? (i := 23) rfl))) (ty := .char) (by decide)
        have F_text_tk : Fld Z h147 tk "com/example/idiolect/idiolect/internal/datetime/DateTimePatterns$Token" "text" "Ljava/lang/String;" .null := D147 (Or.inr (hw _ (List.mem_of_getElem? (i := 25) rfl))) (ty := (.object "java/lang/String")) (by decide)
        refine own_stW (T' := T147) (g' := (mkF m 33 #[.val (.int g0), .val (.int g1), .val (.int g2), .val (.int g3), .val (.int ch), .val (.int tc), .val (.ref s1), .unset, .unset, .unset, .unset, .unset, .unset] [(.ref tk)])) st147 ?_
        refine own_stW (T' := T147) (g' := (mkF m 34 #[.val (.int g0), .val (.int g1), .val (.int g2), .val (.int g3), .val (.int ch), .val (.int tc), .val (.ref s1), .unset, .unset, .unset, .unset, .unset, .unset] [(.ref tk), (.ref tk)])) (fun _ k => XS.dup X147.here hx rfl (hb hby at_33) rfl rfl k) ?_
        refine own_stW (T' := T147) (g' := (mkF m 36 #[.val (.int g0), .val (.int g1), .val (.int g2), .val (.int g3), .val (.int ch), .val (.int tc), .val (.ref s1), .unset, .unset, .unset, .unset, .unset, .unset] [(.int ch), (.ref tk), (.ref tk)])) (fun _ k => XS.iload X147.here hx rfl (hb hby at_34) rfl k) ?_
        refine own_stW (T' := T147) (g' := (mkF m 38 #[.val (.int g0), .val (.int g1), .val (.int g2), .val (.int g3), .val (.int ch), .val (.int tc), .val (.ref s1), .unset, .unset, .unset, .unset, .unset, .unset] [(.ref s1), (.int ch), (.ref tk), (.ref tk)])) (fun _ k => XS.aload X147.here hx rfl (hb hby at_36) rfl rfl k) ?_
        obtain ⟨vq148, _, ⟨T148, L148, k148, n148⟩, -, X148, ⟨Lc148, hQ148, l148, y148, z148⟩, st148⟩ := X147.specialBack hx (y := (⟨"com/example/idiolect/idiolect/internal/datetime/DateTimePatterns$Token", "<init>", "(CLjava/lang/String;)V"⟩ : MethodName)) rfl hown (mvT hZ (hw _ (List.mem_of_getElem? (i := 11) rfl))) (mvT hZ (hw _ (List.mem_of_getElem? (i := 12) rfl))) (mvT hZ (hw _ (List.mem_of_getElem? (i := 13) rfl))) (by decide) (backOf (W := 1) (own_ti l Z a0 hw [] tk ch (.ref s1) h147 n0 Z0'' rfl F_letter_tk F_text_tk E_tk ge_tk) hZ (hw _ (List.mem_of_getElem? (i := 13) rfl)) (hw _ (List.mem_of_getElem? (i := 10) rfl)) (by decide) (by decide)) (g := (mkF m 38 #[.val (.int g0), .val (.int g1), .val (.int g2), .val (.int g3), .val (.int ch), .val (.int tc), .val (.ref s1), .unset, .unset, .unset, .unset, .unset, .unset] [(.ref s1), (.int ch), (.ref tk), (.ref tk)])) rfl (by rw [hml]; rfl) (Steps.refl _) (a := tk) (argsL := [(.int ch), (.ref s1)]) (rest := [(.ref tk)]) (lenOf own_pd16 rfl) rfl (by show 2 * 0 + _ ≤ _; exact Nat.le_of_eq rfl) (hb hby at_38) (fun _ _ => ⟨rfl, e147, (by decide : ((0 + 2) + 1) + 0 ≤ _), (by decide : ((0 + 4) + 2) + 0 ≤ _)⟩)
        dsimp only [Pt.U, Pt.locs, Pt.cells, Pt.slots] at X148 l148 y148 z148 st148 hQ148
        subst l148 y148 z148
        obtain ⟨rfl, N148q, K148, -, Fl_tk⟩ := hQ148
        have N0' := Fr.app N0 N148q
        have O := O.keep K148 ((allS ge_tk all0))
        have E_tk := E_tk.keep K148
        have Z0''' := Nat.le_trans Z0'' K148.1
        have hk146 := Nat.le_trans hk146 K148.1
        refine own_trW (T' := T148) (g' := (mkF m 41 #[.val (.int g0), .val (.int g1), .val (.int g2), .val (.int g3), .val (.int ch), .val (.int tc), .val (.ref s1), .unset, .unset, .unset, .unset, .unset, .unset] [(.ref tk)])) st148 ?_
        rw [hchn] at Fl_tk
        refine own_stW (T' := T148) (g' := (mkF m 43 #[.val (.int g0), .val (.int g1), .val (.int g2), .val (.int g3), .val (.int ch), .val (.int tc), .val (.ref s1), .val (.ref tk), .unset, .unset, .unset, .unset, .unset] [])) (fun _ k => XS.astore X148.here hx rfl (hb hby at_41) rfl rfl (l' := #[.val (.int g0), .val (.int g1), .val (.int g2), .val (.int g3), .val (.int ch), .val (.int tc), .val (.ref s1), .val (.ref tk), .unset, .unset, .unset, .unset, .unset]) rfl k) ?_
        refine own_stW (T' := T148) (g' := (mkF m 45 #[.val (.int g0), .val (.int g1), .val (.int g2), .val (.int g3), .val (.int ch), .val (.int tc), .val (.ref s1), .val (.ref tk), .unset, .unset, .unset, .unset, .unset] [(.ref tk)])) (fun _ k => XS.aload X148.here hx rfl (hb hby at_43) rfl rfl k) ?_
        obtain ⟨cq149, kq149, q149a, q149b, q149c⟩ := isOf hZ rfl E_tk
        obtain ⟨vq149, _, ⟨T149, L149, k149, n149⟩, -, X149, ⟨Lc149, hQ149, l149, y149, z149⟩, st149⟩ := X148.virtualBack hx (y := (⟨"com/example/idiolect/idiolect/internal/datetime/DateTimePatterns$Token", "isField", "()Z"⟩ : MethodName)) (z := (⟨"com/example/idiolect/idiolect/internal/datetime/DateTimePatterns$Token", "isField", "()Z"⟩ : MethodName)) hown (mvT hZ (hw _ (List.mem_of_getElem? (i := 26) rfl))) (mvT hZ (hw _ (List.mem_of_getElem? (i := 27) rfl))) (notFace_of_selects (args := #[]) (mvT hZ (hw _ (List.mem_of_getElem? (i := 29) rfl)))) (mvT hZ (hw _ (List.mem_of_getElem? (i := 29) rfl))) (mvT hZ (hw _ (List.mem_of_getElem? (i := 28) rfl))) (by decide) (backOf (W := 0) (own_isf l Z a0 hw [] tk ch T148.heap n0 Z0''' Fl_tk) hZ (hw _ (List.mem_of_getElem? (i := 30) rfl)) (hw _ (List.mem_of_getElem? (i := 10) rfl)) (by decide) (by decide)) q149a q149c (g := (mkF m 45 #[.val (.int g0), .val (.int g1), .val (.int g2), .val (.int g3), .val (.int ch), .val (.int tc), .val (.ref s1), .val (.ref tk), .unset, .unset, .unset, .unset, .unset] [(.ref tk)])) rfl (by rw [hml]; rfl) (Steps.refl _) (argsL := []) (rest := []) (lenOf own_pd11 rfl) rfl (by show 2 * 0 + _ ≤ _; exact Nat.le_of_eq rfl) (hb hby at_45) (fun _ _ => ⟨rfl, rfl, (by decide : (((0 + 2) + 1) + 0) + 0 ≤ _), (by decide : (((0 + 4) + 2) + 0) + 0 ≤ _)⟩)
        dsimp only [Pt.U, Pt.locs, Pt.cells, Pt.slots] at X149 l149 y149 z149 st149 hQ149
        subst l149 y149 z149
        obtain ⟨hv, N149q, e149⟩ := hQ149
        obtain ⟨r1, hr1⟩ : ∃ r : Int32, r = (if ch = 0 then 0 else 1) := ⟨_, rfl⟩
        rw [← hr1] at hv
        subst hv
        have N0'' := Fr.app N0' N149q
        refine own_trW (T' := T149) (g' := (mkF m 48 #[.val (.int g0), .val (.int g1), .val (.int g2), .val (.int g3), .val (.int ch), .val (.int tc), .val (.ref s1), .val (.ref tk), .unset, .unset, .unset, .unset, .unset] [(.int r1)])) st149 ?_
        refine own_stW (T' := T149) (g' := (mkF m 50 #[.val (.int g0), .val (.int g1), .val (.int g2), .val (.int g3), .val (.int ch), .val (.int tc), .val (.ref s1), .val (.ref tk), .unset, .unset, .unset, .unset, .unset] [(.int ch), (.int r1)])) (fun _ k => XS.iload X149.here hx rfl (hb hby at_48) rfl k) ?_
        have J66 : ∀ (u0 : True), own_GoW p e below s (own_law_Q Z g0 g1 g2 g3 cc fm aD kD fD h0 n0) 40 1216 T149 (mkF m 66 #[.val (.int g0), .val (.int g1), .val (.int g2), .val (.int g3), .val (.int ch), .val (.int tc), .val (.ref s1), .val (.ref tk), .unset, .unset, .unset, .unset, .unset] [(.int (1 : Int32))]) := by
          intro u0
          refine own_stW (T' := T149) (g' := (mkF m 68 #[.val (.int g0), .val (.int g1), .val (.int g2), .val (.int g3), .val (.int ch), .val (.int tc), .val (.ref s1), .val (.ref tk), .val (.int (1 : Int32)), .unset, .unset, .unset, .unset] [])) (fun _ k => XS.istore X149.here hx rfl (hb hby at_66) rfl (l' := #[.val (.int g0), .val (.int g1), .val (.int g2), .val (.int g3), .val (.int ch), .val (.int tc), .val (.ref s1), .val (.ref tk), .val (.int (1 : Int32)), .unset, .unset, .unset, .unset]) rfl k) ?_
          refine own_stW (T' := T149) (g' := (mkF m 69 #[.val (.int g0), .val (.int g1), .val (.int g2), .val (.int g3), .val (.int ch), .val (.int tc), .val (.ref s1), .val (.ref tk), .val (.int (1 : Int32)), .unset, .unset, .unset, .unset] [(.int g2)])) (fun _ k => XS.iloadN X149.here hx rfl (hb hby at_68) rfl k) ?_
          refine own_stW (T' := T149) (g' := (mkF m 72 #[.val (.int g0), .val (.int g1), .val (.int g2), .val (.int g3), .val (.int ch), .val (.int tc), .val (.ref s1), .val (.ref tk), .val (.int (1 : Int32)), .unset, .unset, .unset, .unset] [(.int (255 : Int32)), (.int g2)])) (fun _ k => XS.sipush X149.here hx rfl (hb hby at_69) k) ?_
          refine own_stW (T' := T149) (g' := (mkF m 73 #[.val (.int g0), .val (.int g1), .val (.int g2), .val (.int g3), .val (.int ch), .val (.int tc), .val (.ref s1), .val (.ref tk), .val (.int (1 : Int32)), .unset, .unset, .unset, .unset] [(.int (g2 &&& (255 : Int32)))])) (fun _ k => XS.iand X149.here hx rfl (hb hby at_72) rfl k) ?_
          refine own_stW (T' := T149) (g' := (mkF m 74 #[.val (.int g0), .val (.int g1), .val (.int g2), .val (.int g3), .val (.int ch), .val (.int tc), .val (.ref s1), .val (.ref tk), .val (.int (1 : Int32)), .unset, .unset, .unset, .unset] [(.int ((g2 &&& (255 : Int32)).toUInt32.toUInt16.toUInt32.toInt32))])) (fun _ k => XS.i2c X149.here hx rfl (hb hby at_73) rfl k) ?_
          refine own_stW (T' := T149) (g' := (mkF m 76 #[.val (.int g0), .val (.int g1), .val (.int g2), .val (.int g3), .val (.int ch), .val (.int tc), .val (.ref s1), .val (.ref tk), .val (.int (1 : Int32)), .val (.int ((g2 &&& (255 : Int32)).toUInt32.toUInt16.toUInt32.toInt32)), .unset, .unset, .unset] [])) (fun _ k => XS.istore X149.here hx rfl (hb hby at_74) rfl (l' := #[.val (.int g0), .val (.int g1), .val (.int g2), .val (.int g3), .val (.int ch), .val (.int tc), .val (.ref s1), .val (.ref tk), .val (.int (1 : Int32)), .val (.int ((g2 &&& (255 : Int32)).toUInt32.toUInt16.toUInt32.toInt32)), .unset, .unset, .unset]) rfl k) ?_
          have J76 : ∀ (pp : Int32) (hp1 : ¬ pp < 0 ∧ ¬ (255 : Int32) < pp) (hp2 : nar .char pp = pp) (hp3 : nar .char (pp.toInt8.toInt32 &&& (255 : Int32)).toUInt32.toUInt16.toUInt32.toInt32 = pp), own_GoW p e below s (own_law_Q Z g0 g1 g2 g3 cc fm aD kD fD h0 n0) 40 1216 T149 (mkF m 76 #[.val (.int g0), .val (.int g1), .val (.int g2), .val (.int g3), .val (.int ch), .val (.int tc), .val (.ref s1), .val (.ref tk), .val (.int (1 : Int32)), .val (.int pp), .unset, .unset, .unset] []) := by
            intro pp hp1 hp2 hp3
            refine own_stW (T' := T149) (g' := (mkF m 78 #[.val (.int g0), .val (.int g1), .val (.int g2), .val (.int g3), .val (.int ch), .val (.int tc), .val (.ref s1), .val (.ref tk), .val (.int (1 : Int32)), .val (.int pp), .unset, .unset, .unset] [(.int pp)])) (fun _ k => XS.iload X149.here hx rfl (hb hby at_76) rfl k) ?_
            refine own_stW (T' := T149) (g' := (mkF m 80 #[.val (.int g0), .val (.int g1), .val (.int g2), .val (.int g3), .val (.int ch), .val (.int tc), .val (.ref s1), .val (.ref tk), .val (.int (1 : Int32)), .val (.int pp), .unset, .unset, .unset] [(.int (65 : Int32)), (.int pp)])) (fun _ k => XS.bipush X149.here hx rfl (hb hby at_78) k) ?_
            have J109 : ∀ (al : Int32) (hal : (own_isL pp ∧ al = 1) ∨ (¬ own_isL pp ∧ al = 0)), own_GoW p e below s (own_law_Q Z g0 g1 g2 g3 cc fm aD kD fD h0 n0) 40 1216 T149 (mkF m 109 #[.val (.int g0), .val (.int g1), .val (.int g2), .val (.int g3), .val (.int ch), .val (.int tc), .val (.ref s1), .val (.ref tk), .val (.int (1 : Int32)), .val (.int pp), .unset, .unset, .unset] [(.int al)]) := by
              intro al hal
              refine own_stW (T' := T149) (g' := (mkF m 111 #[.val (.int g0), .val (.int g1), .val (.int g2), .val (.int g3), .val (.int ch), .val (.int tc), .val (.ref s1), .val (.ref tk), .val (.int (1 : Int32)), .val (.int pp), .val (.int al), .unset, .unset] [])) (fun _ k => XS.istore X149.here hx rfl (hb hby at_109) rfl (l' := #[.val (.int g0), .val (.int g1), .val (.int g2), .val (.int g3), .val (.int ch), .val (.int tc), .val (.ref s1), .val (.ref tk), .val (.int (1 : Int32)), .val (.int pp), .val (.int al), .unset, .unset]) rfl k) ?_
              refine own_stW (T' := T149) (g' := (mkF m 113 #[.val (.int g0), .val (.int g1), .val (.int g2), .val (.int g3), .val (.int ch), .val (.int tc), .val (.ref s1), .val (.ref tk), .val (.int (1 : Int32)), .val (.int pp), .val (.int al), .unset, .unset] [(.int pp)])) (fun _ k => XS.iload X149.here hx rfl (hb hby at_111) rfl k) ?_
              have lt_tk := E_tk.lt
              obtain ⟨vq150, _, ⟨T150, L150, k150, n150⟩, -, X150, ⟨Lc150, hQ150, l150, y150, z150⟩, st150⟩ := Jvm.LawKit.callS X149 hx (y := (⟨"java/lang/String", "valueOf", "(C)Ljava/lang/String;"⟩ : MethodName)) hown (mvT hZ (hw _ (List.mem_of_getElem? (i := 31) rfl))) (mvT hZ (hw _ (List.mem_of_getElem? (i := 32) rfl))) (mvT hZ (hw _ (List.mem_of_getElem? (i := 1) rfl))) (mvT hZ (hw _ (List.mem_of_getElem? (i := 33) rfl))) (by decide) (backOf (W := 0) (own_valueOf l Z a0 hw [] pp cc T148.heap n0 Z0''' hp1.2 (SC0.ext O.2) hcs) hZ (hw _ (List.mem_of_getElem? (i := 33) rfl)) (hw _ (List.mem_of_getElem? (i := 1) rfl)) (by decide) (by decide)) (g := (mkF m 113 #[.val (.int g0), .val (.int g1), .val (.int g2), .val (.int g3), .val (.int ch), .val (.int tc), .val (.ref s1), .val (.ref tk), .val (.int (1 : Int32)), .val (.int pp), .val (.int al), .unset, .unset] [(.int pp)])) rfl (by rw [hml]; rfl) (argsL := [(.int pp)]) (rest := []) (lenOf own_pd31 rfl) rfl (by show 2 * 0 + _ ≤ _; exact Nat.le_of_eq rfl) (hb hby at_113) (fun _ _ => ⟨rfl, e149, (by decide : ((((0 + 2) + 1) + 0) + 0) + 2 ≤ _), (by decide : ((((0 + 4) + 2) + 0) + 0) + 5 ≤ _)⟩)
              dsimp only [Pt.U, Pt.locs, Pt.cells, Pt.slots] at X150 l150 y150 z150 st150 hQ150
              subst l150 y150 z150
              obtain ⟨s2, t2, kt2, rfl, N150q, K150, gs2, gt2, Es, Fvs, Fcs, Vs⟩ := hQ150
              have N0''' := Fr.app N0'' N150q
              have ne_tk_s2 : tk ≠ s2 := own_ne2 lt_tk gs2
              have ge_s2 : n0 ≤ s2 := Nat.le_trans Z0''' gs2
              have ne_tk_t2 : tk ≠ t2 := own_ne2 lt_tk gt2
              have ge_t2 : n0 ≤ t2 := Nat.le_trans Z0''' gt2
              have O := O.keep K150 (all0)
              have E_tk := E_tk.keep K150
              have Fl_tk := Fl_tk.keep K150 nin0
              have Z0'''' := Nat.le_trans Z0''' K150.1
              have hk146 := Nat.le_trans hk146 K150.1
              refine own_stW (T' := T150) (g' := (mkF m 116 #[.val (.int g0), .val (.int g1), .val (.int g2), .val (.int g3), .val (.int ch), .val (.int tc), .val (.ref s1), .val (.ref tk), .val (.int (1 : Int32)), .val (.int pp), .val (.int al), .unset, .unset] [(.ref s2)])) st150 ?_
              obtain ⟨vq151, _, ⟨T151, L151, k151, n151⟩, -, X151, ⟨Lc151, hQ151, l151, y151, z151⟩, st151⟩ := Jvm.LawKit.callS X150 hx (y := (⟨"com/example/idiolect/idiolect/internal/datetime/DateTimePatterns", "tokens", "(Ljava/lang/String;)Ljava/util/List;"⟩ : MethodName)) hown (mvT hZ (hw _ (List.mem_of_getElem? (i := 50) rfl))) (mvT hZ (hw _ (List.mem_of_getElem? (i := 51) rfl))) (mvT hZ (hw _ (List.mem_of_getElem? (i := 52) rfl))) (mvT hZ (hw _ (List.mem_of_getElem? (i := 53) rfl))) (by decide) (backOf (W := 0) (own_tkn l Z a0 hw [] s2 t2 kt2 _ pp cc fm aD kD fD T150.heap n0 Z0'''' Es Fvs Fcs Vs O SC0 hcs SF0 hfm SD0 VD0 hn0 hp1.2 hp3 hp2) hZ (hw _ (List.mem_of_getElem? (i := 53) rfl)) (hw _ (List.mem_of_getElem? (i := 52) rfl)) (by decide) (by decide)) (g := (mkF m 116 #[.val (.int g0), .val (.int g1), .val (.int g2), .val (.int g3), .val (.int ch), .val (.int tc), .val (.ref s1), .val (.ref tk), .val (.int (1 : Int32)), .val (.int pp), .val (.int al), .unset, .unset] [(.ref s2)])) rfl (by rw [hml]; rfl) (argsL := [(.ref s2)]) (rest := []) (lenOf own_pd32 rfl) rfl (by show 2 * 0 + _ ≤ _; exact Nat.le_of_eq rfl) (hb hby at_116) (fun _ _ => ⟨rfl, rfl, (by decide : (((((0 + 2) + 1) + 0) + 0) + 2) + 14 ≤ _), (by decide : (((((0 + 4) + 2) + 0) + 0) + 5) + 80 ≤ _)⟩)
              dsimp only [Pt.U, Pt.locs, Pt.cells, Pt.slots] at X151 l151 y151 z151 st151 hQ151
              subst l151 y151 z151
              obtain ⟨la, ta, ka, x, lw, rfl, N151q, K151, El, Fe, Fs, Va, Ex, Fx, hlw⟩ := hQ151
              have N0'''' := Fr.app N0''' N151q
              have O := O.keep K151 (all0)
              have E_tk := E_tk.keep K151
              have Fl_tk := Fl_tk.keep K151 nin0
              have Z0''''' := Nat.le_trans Z0'''' K151.1
              have hk146 := Nat.le_trans hk146 K151.1
              refine own_stW (T' := T151) (g' := (mkF m 119 #[.val (.int g0), .val (.int g1), .val (.int g2), .val (.int g3), .val (.int ch), .val (.int tc), .val (.ref s1), .val (.ref tk), .val (.int (1 : Int32)), .val (.int pp), .val (.int al), .unset, .unset] [(.ref la)])) st151 ?_
              refine own_stW (T' := T151) (g' := (mkF m 121 #[.val (.int g0), .val (.int g1), .val (.int g2), .val (.int g3), .val (.int ch), .val (.int tc), .val (.ref s1), .val (.ref tk), .val (.int (1 : Int32)), .val (.int pp), .val (.int al), .val (.ref la), .unset] [])) (fun _ k => XS.astore X151.here hx rfl (hb hby at_119) rfl rfl (l' := #[.val (.int g0), .val (.int g1), .val (.int g2), .val (.int g3), .val (.int ch), .val (.int tc), .val (.ref s1), .val (.ref tk), .val (.int (1 : Int32)), .val (.int pp), .val (.int al), .val (.ref la), .unset]) rfl k) ?_
              refine own_stW (T' := T151) (g' := (mkF m 123 #[.val (.int g0), .val (.int g1), .val (.int g2), .val (.int g3), .val (.int ch), .val (.int tc), .val (.ref s1), .val (.ref tk), .val (.int (1 : Int32)), .val (.int pp), .val (.int al), .val (.ref la), .unset] [(.ref la)])) (fun _ k => XS.aload X151.here hx rfl (hb hby at_121) rfl rfl k) ?_
              obtain ⟨cq152, kq152, q152a, q152b, q152c⟩ := isOf hZ rfl El
              obtain ⟨vq152, _, ⟨T152, L152, k152, n152⟩, -, X152, ⟨Lc152, hQ152, l152, y152, z152⟩, st152⟩ := X151.interfaceBack hx (xi := (⟨"java/util/List", "size", "()I"⟩ : MethodName)) (y := (⟨"java/util/ArrayList", "size", "()I"⟩ : MethodName)) hown (mvT hZ (hw _ (List.mem_of_getElem? (i := 250) rfl))) (mvT hZ (hw _ (List.mem_of_getElem? (i := 251) rfl))) (mvT hZ (hw _ (List.mem_of_getElem? (i := 252) rfl))) (mvT hZ (hw _ (List.mem_of_getElem? (i := 253) rfl))) (mvT hZ (hw _ (List.mem_of_getElem? (i := 254) rfl))) (mvT hZ (hw _ (List.mem_of_getElem? (i := 255) rfl))) (mvT hZ (hw _ (List.mem_of_getElem? (i := 256) rfl))) (mvT hZ (hw _ (List.mem_of_getElem? (i := 212) rfl))) (by decide) (backOf (W := 0) (own_sz l Z a0 hw [] la T151.heap n0 Z0''''' Fs) hZ (hw _ (List.mem_of_getElem? (i := 257) rfl)) (hw _ (List.mem_of_getElem? (i := 56) rfl)) (by decide) (by decide)) q152a q152b q152c (g := (mkF m 123 #[.val (.int g0), .val (.int g1), .val (.int g2), .val (.int g3), .val (.int ch), .val (.int tc), .val (.ref s1), .val (.ref tk), .val (.int (1 : Int32)), .val (.int pp), .val (.int al), .val (.ref la), .unset] [(.ref la)])) rfl (by rw [hml]; rfl) (Steps.refl _) (argsL := []) (rest := []) (lenOf own_pd14 rfl) rfl (by show 2 * 0 + _ ≤ _; exact Nat.le_of_eq rfl) (hb hby at_123) (fun _ _ => ⟨rfl, rfl, (by decide : ((((((0 + 2) + 1) + 0) + 0) + 2) + 14) + 0 ≤ _), (by decide : ((((((0 + 4) + 2) + 0) + 0) + 5) + 80) + 0 ≤ _)⟩)
              dsimp only [Pt.U, Pt.locs, Pt.cells, Pt.slots] at X152 l152 y152 z152 st152 hQ152
              subst l152 y152 z152
              obtain ⟨rfl, N152q, e152⟩ := hQ152
              have N0''''' := Fr.app N0'''' N152q
              refine own_trW (T' := T152) (g' := (mkF m 128 #[.val (.int g0), .val (.int g1), .val (.int g2), .val (.int g3), .val (.int ch), .val (.int tc), .val (.ref s1), .val (.ref tk), .val (.int (1 : Int32)), .val (.int pp), .val (.int al), .val (.ref la), .unset] [(.int (1 : Int32))])) st152 ?_
              refine own_stW (T' := T152) (g' := (mkF m 129 #[.val (.int g0), .val (.int g1), .val (.int g2), .val (.int g3), .val (.int ch), .val (.int tc), .val (.ref s1), .val (.ref tk), .val (.int (1 : Int32)), .val (.int pp), .val (.int al), .val (.ref la), .unset] [(.int (1 : Int32)), (.int (1 : Int32))])) (fun _ k => XS.iconst X152.here hx rfl (hb hby at_128) k) ?_
              refine own_stW (T' := T152) (g' := (mkF m 132 #[.val (.int g0), .val (.int g1), .val (.int g2), .val (.int g3), .val (.int ch), .val (.int tc), .val (.ref s1), .val (.ref tk), .val (.int (1 : Int32)), .val (.int pp), .val (.int al), .val (.ref la), .unset] [])) (fun _ k => XS.icmpNo X152.here hx rfl (hb hby at_129) rfl (Jvm.Free.XT.ii_ne_f rfl) k) ?_
              refine own_stW (T' := T152) (g' := (mkF m 134 #[.val (.int g0), .val (.int g1), .val (.int g2), .val (.int g3), .val (.int ch), .val (.int tc), .val (.ref s1), .val (.ref tk), .val (.int (1 : Int32)), .val (.int pp), .val (.int al), .val (.ref la), .unset] [(.ref la)])) (fun _ k => XS.aload X152.here hx rfl (hb hby at_132) rfl rfl k) ?_
              refine own_stW (T' := T152) (g' := (mkF m 135 #[.val (.int g0), .val (.int g1), .val (.int g2), .val (.int g3), .val (.int ch), .val (.int tc), .val (.ref s1), .val (.ref tk), .val (.int (1 : Int32)), .val (.int pp), .val (.int al), .val (.ref la), .unset] [(.int (0 : Int32)), (.ref la)])) (fun _ k => XS.iconst X152.here hx rfl (hb hby at_134) k) ?_
              obtain ⟨cq153, kq153, q153a, q153b, q153c⟩ := isOf hZ e152 El
              obtain ⟨vq153, _, ⟨T153, L153, k153, n153⟩, -, X153, ⟨Lc153, hQ153, l153, y153, z153⟩, st153⟩ := X152.interfaceBack hx (xi := (⟨"java/util/List", "get", "(I)Ljava/lang/Object;"⟩ : MethodName)) (y := (⟨"java/util/ArrayList", "get", "(I)Ljava/lang/Object;"⟩ : MethodName)) hown (mvT hZ (hw _ (List.mem_of_getElem? (i := 258) rfl))) (mvT hZ (hw _ (List.mem_of_getElem? (i := 259) rfl))) (mvT hZ (hw _ (List.mem_of_getElem? (i := 260) rfl))) (mvT hZ (hw _ (List.mem_of_getElem? (i := 261) rfl))) (mvT hZ (hw _ (List.mem_of_getElem? (i := 262) rfl))) (mvT hZ (hw _ (List.mem_of_getElem? (i := 263) rfl))) (mvT hZ (hw _ (List.mem_of_getElem? (i := 264) rfl))) (mvT hZ (hw _ (List.mem_of_getElem? (i := 212) rfl))) (by decide) (backOf (W := 0) (own_get l Z a0 hw [] la ta ka x T151.heap n0 Z0''''' Fe Va Fs El) hZ (hw _ (List.mem_of_getElem? (i := 265) rfl)) (hw _ (List.mem_of_getElem? (i := 56) rfl)) (by decide) (by decide)) q153a q153b q153c (g := (mkF m 135 #[.val (.int g0), .val (.int g1), .val (.int g2), .val (.int g3), .val (.int ch), .val (.int tc), .val (.ref s1), .val (.ref tk), .val (.int (1 : Int32)), .val (.int pp), .val (.int al), .val (.ref la), .unset] [(.int (0 : Int32)), (.ref la)])) rfl (by rw [hml]; rfl) (Steps.refl _) (argsL := [(.int (0 : Int32))]) (rest := []) (lenOf own_pd18 rfl) rfl (by show 2 * 0 + _ ≤ _; exact Nat.le_of_eq rfl) (hb hby at_135) (fun _ _ => ⟨rfl, e152, (by decide : (((((((0 + 2) + 1) + 0) + 0) + 2) + 14) + 0) + 0 ≤ _), (by decide : (((((((0 + 4) + 2) + 0) + 0) + 5) + 80) + 0) + 0 ≤ _)⟩)
              dsimp only [Pt.U, Pt.locs, Pt.cells, Pt.slots] at X153 l153 y153 z153 st153 hQ153
              subst l153 y153 z153
              obtain ⟨rfl, N153q, e153⟩ := hQ153
              have N0'''''' := Fr.app N0''''' N153q
              refine own_trW (T' := T153) (g' := (mkF m 140 #[.val (.int g0), .val (.int g1), .val (.int g2), .val (.int g3), .val (.int ch), .val (.int tc), .val (.ref s1), .val (.ref tk), .val (.int (1 : Int32)), .val (.int pp), .val (.int al), .val (.ref la), .unset] [(.ref x)])) st153 ?_
              obtain ⟨T154, X154, e154, st154⟩ := castY X153 hx hZ hown (hw _ (List.mem_of_getElem? (i := 8) rfl)) e153 (Ins.self Ex) (g := (mkF m 140 #[.val (.int g0), .val (.int g1), .val (.int g2), .val (.int g3), .val (.int ch), .val (.int tc), .val (.ref s1), .val (.ref tk), .val (.int (1 : Int32)), .val (.int pp), .val (.int al), .val (.ref la), .unset] [(.ref x)])) rfl rfl (hb hby at_140)
              refine own_stW (T' := T154) (g' := (mkF m 143 #[.val (.int g0), .val (.int g1), .val (.int g2), .val (.int g3), .val (.int ch), .val (.int tc), .val (.ref s1), .val (.ref tk), .val (.int (1 : Int32)), .val (.int pp), .val (.int al), .val (.ref la), .unset] [(.ref x)])) st154 ?_
              obtain ⟨cq155, kq155, q155a, q155b, q155c⟩ := isOf hZ e154 Ex
              obtain ⟨vq155, _, ⟨T155, L155, k155, n155⟩, -, X155, ⟨Lc155, hQ155, l155, y155, z155⟩, st155⟩ := X154.virtualBack hx (y := (⟨"com/example/idiolect/idiolect/internal/datetime/DateTimePatterns$Token", "isField", "()Z"⟩ : MethodName)) (z := (⟨"com/example/idiolect/idiolect/internal/datetime/DateTimePatterns$Token", "isField", "()Z"⟩ : MethodName)) hown (mvT hZ (hw _ (List.mem_of_getElem? (i := 26) rfl))) (mvT hZ (hw _ (List.mem_of_getElem? (i := 27) rfl))) (notFace_of_selects (args := #[]) (mvT hZ (hw _ (List.mem_of_getElem? (i := 29) rfl)))) (mvT hZ (hw _ (List.mem_of_getElem? (i := 29) rfl))) (mvT hZ (hw _ (List.mem_of_getElem? (i := 28) rfl))) (by decide) (backOf (W := 0) (own_isf l Z a0 hw [] x lw T151.heap n0 Z0''''' Fx) hZ (hw _ (List.mem_of_getElem? (i := 30) rfl)) (hw _ (List.mem_of_getElem? (i := 10) rfl)) (by decide) (by decide)) q155a q155c (g := (mkF m 143 #[.val (.int g0), .val (.int g1), .val (.int g2), .val (.int g3), .val (.int ch), .val (.int tc), .val (.ref s1), .val (.ref tk), .val (.int (1 : Int32)), .val (.int pp), .val (.int al), .val (.ref la), .unset] [(.ref x)])) rfl (by rw [hml]; rfl) (Steps.refl _) (argsL := []) (rest := []) (lenOf own_pd11 rfl) rfl (by show 2 * 0 + _ ≤ _; exact Nat.le_of_eq rfl) (hb hby at_143) (fun _ _ => ⟨rfl, e154, (by decide : ((((((((0 + 2) + 1) + 0) + 0) + 2) + 14) + 0) + 0) + 0 ≤ _), (by decide : ((((((((0 + 4) + 2) + 0) + 0) + 5) + 80) + 0) + 0) + 0 ≤ _)⟩)
              dsimp only [Pt.U, Pt.locs, Pt.cells, Pt.slots] at X155 l155 y155 z155 st155 hQ155
              subst l155 y155 z155
              obtain ⟨hv, N155q, e155⟩ := hQ155
              rw [show (if lw = 0 then (0 : Int32) else 1) = al from by rcases hlw with ⟨u1, u2⟩ | ⟨u1, u2⟩ <;> rcases hal with ⟨u3, u4⟩ | ⟨u3, u4⟩ <;> first | (exact absurd u1 u3) | (exact absurd u3 u1) | (rw [u2, u4, if_neg (own_isL0 u1)]) | (rw [u2, u4, if_pos rfl])] at hv
              subst hv
              have N0''''''' := Fr.app N0'''''' N155q
              refine own_trW (T' := T155) (g' := (mkF m 146 #[.val (.int g0), .val (.int g1), .val (.int g2), .val (.int g3), .val (.int ch), .val (.int tc), .val (.ref s1), .val (.ref tk), .val (.int (1 : Int32)), .val (.int pp), .val (.int al), .val (.ref la), .unset] [(.int al)])) st155 ?_
              refine own_stW (T' := T155) (g' := (mkF m 148 #[.val (.int g0), .val (.int g1), .val (.int g2), .val (.int g3), .val (.int ch), .val (.int tc), .val (.ref s1), .val (.ref tk), .val (.int (1 : Int32)), .val (.int pp), .val (.int al), .val (.ref la), .unset] [(.int al), (.int al)])) (fun _ k => XS.iload X155.here hx rfl (hb hby at_146) rfl k) ?_
              refine own_stW (T' := T155) (g' := (mkF m 151 #[.val (.int g0), .val (.int g1), .val (.int g2), .val (.int g3), .val (.int ch), .val (.int tc), .val (.ref s1), .val (.ref tk), .val (.int (1 : Int32)), .val (.int pp), .val (.int al), .val (.ref la), .unset] [])) (fun _ k => XS.icmpNo X155.here hx rfl (hb hby at_148) rfl (Jvm.Free.XT.ii_ne_f rfl) k) ?_
              refine own_stW (T' := T155) (g' := (mkF m 152 #[.val (.int g0), .val (.int g1), .val (.int g2), .val (.int g3), .val (.int ch), .val (.int tc), .val (.ref s1), .val (.ref tk), .val (.int (1 : Int32)), .val (.int pp), .val (.int al), .val (.ref la), .unset] [(.int (1 : Int32))])) (fun _ k => XS.iconst X155.here hx rfl (hb hby at_151) k) ?_
              refine own_stW (T' := T155) (g' := (mkF m 156 #[.val (.int g0), .val (.int g1), .val (.int g2), .val (.int g3), .val (.int ch), .val (.int tc), .val (.ref s1), .val (.ref tk), .val (.int (1 : Int32)), .val (.int pp), .val (.int al), .val (.ref la), .unset] [(.int (1 : Int32))])) (fun _ k => XS.goto X155.here hx rfl (pc0 := 152) (pc' := 156) rfl (hb hby at_152) (by decide) (by decide) k) ?_
              refine own_stW (T' := T155) (g' := (mkF m 158 #[.val (.int g0), .val (.int g1), .val (.int g2), .val (.int g3), .val (.int ch), .val (.int tc), .val (.ref s1), .val (.ref tk), .val (.int (1 : Int32)), .val (.int pp), .val (.int al), .val (.ref la), .val (.int (1 : Int32))] [])) (fun _ k => XS.istore X155.here hx rfl (hb hby at_156) rfl (l' := #[.val (.int g0), .val (.int g1), .val (.int g2), .val (.int g3), .val (.int ch), .val (.int tc), .val (.ref s1), .val (.ref tk), .val (.int (1 : Int32)), .val (.int pp), .val (.int al), .val (.ref la), .val (.int (1 : Int32))]) rfl k) ?_
              refine own_stW (T' := T155) (g' := (mkF m 160 #[.val (.int g0), .val (.int g1), .val (.int g2), .val (.int g3), .val (.int ch), .val (.int tc), .val (.ref s1), .val (.ref tk), .val (.int (1 : Int32)), .val (.int pp), .val (.int al), .val (.ref la), .val (.int (1 : Int32))] [(.int (1 : Int32))])) (fun _ k => XS.iload X155.here hx rfl (hb hby at_158) rfl k) ?_
              refine own_stW (T' := T155) (g' := (mkF m 163 #[.val (.int g0), .val (.int g1), .val (.int g2), .val (.int g3), .val (.int ch), .val (.int tc), .val (.ref s1), .val (.ref tk), .val (.int (1 : Int32)), .val (.int pp), .val (.int al), .val (.ref la), .val (.int (1 : Int32))] [])) (fun _ k => XS.ifNo X155.here hx rfl (hb hby at_160) rfl (Jvm.Free.XT.i0_eq_f (by decide)) k) ?_
              refine own_stW (T' := T155) (g' := (mkF m 165 #[.val (.int g0), .val (.int g1), .val (.int g2), .val (.int g3), .val (.int ch), .val (.int tc), .val (.ref s1), .val (.ref tk), .val (.int (1 : Int32)), .val (.int pp), .val (.int al), .val (.ref la), .val (.int (1 : Int32))] [(.int (1 : Int32))])) (fun _ k => XS.iload X155.here hx rfl (hb hby at_163) rfl k) ?_
              refine own_stW (T' := T155) (g' := (mkF m 168 #[.val (.int g0), .val (.int g1), .val (.int g2), .val (.int g3), .val (.int ch), .val (.int tc), .val (.ref s1), .val (.ref tk), .val (.int (1 : Int32)), .val (.int pp), .val (.int al), .val (.ref la), .val (.int (1 : Int32))] [])) (fun _ k => XS.ifNo X155.here hx rfl (hb hby at_165) rfl (Jvm.Free.XT.i0_eq_f (by decide)) k) ?_
              refine own_stW (T' := T155) (g' := (mkF m 169 #[.val (.int g0), .val (.int g1), .val (.int g2), .val (.int g3), .val (.int ch), .val (.int tc), .val (.ref s1), .val (.ref tk), .val (.int (1 : Int32)), .val (.int pp), .val (.int al), .val (.ref la), .val (.int (1 : Int32))] [(.int (1 : Int32))])) (fun _ k => XS.iconst X155.here hx rfl (hb hby at_168) k) ?_
              refine own_stW (T' := T155) (g' := (mkF m 173 #[.val (.int g0), .val (.int g1), .val (.int g2), .val (.int g3), .val (.int ch), .val (.int tc), .val (.ref s1), .val (.ref tk), .val (.int (1 : Int32)), .val (.int pp), .val (.int al), .val (.ref la), .val (.int (1 : Int32))] [(.int (1 : Int32))])) (fun _ k => XS.goto X155.here hx rfl (pc0 := 169) (pc' := 173) rfl (hb hby at_169) (by decide) (by decide) k) ?_
              exact own_retNW X155 hS hx Bd.returns Bd.notSynchronized e155 hk146 (by simp) (hb hby at_173) ⟨rfl, N0'''''''⟩ (by decide) (by decide)
            by_cases qA : pp < (65 : Int32)
            · refine own_stW (T' := T149) (g' := (mkF m 90 #[.val (.int g0), .val (.int g1), .val (.int g2), .val (.int g3), .val (.int ch), .val (.int tc), .val (.ref s1), .val (.ref tk), .val (.int (1 : Int32)), .val (.int pp), .unset, .unset, .unset] [])) (fun _ k => XS.icmpYes X149.here hx rfl (pc0 := 80) (pc' := 90) rfl (hb hby at_80) rfl (Jvm.Free.XT.ii_lt_t qA) (by decide) (by decide) k) ?_
              refine own_stW (T' := T149) (g' := (mkF m 92 #[.val (.int g0), .val (.int g1), .val (.int g2), .val (.int g3), .val (.int ch), .val (.int tc), .val (.ref s1), .val (.ref tk), .val (.int (1 : Int32)), .val (.int pp), .unset, .unset, .unset] [(.int pp)])) (fun _ k => XS.iload X149.here hx rfl (hb hby at_90) rfl k) ?_
              refine own_stW (T' := T149) (g' := (mkF m 94 #[.val (.int g0), .val (.int g1), .val (.int g2), .val (.int g3), .val (.int ch), .val (.int tc), .val (.ref s1), .val (.ref tk), .val (.int (1 : Int32)), .val (.int pp), .unset, .unset, .unset] [(.int (97 : Int32)), (.int pp)])) (fun _ k => XS.bipush X149.here hx rfl (hb hby at_92) k) ?_
              by_cases qa : pp < (97 : Int32)
              · refine own_stW (T' := T149) (g' := (mkF m 108 #[.val (.int g0), .val (.int g1), .val (.int g2), .val (.int g3), .val (.int ch), .val (.int tc), .val (.ref s1), .val (.ref tk), .val (.int (1 : Int32)), .val (.int pp), .unset, .unset, .unset] [])) (fun _ k => XS.icmpYes X149.here hx rfl (pc0 := 94) (pc' := 108) rfl (hb hby at_94) rfl (Jvm.Free.XT.ii_lt_t qa) (by decide) (by decide) k) ?_
                refine own_stW (T' := T149) (g' := (mkF m 109 #[.val (.int g0), .val (.int g1), .val (.int g2), .val (.int g3), .val (.int ch), .val (.int tc), .val (.ref s1), .val (.ref tk), .val (.int (1 : Int32)), .val (.int pp), .unset, .unset, .unset] [(.int (0 : Int32))])) (fun _ k => XS.iconst X149.here hx rfl (hb hby at_108) k) ?_
                exact J109 _ (Or.inr ⟨by unfold own_isL; simp_all, rfl⟩)
              · refine own_stW (T' := T149) (g' := (mkF m 97 #[.val (.int g0), .val (.int g1), .val (.int g2), .val (.int g3), .val (.int ch), .val (.int tc), .val (.ref s1), .val (.ref tk), .val (.int (1 : Int32)), .val (.int pp), .unset, .unset, .unset] [])) (fun _ k => XS.icmpNo X149.here hx rfl (hb hby at_94) rfl (Jvm.Free.XT.ii_lt_f qa) k) ?_
                refine own_stW (T' := T149) (g' := (mkF m 99 #[.val (.int g0), .val (.int g1), .val (.int g2), .val (.int g3), .val (.int ch), .val (.int tc), .val (.ref s1), .val (.ref tk), .val (.int (1 : Int32)), .val (.int pp), .unset, .unset, .unset] [(.int pp)])) (fun _ k => XS.iload X149.here hx rfl (hb hby at_97) rfl k) ?_
                refine own_stW (T' := T149) (g' := (mkF m 101 #[.val (.int g0), .val (.int g1), .val (.int g2), .val (.int g3), .val (.int ch), .val (.int tc), .val (.ref s1), .val (.ref tk), .val (.int (1 : Int32)), .val (.int pp), .unset, .unset, .unset] [(.int (122 : Int32)), (.int pp)])) (fun _ k => XS.bipush X149.here hx rfl (hb hby at_99) k) ?_
                by_cases qz : (122 : Int32) < pp
                · refine own_stW (T' := T149) (g' := (mkF m 108 #[.val (.int g0), .val (.int g1), .val (.int g2), .val (.int g3), .val (.int ch), .val (.int tc), .val (.ref s1), .val (.ref tk), .val (.int (1 : Int32)), .val (.int pp), .unset, .unset, .unset] [])) (fun _ k => XS.icmpYes X149.here hx rfl (pc0 := 101) (pc' := 108) rfl (hb hby at_101) rfl (Jvm.Free.XT.ii_gt_t qz) (by decide) (by decide) k) ?_
                  refine own_stW (T' := T149) (g' := (mkF m 109 #[.val (.int g0), .val (.int g1), .val (.int g2), .val (.int g3), .val (.int ch), .val (.int tc), .val (.ref s1), .val (.ref tk), .val (.int (1 : Int32)), .val (.int pp), .unset, .unset, .unset] [(.int (0 : Int32))])) (fun _ k => XS.iconst X149.here hx rfl (hb hby at_108) k) ?_
                  exact J109 _ (Or.inr ⟨by unfold own_isL; simp_all, rfl⟩)
                · refine own_stW (T' := T149) (g' := (mkF m 104 #[.val (.int g0), .val (.int g1), .val (.int g2), .val (.int g3), .val (.int ch), .val (.int tc), .val (.ref s1), .val (.ref tk), .val (.int (1 : Int32)), .val (.int pp), .unset, .unset, .unset] [])) (fun _ k => XS.icmpNo X149.here hx rfl (hb hby at_101) rfl (Jvm.Free.XT.ii_gt_f qz) k) ?_
                  refine own_stW (T' := T149) (g' := (mkF m 105 #[.val (.int g0), .val (.int g1), .val (.int g2), .val (.int g3), .val (.int ch), .val (.int tc), .val (.ref s1), .val (.ref tk), .val (.int (1 : Int32)), .val (.int pp), .unset, .unset, .unset] [(.int (1 : Int32))])) (fun _ k => XS.iconst X149.here hx rfl (hb hby at_104) k) ?_
                  refine own_stW (T' := T149) (g' := (mkF m 109 #[.val (.int g0), .val (.int g1), .val (.int g2), .val (.int g3), .val (.int ch), .val (.int tc), .val (.ref s1), .val (.ref tk), .val (.int (1 : Int32)), .val (.int pp), .unset, .unset, .unset] [(.int (1 : Int32))])) (fun _ k => XS.goto X149.here hx rfl (pc0 := 105) (pc' := 109) rfl (hb hby at_105) (by decide) (by decide) k) ?_
                  exact J109 _ (Or.inl ⟨Or.inr ⟨qa, qz⟩, rfl⟩)
            · refine own_stW (T' := T149) (g' := (mkF m 83 #[.val (.int g0), .val (.int g1), .val (.int g2), .val (.int g3), .val (.int ch), .val (.int tc), .val (.ref s1), .val (.ref tk), .val (.int (1 : Int32)), .val (.int pp), .unset, .unset, .unset] [])) (fun _ k => XS.icmpNo X149.here hx rfl (hb hby at_80) rfl (Jvm.Free.XT.ii_lt_f qA) k) ?_
              refine own_stW (T' := T149) (g' := (mkF m 85 #[.val (.int g0), .val (.int g1), .val (.int g2), .val (.int g3), .val (.int ch), .val (.int tc), .val (.ref s1), .val (.ref tk), .val (.int (1 : Int32)), .val (.int pp), .unset, .unset, .unset] [(.int pp)])) (fun _ k => XS.iload X149.here hx rfl (hb hby at_83) rfl k) ?_
              refine own_stW (T' := T149) (g' := (mkF m 87 #[.val (.int g0), .val (.int g1), .val (.int g2), .val (.int g3), .val (.int ch), .val (.int tc), .val (.ref s1), .val (.ref tk), .val (.int (1 : Int32)), .val (.int pp), .unset, .unset, .unset] [(.int (90 : Int32)), (.int pp)])) (fun _ k => XS.bipush X149.here hx rfl (hb hby at_85) k) ?_
              by_cases qZ : (90 : Int32) < pp
              · refine own_stW (T' := T149) (g' := (mkF m 90 #[.val (.int g0), .val (.int g1), .val (.int g2), .val (.int g3), .val (.int ch), .val (.int tc), .val (.ref s1), .val (.ref tk), .val (.int (1 : Int32)), .val (.int pp), .unset, .unset, .unset] [])) (fun _ k => XS.icmpNo X149.here hx rfl (hb hby at_87) rfl (Jvm.Free.XT.ii_le_f qZ) k) ?_
                refine own_stW (T' := T149) (g' := (mkF m 92 #[.val (.int g0), .val (.int g1), .val (.int g2), .val (.int g3), .val (.int ch), .val (.int tc), .val (.ref s1), .val (.ref tk), .val (.int (1 : Int32)), .val (.int pp), .unset, .unset, .unset] [(.int pp)])) (fun _ k => XS.iload X149.here hx rfl (hb hby at_90) rfl k) ?_
                refine own_stW (T' := T149) (g' := (mkF m 94 #[.val (.int g0), .val (.int g1), .val (.int g2), .val (.int g3), .val (.int ch), .val (.int tc), .val (.ref s1), .val (.ref tk), .val (.int (1 : Int32)), .val (.int pp), .unset, .unset, .unset] [(.int (97 : Int32)), (.int pp)])) (fun _ k => XS.bipush X149.here hx rfl (hb hby at_92) k) ?_
                by_cases qa : pp < (97 : Int32)
                · refine own_stW (T' := T149) (g' := (mkF m 108 #[.val (.int g0), .val (.int g1), .val (.int g2), .val (.int g3), .val (.int ch), .val (.int tc), .val (.ref s1), .val (.ref tk), .val (.int (1 : Int32)), .val (.int pp), .unset, .unset, .unset] [])) (fun _ k => XS.icmpYes X149.here hx rfl (pc0 := 94) (pc' := 108) rfl (hb hby at_94) rfl (Jvm.Free.XT.ii_lt_t qa) (by decide) (by decide) k) ?_
                  refine own_stW (T' := T149) (g' := (mkF m 109 #[.val (.int g0), .val (.int g1), .val (.int g2), .val (.int g3), .val (.int ch), .val (.int tc), .val (.ref s1), .val (.ref tk), .val (.int (1 : Int32)), .val (.int pp), .unset, .unset, .unset] [(.int (0 : Int32))])) (fun _ k => XS.iconst X149.here hx rfl (hb hby at_108) k) ?_
                  exact J109 _ (Or.inr ⟨by unfold own_isL; simp_all, rfl⟩)
                · refine own_stW (T' := T149) (g' := (mkF m 97 #[.val (.int g0), .val (.int g1), .val (.int g2), .val (.int g3), .val (.int ch), .val (.int tc), .val (.ref s1), .val (.ref tk), .val (.int (1 : Int32)), .val (.int pp), .unset, .unset, .unset] [])) (fun _ k => XS.icmpNo X149.here hx rfl (hb hby at_94) rfl (Jvm.Free.XT.ii_lt_f qa) k) ?_
                  refine own_stW (T' := T149) (g' := (mkF m 99 #[.val (.int g0), .val (.int g1), .val (.int g2), .val (.int g3), .val (.int ch), .val (.int tc), .val (.ref s1), .val (.ref tk), .val (.int (1 : Int32)), .val (.int pp), .unset, .unset, .unset] [(.int pp)])) (fun _ k => XS.iload X149.here hx rfl (hb hby at_97) rfl k) ?_
                  refine own_stW (T' := T149) (g' := (mkF m 101 #[.val (.int g0), .val (.int g1), .val (.int g2), .val (.int g3), .val (.int ch), .val (.int tc), .val (.ref s1), .val (.ref tk), .val (.int (1 : Int32)), .val (.int pp), .unset, .unset, .unset] [(.int (122 : Int32)), (.int pp)])) (fun _ k => XS.bipush X149.here hx rfl (hb hby at_99) k) ?_
                  by_cases qz : (122 : Int32) < pp
                  · refine own_stW (T' := T149) (g' := (mkF m 108 #[.val (.int g0), .val (.int g1), .val (.int g2), .val (.int g3), .val (.int ch), .val (.int tc), .val (.ref s1), .val (.ref tk), .val (.int (1 : Int32)), .val (.int pp), .unset, .unset, .unset] [])) (fun _ k => XS.icmpYes X149.here hx rfl (pc0 := 101) (pc' := 108) rfl (hb hby at_101) rfl (Jvm.Free.XT.ii_gt_t qz) (by decide) (by decide) k) ?_
                    refine own_stW (T' := T149) (g' := (mkF m 109 #[.val (.int g0), .val (.int g1), .val (.int g2), .val (.int g3), .val (.int ch), .val (.int tc), .val (.ref s1), .val (.ref tk), .val (.int (1 : Int32)), .val (.int pp), .unset, .unset, .unset] [(.int (0 : Int32))])) (fun _ k => XS.iconst X149.here hx rfl (hb hby at_108) k) ?_
                    exact J109 _ (Or.inr ⟨by unfold own_isL; simp_all, rfl⟩)
                  · refine own_stW (T' := T149) (g' := (mkF m 104 #[.val (.int g0), .val (.int g1), .val (.int g2), .val (.int g3), .val (.int ch), .val (.int tc), .val (.ref s1), .val (.ref tk), .val (.int (1 : Int32)), .val (.int pp), .unset, .unset, .unset] [])) (fun _ k => XS.icmpNo X149.here hx rfl (hb hby at_101) rfl (Jvm.Free.XT.ii_gt_f qz) k) ?_
                    refine own_stW (T' := T149) (g' := (mkF m 105 #[.val (.int g0), .val (.int g1), .val (.int g2), .val (.int g3), .val (.int ch), .val (.int tc), .val (.ref s1), .val (.ref tk), .val (.int (1 : Int32)), .val (.int pp), .unset, .unset, .unset] [(.int (1 : Int32))])) (fun _ k => XS.iconst X149.here hx rfl (hb hby at_104) k) ?_
                    refine own_stW (T' := T149) (g' := (mkF m 109 #[.val (.int g0), .val (.int g1), .val (.int g2), .val (.int g3), .val (.int ch), .val (.int tc), .val (.ref s1), .val (.ref tk), .val (.int (1 : Int32)), .val (.int pp), .unset, .unset, .unset] [(.int (1 : Int32))])) (fun _ k => XS.goto X149.here hx rfl (pc0 := 105) (pc' := 109) rfl (hb hby at_105) (by decide) (by decide) k) ?_
                    exact J109 _ (Or.inl ⟨Or.inr ⟨qa, qz⟩, rfl⟩)
              · refine own_stW (T' := T149) (g' := (mkF m 104 #[.val (.int g0), .val (.int g1), .val (.int g2), .val (.int g3), .val (.int ch), .val (.int tc), .val (.ref s1), .val (.ref tk), .val (.int (1 : Int32)), .val (.int pp), .unset, .unset, .unset] [])) (fun _ k => XS.icmpYes X149.here hx rfl (pc0 := 87) (pc' := 104) rfl (hb hby at_87) rfl (Jvm.Free.XT.ii_le_t qZ) (by decide) (by decide) k) ?_
                refine own_stW (T' := T149) (g' := (mkF m 105 #[.val (.int g0), .val (.int g1), .val (.int g2), .val (.int g3), .val (.int ch), .val (.int tc), .val (.ref s1), .val (.ref tk), .val (.int (1 : Int32)), .val (.int pp), .unset, .unset, .unset] [(.int (1 : Int32))])) (fun _ k => XS.iconst X149.here hx rfl (hb hby at_104) k) ?_
                refine own_stW (T' := T149) (g' := (mkF m 109 #[.val (.int g0), .val (.int g1), .val (.int g2), .val (.int g3), .val (.int ch), .val (.int tc), .val (.ref s1), .val (.ref tk), .val (.int (1 : Int32)), .val (.int pp), .unset, .unset, .unset] [(.int (1 : Int32))])) (fun _ k => XS.goto X149.here hx rfl (pc0 := 105) (pc' := 109) rfl (hb hby at_105) (by decide) (by decide) k) ?_
                exact J109 _ (Or.inl ⟨Or.inl ⟨qA, qZ⟩, rfl⟩)
          exact J76 _ (own_pp _).1 (own_pp _).2.1 (own_pp _).2.2
        by_cases qc : ch = (0 : Int32)
        · refine own_stW (T' := T149) (g' := (mkF m 57 #[.val (.int g0), .val (.int g1), .val (.int g2), .val (.int g3), .val (.int ch), .val (.int tc), .val (.ref s1), .val (.ref tk), .unset, .unset, .unset, .unset, .unset] [(.int r1)])) (fun _ k => XS.ifYes X149.here hx rfl (pc0 := 50) (pc' := 57) rfl (hb hby at_50) rfl (Jvm.Free.XT.i0_eq_t qc) (by decide) (by decide) k) ?_
          refine own_stW (T' := T149) (g' := (mkF m 58 #[.val (.int g0), .val (.int g1), .val (.int g2), .val (.int g3), .val (.int ch), .val (.int tc), .val (.ref s1), .val (.ref tk), .unset, .unset, .unset, .unset, .unset] [(.int (0 : Int32)), (.int r1)])) (fun _ k => XS.iconst X149.here hx rfl (hb hby at_57) k) ?_
          refine own_stW (T' := T149) (g' := (mkF m 61 #[.val (.int g0), .val (.int g1), .val (.int g2), .val (.int g3), .val (.int ch), .val (.int tc), .val (.ref s1), .val (.ref tk), .unset, .unset, .unset, .unset, .unset] [])) (fun _ k => XS.icmpNo X149.here hx rfl (hb hby at_58) rfl (Jvm.Free.XT.ii_ne_f (by rw [hr1, if_pos qc])) k) ?_
          refine own_stW (T' := T149) (g' := (mkF m 62 #[.val (.int g0), .val (.int g1), .val (.int g2), .val (.int g3), .val (.int ch), .val (.int tc), .val (.ref s1), .val (.ref tk), .unset, .unset, .unset, .unset, .unset] [(.int (1 : Int32))])) (fun _ k => XS.iconst X149.here hx rfl (hb hby at_61) k) ?_
          refine own_stW (T' := T149) (g' := (mkF m 66 #[.val (.int g0), .val (.int g1), .val (.int g2), .val (.int g3), .val (.int ch), .val (.int tc), .val (.ref s1), .val (.ref tk), .unset, .unset, .unset, .unset, .unset] [(.int (1 : Int32))])) (fun _ k => XS.goto X149.here hx rfl (pc0 := 62) (pc' := 66) rfl (hb hby at_62) (by decide) (by decide) k) ?_
          exact J66 trivial
        · refine own_stW (T' := T149) (g' := (mkF m 53 #[.val (.int g0), .val (.int g1), .val (.int g2), .val (.int g3), .val (.int ch), .val (.int tc), .val (.ref s1), .val (.ref tk), .unset, .unset, .unset, .unset, .unset] [(.int r1)])) (fun _ k => XS.ifNo X149.here hx rfl (hb hby at_50) rfl (Jvm.Free.XT.i0_eq_f qc) k) ?_
          refine own_stW (T' := T149) (g' := (mkF m 54 #[.val (.int g0), .val (.int g1), .val (.int g2), .val (.int g3), .val (.int ch), .val (.int tc), .val (.ref s1), .val (.ref tk), .unset, .unset, .unset, .unset, .unset] [(.int (1 : Int32)), (.int r1)])) (fun _ k => XS.iconst X149.here hx rfl (hb hby at_53) k) ?_
          refine own_stW (T' := T149) (g' := (mkF m 58 #[.val (.int g0), .val (.int g1), .val (.int g2), .val (.int g3), .val (.int ch), .val (.int tc), .val (.ref s1), .val (.ref tk), .unset, .unset, .unset, .unset, .unset] [(.int (1 : Int32)), (.int r1)])) (fun _ k => XS.goto X149.here hx rfl (pc0 := 54) (pc' := 58) rfl (hb hby at_54) (by decide) (by decide) k) ?_
          refine own_stW (T' := T149) (g' := (mkF m 61 #[.val (.int g0), .val (.int g1), .val (.int g2), .val (.int g3), .val (.int ch), .val (.int tc), .val (.ref s1), .val (.ref tk), .unset, .unset, .unset, .unset, .unset] [])) (fun _ k => XS.icmpNo X149.here hx rfl (hb hby at_58) rfl (Jvm.Free.XT.ii_ne_f (by rw [hr1, if_neg qc])) k) ?_
          refine own_stW (T' := T149) (g' := (mkF m 62 #[.val (.int g0), .val (.int g1), .val (.int g2), .val (.int g3), .val (.int ch), .val (.int tc), .val (.ref s1), .val (.ref tk), .unset, .unset, .unset, .unset, .unset] [(.int (1 : Int32))])) (fun _ k => XS.iconst X149.here hx rfl (hb hby at_61) k) ?_
          refine own_stW (T' := T149) (g' := (mkF m 66 #[.val (.int g0), .val (.int g1), .val (.int g2), .val (.int g3), .val (.int ch), .val (.int tc), .val (.ref s1), .val (.ref tk), .unset, .unset, .unset, .unset, .unset] [(.int (1 : Int32))])) (fun _ k => XS.goto X149.here hx rfl (pc0 := 62) (pc' := 66) rfl (hb hby at_62) (by decide) (by decide) k) ?_
          exact J66 trivial
    exact J12 _ (own_pp _).1.2
  exact J4 _ (own_narc _)
set_option maxRecDepth 65536 in
set_option maxHeartbeats 40000000 in
theorem comes_1 {Post : Tables → Env → Array Value → State → Outcome → State → Prop} (hpost : ∀ tb e args s v u, (limb_1_1.after args s (.returned v) u = true ∧ limb_1_2.after args s (.returned v) u = true ∧ True) → ReturnedEndW s (.returned v) u (Jvm.fieldLocs frame_1_writes args s ++ Jvm.arrayLocs frame_1_arrays args s ++ Jvm.staticLocs frame_1_statics s) 40 1216 → Post tb e args s (.returned v) u) :
    ArmFor flags0 classFile x code maxLocals ret World_1 tables_1 room_1 Calls_1 rest_1 Pre_1 Post := by
  intro l hfl _ _ p e ha hc hk s m args below hf hA hF happ hP
  obtain ⟨hcalls, hrest, hpre⟩ := hP
  obtain ⟨-, -, -, hnamed, -, -, -, hat⟩ := (Spec.applies_iff hf).mp happ
  obtain ⟨hg, hn⟩ := and_e (Cond.before_iff.mp (show (Jvm.Cond.and given_1 narrow_1).before args s = true from hpre))
  obtain ⟨hcount, r0⟩ := and_e hg
  obtain ⟨hk0, r1⟩ := and_e r0
  obtain ⟨hk1, r2⟩ := and_e r1
  obtain ⟨hk2, r3⟩ := and_e r2
  have hk3 := r3
  obtain ⟨w0, w1, w2, w3, rfl⟩ : ∃ w0 w1 w2 w3 : Value, args = #[w0, w1, w2, w3] := by
    have hs : args.size = 4 := by simpa [Cond.value, given_1] using hcount
    obtain ⟨L⟩ := args
    match L, hs with
    | [w0, w1, w2, w3], _ => exact ⟨w0, w1, w2, w3, rfl⟩
  have hw := fun d (hd : d ∈ tables_1) => atoms_spec (ws := Jvm.Cond.code x code maxLocals ret :: tables_1) hat d (List.mem_cons_of_mem _ hd)
  have hfit : Fit s := fun {y c} hc i hi => by
    obtain ⟨ha, rfl⟩ := Array.getElem?_eq_some_iff.mp hc
    have q := List.all_eq_true.mp ((Array.all_eq_true_iff_forall_mem.mp hF) _ (Array.getElem_mem ha)) i (List.mem_range.mpr hi)
    simpa [Array.getElem?_eq_getElem hi] using q
  obtain ⟨hsets, hown0⟩ := atoms_of _ (rest_1_c_eq ▸ (show rest_1_c.before _ s = true from hrest))
  obtain ⟨i0, ei0⟩ := is_v hk0
  obtain rfl : w0 = (.int i0) := Option.some.inj ei0
  obtain ⟨i1, ei1⟩ := is_v hk1
  obtain rfl : w1 = (.int i1) := Option.some.inj ei1
  obtain ⟨i2, ei2⟩ := is_v hk2
  obtain rfl : w2 = (.int i2) := Option.some.inj ei2
  obtain ⟨i3, ei3⟩ := is_v hk3
  obtain rfl : w3 = (.int i3) := Option.some.inj ei3
  obtain ⟨cs, evC⟩ := is_v (Cond.before_iff.mp (hsets _ (List.mem_of_getElem? (i := 1) rfl)))
  have SC := Sta.start evC (Or.inl (hsets _ (List.mem_of_getElem? (i := 0) rfl)))
  have hcs : ¬ cs = (0 : Int32) := fun q => by
    have u := not_v (Cond.before_iff.mp (hsets _ (List.mem_of_getElem? (i := 2) rfl)))
    rw [q] at evC
    exact absurd u (by rw [eq_i evC (Term.int_eval 0) rfl]; decide)
  obtain ⟨fm, evF, hfm⟩ := own_isRef (Cond.before_iff.mp (hsets _ (List.mem_of_getElem? (i := 8) rfl)))
  have SF := Sta.start evF (Or.inl (hsets _ (List.mem_of_getElem? (i := 7) rfl)))
  obtain ⟨aD, evD⟩ := arr_v (Cond.before_iff.mp (hsets _ (List.mem_of_getElem? (i := 15) rfl)))
  have SD := Sta.start evD (Or.inr ⟨(hw _ (List.mem_of_getElem? (i := 56) rfl)), (hsets _ (List.mem_of_getElem? (i := 11) rfl))⟩)
  obtain ⟨cD, AD⟩ := Arr.start evD (Cond.before_iff.mp (hsets _ (List.mem_of_getElem? (i := 15) rfl)))
  have VD := own_len0 AD evD (Cond.before_iff.mp (hsets _ (List.mem_of_getElem? (i := 17) rfl)))
  obtain ⟨n, o, h1, h2, h3, _, L, rfl, ⟨rfl, N⟩, hq⟩ := own_law l s _ hw tables_1 i0 i1 i2 i3 cs fm aD cD.cls (fun _ => .null) s.heap s.heap.size (Nat.le_refl _) (Old.start s) SC hcs SF hfm SD VD (Nat.le_refl _) p e ha hc hk s m _ below hf ((Spec.applies_iff_loose hf).mp happ).1 ⟨rfl, State.Warmed39.refl s, rfl⟩ trivial
  refine ⟨n, _, h1, h2, h3, hpost _ _ _ _ _ _ ⟨Cond.after_iff.mpr rfl, Cond.after_iff.mpr (eq_i res_at (Term.int_eval (1)) rfl), trivial⟩ ⟨hq.1, hq.2.1, hq.2.2.1, (hq.2.2.2.sift fun y hy => Or.inr (N y hy)).mono (by decide) (by decide)⟩⟩
theorem main_1_1 : Claimed_1_1 := comes_1 fun _ _ _ _ _ _ h hF => ⟨h.1, hF⟩
theorem main_1_2 : Claimed_1_2 := comes_1 fun _ _ _ _ _ _ h hF => ⟨h.2.1, hF⟩
end Jvm.Pilot.@@N@@
namespace Jvm.Pilot.@@N@@
open Jvm Jvm.ClassFile Sem Op Lib Jvm.Free Jvm.Stand Jvm.Pilot.@@N@@.Jvm.D
/-! MADE BY PROGRAM (witnessworld.py) out of the Statement's table words and the real class files: 35 classes; the members and pool entries that the words name. The judged class is class 1, her method 1. -/
namespace start1
open Jvm.ClassFile
def u (s : String) : CpInfo := .utf8 (stringToUtf16 s)
/-- a pool by its gaps: so many unusable entries, then the entry; so many at the end -/
def gap : Nat → List CpInfo → List CpInfo
  | 0, r => r
  | n + 1, r => .unusable :: gap n r
def poolList (es : List (Nat × CpInfo)) (last : Nat) : List CpInfo := es.foldr (fun e r => gap e.1 (e.2 :: r)) (gap last [])
def pool (es : List (Nat × CpInfo)) (last : Nat) : Array CpInfo := ⟨poolList es last⟩
def fileOf (pool : Array CpInfo) (this : Nat) (attrs : Array Attribute := #[]) (ms : Array MethodInfo := #[]) (fl : Nat := 33) (sup : Nat := 0) (ifs : Array Nat := #[]) (fds : Array FieldInfo := #[]) : ClassFile where
  minorVersion := 0
  majorVersion := 65
  constantPool := pool
  accessFlags := fl
  thisClass := this
  superClass := sup
  interfaces := ifs
  fields := fds
  methods := ms
  attributes := attrs
def plain (name : String) (sup : Option ClassId) : Class where
  name := name
  kind := .ordinary
  loader := none
  accessFlags := 33
  super := sup
  interfaces := #[]
  cf := none
  fields := #[]
  methods := #[]
  instanceTypes := #[]
  staticTypes := #[]
  resolved := #[]
  callSites := []
  init := .initialized
  statics := none
  mirror := none

def pool0 : Array CpInfo := pool [(5, u "<init>"), (0, u "()V"), (1, .class_ 10), (1, u "java/lang/Object")] 113

def k0c0 : Code := { maxStack := 0, maxLocals := 1, code := object_method_1_code, exceptionTable := #[], attributes := #[] }
def k0m0 : Method := { name := "<init>", desc := "()V", sig := { parameters := [], returnType := none }, accessFlags := 1, code := some k0c0 }
/-- java/lang/Object -/
def k0 : Class := { plain "java/lang/Object" none with
  accessFlags := 33
  interfaces := #[]
  cf := some (fileOf pool0 8 #[] #[{ accessFlags := 1, nameIndex := 5, descriptorIndex := 6, attributes := #[] }] 33 0 #[] #[])
  fields := #[]
  methods := #[k0m0]
  instanceTypes := #[]
  staticTypes := #[]
  resolved := Array.replicate 124 none
  statics := none }

def pool1 : Array CpInfo := pool [(2, .class_ 4), (1, u "java/lang/Object"), (0, u "<init>"), (0, u "()V"), (0, .string 8), (0, u ""), (0, .methodref 10 11), (0, .class_ 12), (0, .nameAndType 13 14), (0, u "java/lang/String"), (0, u "valueOf"), (0, u "(C)Ljava/lang/String;"), (0, .class_ 16), (0, u "com/example/idiolect/idiolect/internal/datetime/DateTimePatterns$Token"), (0, .methodref 15 18), (0, .nameAndType 5 19), (0, u "(CLjava/lang/String;)V"), (0, .methodref 15 21), (0, .nameAndType 22 23), (0, u "isField"), (0, u "()Z"), (0, .methodref 25 26), (0, .class_ 27), (0, .nameAndType 28 29), (0, u "com/example/idiolect/idiolect/internal/datetime/DateTimePatterns"), (0, u "tokens"), (0, u "(Ljava/lang/String;)Ljava/util/List;"), (0, .interfaceMethodref 31 32), (0, .class_ 33), (0, .nameAndType 34 35), (0, u "java/util/List"), (0, u "size"), (0, u "()I"), (0, .interfaceMethodref 31 37), (0, .nameAndType 38 39), (0, u "get"), (0, u "(I)Ljava/lang/Object;"), (0, .class_ 41), (0, u "com/example/idiolect/idiolect/internal/datetime/TokenIsFieldPinLaw"), (2, u "law"), (0, u "(IIII)Z")] 5

def k1m0 : Method := { name := "<init>", desc := "()V", sig := { parameters := [], returnType := none }, accessFlags := 1, code := none }
def k1c1 : Code := { maxStack := 4, maxLocals := 13, code := code, exceptionTable := #[], attributes := #[] }
def k1m1 : Method := { name := "law", desc := "(IIII)Z", sig := { parameters := [.int, .int, .int, .int], returnType := some .boolean }, accessFlags := 9, code := some k1c1 }
/-- com/example/idiolect/idiolect/internal/datetime/TokenIsFieldPinLaw -/
def k1 : Class := { plain "com/example/idiolect/idiolect/internal/datetime/TokenIsFieldPinLaw" (some 0) with
  accessFlags := 49
  interfaces := #[]
  cf := some (fileOf pool1 40 #[] #[{ accessFlags := 1, nameIndex := 5, descriptorIndex := 6, attributes := #[] }, { accessFlags := 9, nameIndex := 44, descriptorIndex := 45, attributes := #[] }] 49 2 #[] #[])
  fields := #[]
  methods := #[k1m0, k1m1]
  instanceTypes := #[]
  staticTypes := #[]
  resolved := Array.replicate 51 none
  statics := none }

def pool2 : Array CpInfo := pool [(1, .class_ 2), (0, u "java/io/Serializable"), (0, .class_ 4), (0, u "java/lang/Object")] 2

/-- java/io/Serializable -/
def k2 : Class := { plain "java/io/Serializable" (some 0) with
  accessFlags := 1537
  interfaces := #[]
  cf := some (fileOf pool2 1 #[] #[] 1537 3 #[] #[])
  fields := #[]
  methods := #[]
  instanceTypes := #[]
  staticTypes := #[]
  resolved := Array.replicate 7 none
  statics := none }

def pool3 : Array CpInfo := pool [(1, .class_ 2), (0, u "java/lang/Comparable"), (0, .class_ 4), (0, u "java/lang/Object")] 7

/-- java/lang/Comparable -/
def k3 : Class := { plain "java/lang/Comparable" (some 0) with
  accessFlags := 1537
  interfaces := #[]
  cf := some (fileOf pool3 1 #[] #[] 1537 3 #[] #[])
  fields := #[]
  methods := #[]
  instanceTypes := #[]
  staticTypes := #[]
  resolved := Array.replicate 12 none
  statics := none }

def pool4 : Array CpInfo := pool [(2, .class_ 4), (1, u "java/lang/CharSequence"), (42, .class_ 48), (0, u "java/lang/CharSequence$1CodePointIterator"), (10, .class_ 60), (0, u "java/lang/CharSequence$1CharIterator"), (5, .class_ 67), (0, u "java/lang/Object")] 63

/-- java/lang/CharSequence -/
def k4 : Class := { plain "java/lang/CharSequence" (some 0) with
  accessFlags := 1537
  interfaces := #[]
  cf := some (fileOf pool4 2 #[.nestMembers #[47, 59]] #[] 1537 66 #[] #[])
  fields := #[]
  methods := #[]
  instanceTypes := #[]
  staticTypes := #[]
  resolved := Array.replicate 131 none
  statics := none }

def pool5 : Array CpInfo := pool [(1, .class_ 2), (0, u "java/lang/constant/Constable"), (0, .class_ 4), (0, u "java/lang/Object")] 6

/-- java/lang/constant/Constable -/
def k5 : Class := { plain "java/lang/constant/Constable" (some 0) with
  accessFlags := 1537
  interfaces := #[]
  cf := some (fileOf pool5 1 #[] #[] 1537 3 #[] #[])
  fields := #[]
  methods := #[]
  instanceTypes := #[]
  staticTypes := #[]
  resolved := Array.replicate 11 none
  statics := none }

def pool6 : Array CpInfo := pool [(1, .class_ 2), (0, u "java/lang/constant/ConstantDesc"), (0, .class_ 4), (0, u "java/lang/Object")] 32

/-- java/lang/constant/ConstantDesc -/
def k6 : Class := { plain "java/lang/constant/ConstantDesc" (some 0) with
  accessFlags := 1537
  interfaces := #[]
  cf := some (fileOf pool6 1 #[] #[] 1537 3 #[] #[])
  fields := #[]
  methods := #[]
  instanceTypes := #[]
  staticTypes := #[]
  resolved := Array.replicate 37 none
  statics := none }

def pool7 : Array CpInfo := pool [(1, .methodref 2 3), (0, .class_ 4), (0, .nameAndType 5 6), (0, u "java/lang/Object"), (0, u "<init>"), (0, u "()V"), (2, .fieldref 10 11), (0, .class_ 12), (0, .nameAndType 13 14), (0, u "java/lang/String"), (0, u "value"), (0, u "[B"), (0, .fieldref 10 16), (0, .nameAndType 17 18), (0, u "coder"), (0, u "B"), (2, u "hash"), (0, u "I"), (2, u "hashIsZero"), (0, u "Z"), (11, .fieldref 10 39), (0, .nameAndType 40 26), (0, u "COMPACT_STRINGS"), (12, u "toBytes"), (0, .methodref 55 56), (0, .class_ 57), (0, .nameAndType 58 59), (0, u "java/util/Arrays"), (0, u "copyOfRange"), (0, u "([BII)[B"), (47, .class_ 109), (1, u "java/lang/StringLatin1"), (32, u "()Z"), (66, .methodref 10 210), (0, .nameAndType 5 211), (0, u "([BB)V"), (122, u "()I"), (0, .methodref 10 336), (0, .nameAndType 17 337), (0, u "()B"), (2, u "()[B"), (22, u "([BI)C"), (5, u "(C)Z"), (21, u "(II)V"), (35, u "(I)C"), (61, .methodref 10 490), (0, .nameAndType 5 491), (0, u "(Ljava/lang/AbstractStringBuilder;Ljava/lang/Void;)V"), (0, .methodref 10 493), (0, .nameAndType 494 142), (0, u "isLatin1"), (0, .methodref 107 496), (0, .nameAndType 497 363), (0, u "charAt"), (3, u "checkIndex"), (3, .methodref 10 506), (0, .nameAndType 507 334), (0, u "length"), (5, u "checkFromToIndex"), (7, .methodref 10 522), (0, .nameAndType 523 524), (0, u "checkBoundsBeginEnd"), (0, u "(III)V"), (24, .methodref 550 506), (0, .class_ 551), (0, u "java/lang/AbstractStringBuilder"), (0, .methodref 550 553), (0, .nameAndType 554 340), (0, u "getValue"), (20, .class_ 576), (0, u "java/lang/CharSequence"), (22, u "CASE_INSENSITIVE_ORDER"), (0, u "Ljava/util/Comparator;"), (82, u "substring"), (0, u "(II)Ljava/lang/String;"), (97, u "valueOf"), (0, u "(C)Ljava/lang/String;"), (231, .methodref 107 1016), (0, .nameAndType 1017 369), (0, u "canEncode"), (0, .methodref 107 1019), (0, .nameAndType 53 1020), (0, u "(C)[B"), (26, .methodref 550 493), (5, .fieldref 1054 1055), (0, .class_ 1056), (0, .nameAndType 1057 1058), (0, u "jdk/internal/util/Preconditions"), (0, u "SIOOBE_FORMATTER"), (0, u "Ljava/util/function/BiFunction;"), (0, .methodref 1054 1060), (0, .nameAndType 501 1061), (0, u "(IILjava/util/function/BiFunction;)I"), (0, .methodref 1054 1063), (0, .nameAndType 513 1064), (0, u "(IIILjava/util/function/BiFunction;)I"), (36, u "serialPersistentFields"), (0, u "[Ljava/io/ObjectStreamField;"), (0, .class_ 1104), (0, u "java/lang/String$CaseInsensitiveComparator"), (1, .class_ 1107), (0, u "java/io/Serializable"), (0, .class_ 1109), (0, u "java/lang/Comparable"), (0, .class_ 1111), (0, u "java/lang/constant/Constable"), (0, .class_ 1113), (0, u "java/lang/constant/ConstantDesc"), (2, u "serialVersionUID"), (0, u "J"), (3, u "REPL"), (0, u "C"), (2, u "LATIN1"), (1, u "UTF16"), (105, u "(Ljava/lang/StringBuilder;)V")] 217

def k7m0 : Method := { name := "<init>", desc := "()V", sig := { parameters := [], returnType := none }, accessFlags := 1, code := none }
def k7c1 : Code := { maxStack := 3, maxLocals := 2, code := jdk_42_method_53_code, exceptionTable := #[], attributes := #[] }
def k7m1 : Method := { name := "<init>", desc := "(Ljava/lang/StringBuilder;)V", sig := { parameters := [(.object "java/lang/StringBuilder")], returnType := none }, accessFlags := 1, code := some k7c1 }
def k7c2 : Code := { maxStack := 2, maxLocals := 1, code := jdk_42_method_54_code, exceptionTable := #[], attributes := #[] }
def k7m2 : Method := { name := "length", desc := "()I", sig := { parameters := [], returnType := some .int }, accessFlags := 1, code := some k7c2 }
def k7c3 : Code := { maxStack := 2, maxLocals := 2, code := jdk_42_method_56_code, exceptionTable := #[], attributes := #[] }
def k7m3 : Method := { name := "charAt", desc := "(I)C", sig := { parameters := [.int], returnType := some .char }, accessFlags := 1, code := some k7c3 }
def k7c4 : Code := { maxStack := 3, maxLocals := 5, code := jdk_42_method_92_code, exceptionTable := #[], attributes := #[] }
def k7m4 : Method := { name := "substring", desc := "(II)Ljava/lang/String;", sig := { parameters := [.int, .int], returnType := some (.object "java/lang/String") }, accessFlags := 1, code := some k7c4 }
def k7c5 : Code := { maxStack := 4, maxLocals := 1, code := jdk_42_method_139_code, exceptionTable := #[], attributes := #[] }
def k7m5 : Method := { name := "valueOf", desc := "(C)Ljava/lang/String;", sig := { parameters := [.char], returnType := some (.object "java/lang/String") }, accessFlags := 9, code := some k7c5 }
def k7c6 : Code := { maxStack := 5, maxLocals := 5, code := jdk_42_method_150_code, exceptionTable := #[], attributes := #[] }
def k7m6 : Method := { name := "<init>", desc := "(Ljava/lang/AbstractStringBuilder;Ljava/lang/Void;)V", sig := { parameters := [(.object "java/lang/AbstractStringBuilder"), (.object "java/lang/Void")], returnType := none }, accessFlags := 0, code := some k7c6 }
def k7c7 : Code := { maxStack := 2, maxLocals := 3, code := jdk_42_method_151_code, exceptionTable := #[], attributes := #[] }
def k7m7 : Method := { name := "<init>", desc := "([BB)V", sig := { parameters := [(.array .byte), .byte], returnType := none }, accessFlags := 0, code := some k7c7 }
def k7c8 : Code := { maxStack := 1, maxLocals := 1, code := jdk_42_method_152_code, exceptionTable := #[], attributes := #[] }
def k7m8 : Method := { name := "coder", desc := "()B", sig := { parameters := [], returnType := some .byte }, accessFlags := 0, code := some k7c8 }
def k7c9 : Code := { maxStack := 1, maxLocals := 1, code := jdk_42_method_154_code, exceptionTable := #[], attributes := #[] }
def k7m9 : Method := { name := "isLatin1", desc := "()Z", sig := { parameters := [], returnType := some .boolean }, accessFlags := 0, code := some k7c9 }
def k7c10 : Code := { maxStack := 3, maxLocals := 2, code := jdk_42_method_155_code, exceptionTable := #[], attributes := #[] }
def k7m10 : Method := { name := "checkIndex", desc := "(II)V", sig := { parameters := [.int, .int], returnType := none }, accessFlags := 8, code := some k7c10 }
def k7c11 : Code := { maxStack := 4, maxLocals := 3, code := jdk_42_method_158_code, exceptionTable := #[], attributes := #[] }
def k7m11 : Method := { name := "checkBoundsBeginEnd", desc := "(III)V", sig := { parameters := [.int, .int, .int], returnType := none }, accessFlags := 8, code := some k7c11 }
/-- java/lang/String -/
def k7 : Class := { plain "java/lang/String" (some 0) with
  accessFlags := 49
  interfaces := #[2, 3, 4, 5, 6]
  cf := some (fileOf pool7 10 #[.nestMembers #[1103]] #[{ accessFlags := 1, nameIndex := 5, descriptorIndex := 6, attributes := #[] }, { accessFlags := 1, nameIndex := 5, descriptorIndex := 1233, attributes := #[] }, { accessFlags := 1, nameIndex := 507, descriptorIndex := 334, attributes := #[] }, { accessFlags := 1, nameIndex := 497, descriptorIndex := 427, attributes := #[] }, { accessFlags := 1, nameIndex := 683, descriptorIndex := 684, attributes := #[] }, { accessFlags := 9, nameIndex := 782, descriptorIndex := 783, attributes := #[] }, { accessFlags := 0, nameIndex := 5, descriptorIndex := 491, attributes := #[] }, { accessFlags := 0, nameIndex := 5, descriptorIndex := 211, attributes := #[] }, { accessFlags := 0, nameIndex := 17, descriptorIndex := 337, attributes := #[] }, { accessFlags := 0, nameIndex := 494, descriptorIndex := 142, attributes := #[] }, { accessFlags := 8, nameIndex := 501, descriptorIndex := 391, attributes := #[] }, { accessFlags := 8, nameIndex := 523, descriptorIndex := 524, attributes := #[] }] 49 2 #[1106, 1108, 575, 1110, 1112] #[{ accessFlags := 18, nameIndex := 13, descriptorIndex := 14, attributes := #[] }, { accessFlags := 18, nameIndex := 17, descriptorIndex := 18, attributes := #[] }, { accessFlags := 2, nameIndex := 21, descriptorIndex := 22, attributes := #[] }, { accessFlags := 2, nameIndex := 25, descriptorIndex := 26, attributes := #[] }, { accessFlags := 26, nameIndex := 1116, descriptorIndex := 1117, attributes := #[] }, { accessFlags := 24, nameIndex := 40, descriptorIndex := 26, attributes := #[] }, { accessFlags := 26, nameIndex := 1101, descriptorIndex := 1102, attributes := #[] }, { accessFlags := 26, nameIndex := 1121, descriptorIndex := 1122, attributes := #[] }, { accessFlags := 25, nameIndex := 599, descriptorIndex := 600, attributes := #[] }, { accessFlags := 24, nameIndex := 1125, descriptorIndex := 18, attributes := #[] }, { accessFlags := 24, nameIndex := 1127, descriptorIndex := 18, attributes := #[] }])
  fields := #[{ name := "value", type := (.array .byte), accessFlags := 18, slot := 0, constantValue := 0 }, { name := "coder", type := .byte, accessFlags := 18, slot := 1, constantValue := 0 }, { name := "hash", type := .int, accessFlags := 2, slot := 2, constantValue := 0 }, { name := "hashIsZero", type := .boolean, accessFlags := 2, slot := 3, constantValue := 0 }, { name := "serialVersionUID", type := .long, accessFlags := 26, slot := 0, constantValue := 0 }, { name := "COMPACT_STRINGS", type := .boolean, accessFlags := 24, slot := 1, constantValue := 0 }, { name := "serialPersistentFields", type := (.array (.object "java/io/ObjectStreamField")), accessFlags := 26, slot := 2, constantValue := 0 }, { name := "REPL", type := .char, accessFlags := 26, slot := 3, constantValue := 0 }, { name := "CASE_INSENSITIVE_ORDER", type := (.object "java/util/Comparator"), accessFlags := 25, slot := 4, constantValue := 0 }, { name := "LATIN1", type := .byte, accessFlags := 24, slot := 5, constantValue := 0 }, { name := "UTF16", type := .byte, accessFlags := 24, slot := 6, constantValue := 0 }]
  methods := #[k7m0, k7m1, k7m2, k7m3, k7m4, k7m5, k7m6, k7m7, k7m8, k7m9, k7m10, k7m11]
  instanceTypes := #[(.array .byte), .byte, .int, .boolean]
  staticTypes := #[.long, .boolean, (.array (.object "java/io/ObjectStreamField")), .char, (.object "java/util/Comparator"), .byte, .byte]
  resolved := Array.replicate 1451 none
  statics := some 0 }

def pool8 : Array CpInfo := pool [(1, .methodref 2 3), (0, .class_ 4), (0, .nameAndType 5 6), (0, u "java/lang/Object"), (0, u "<init>"), (0, u "()V"), (0, .class_ 8), (0, u "java/lang/Record")] 13

def k8c0 : Code := { maxStack := 1, maxLocals := 1, code := jdk_30_method_1_code, exceptionTable := #[], attributes := #[] }
def k8m0 : Method := { name := "<init>", desc := "()V", sig := { parameters := [], returnType := none }, accessFlags := 4, code := some k8c0 }
/-- java/lang/Record -/
def k8 : Class := { plain "java/lang/Record" (some 0) with
  accessFlags := 1057
  interfaces := #[]
  cf := some (fileOf pool8 7 #[] #[{ accessFlags := 4, nameIndex := 5, descriptorIndex := 6, attributes := #[] }] 1057 2 #[] #[])
  fields := #[]
  methods := #[k8m0]
  instanceTypes := #[]
  staticTypes := #[]
  resolved := Array.replicate 22 none
  statics := none }

def pool9 : Array CpInfo := pool [(1, .methodref 2 3), (0, .class_ 4), (0, .nameAndType 5 6), (0, u "java/lang/Record"), (0, u "<init>"), (0, u "()V"), (0, .fieldref 8 9), (0, .class_ 10), (0, .nameAndType 11 12), (0, u "com/example/idiolect/idiolect/internal/datetime/DateTimePatterns$Token"), (0, u "letter"), (0, u "C"), (0, .fieldref 8 14), (0, .nameAndType 15 16), (0, u "text"), (0, u "Ljava/lang/String;"), (0, .methodref 18 19), (0, .class_ 20), (0, .nameAndType 21 22), (0, u "java/lang/String"), (0, u "charAt"), (0, u "(I)C"), (0, .methodref 8 24), (0, .nameAndType 5 25), (0, u "(CLjava/lang/String;)V"), (2, u "isField"), (0, u "()Z"), (39, u "field"), (0, u "(Ljava/lang/String;)Lcom/example/idiolect/idiolect/internal/datetime/DateTimePatterns$Token;"), (0, u "literal"), (8, .class_ 81), (0, u "com/example/idiolect/idiolect/internal/datetime/DateTimePatterns")] 20

def k9c0 : Code := { maxStack := 2, maxLocals := 3, code := prog_79_method_1_code, exceptionTable := #[], attributes := #[] }
def k9m0 : Method := { name := "<init>", desc := "(CLjava/lang/String;)V", sig := { parameters := [.char, (.object "java/lang/String")], returnType := none }, accessFlags := 1, code := some k9c0 }
def k9c1 : Code := { maxStack := 4, maxLocals := 1, code := prog_79_method_2_code, exceptionTable := #[], attributes := #[] }
def k9m1 : Method := { name := "field", desc := "(Ljava/lang/String;)Lcom/example/idiolect/idiolect/internal/datetime/DateTimePatterns$Token;", sig := { parameters := [(.object "java/lang/String")], returnType := some (.object "com/example/idiolect/idiolect/internal/datetime/DateTimePatterns$Token") }, accessFlags := 8, code := some k9c1 }
def k9c2 : Code := { maxStack := 4, maxLocals := 1, code := prog_79_method_3_code, exceptionTable := #[], attributes := #[] }
def k9m2 : Method := { name := "literal", desc := "(Ljava/lang/String;)Lcom/example/idiolect/idiolect/internal/datetime/DateTimePatterns$Token;", sig := { parameters := [(.object "java/lang/String")], returnType := some (.object "com/example/idiolect/idiolect/internal/datetime/DateTimePatterns$Token") }, accessFlags := 8, code := some k9c2 }
def k9c3 : Code := { maxStack := 1, maxLocals := 1, code := prog_79_method_4_code, exceptionTable := #[], attributes := #[] }
def k9m3 : Method := { name := "isField", desc := "()Z", sig := { parameters := [], returnType := some .boolean }, accessFlags := 1, code := some k9c3 }
/-- com/example/idiolect/idiolect/internal/datetime/DateTimePatterns$Token -/
def k9 : Class := { plain "com/example/idiolect/idiolect/internal/datetime/DateTimePatterns$Token" (some 8) with
  accessFlags := 49
  interfaces := #[]
  cf := some (fileOf pool9 8 #[.nestHost 80] #[{ accessFlags := 1, nameIndex := 5, descriptorIndex := 25, attributes := #[] }, { accessFlags := 8, nameIndex := 69, descriptorIndex := 70, attributes := #[] }, { accessFlags := 8, nameIndex := 71, descriptorIndex := 70, attributes := #[] }, { accessFlags := 1, nameIndex := 28, descriptorIndex := 29, attributes := #[] }] 49 2 #[] #[{ accessFlags := 18, nameIndex := 11, descriptorIndex := 12, attributes := #[] }, { accessFlags := 18, nameIndex := 15, descriptorIndex := 16, attributes := #[] }])
  fields := #[{ name := "letter", type := .char, accessFlags := 18, slot := 0, constantValue := 0 }, { name := "text", type := (.object "java/lang/String"), accessFlags := 18, slot := 1, constantValue := 0 }]
  methods := #[k9m0, k9m1, k9m2, k9m3]
  instanceTypes := #[.char, (.object "java/lang/String")]
  staticTypes := #[]
  resolved := Array.replicate 102 none
  statics := none }

def pool10 : Array CpInfo := pool [(1, .class_ 2), (0, u "java/lang/String"), (1, .class_ 6), (1, u "java/lang/Object"), (0, u "<init>"), (0, u "()V"), (0, .methodref 1 10), (0, .nameAndType 11 12), (0, u "checkIndex"), (0, u "(II)V"), (1, .class_ 16), (1, u "java/lang/StringLatin1"), (36, u "([BI)C"), (36, u "canEncode"), (14, u "(C)Z"), (15, u "$assertionsDisabled"), (0, u "Z"), (98, .class_ 223), (1, u "java/lang/StringLatin1$LinesSpliterator"), (28, u "charAt"), (127, u "toBytes"), (1, u "(C)[B"), (7, .class_ 391), (0, u "java/lang/StringLatin1$CharsSpliterator")] 3

def k10m0 : Method := { name := "<init>", desc := "()V", sig := { parameters := [], returnType := none }, accessFlags := 0, code := none }
def k10c1 : Code := { maxStack := 2, maxLocals := 2, code := jdk_43_method_2_code, exceptionTable := #[], attributes := #[] }
def k10m1 : Method := { name := "charAt", desc := "([BI)C", sig := { parameters := [(.array .byte), .int], returnType := some .char }, accessFlags := 9, code := some k10c1 }
def k10c2 : Code := { maxStack := 2, maxLocals := 1, code := jdk_43_method_3_code, exceptionTable := #[], attributes := #[] }
def k10m2 : Method := { name := "canEncode", desc := "(C)Z", sig := { parameters := [.char], returnType := some .boolean }, accessFlags := 9, code := some k10c2 }
def k10c3 : Code := { maxStack := 4, maxLocals := 1, code := jdk_43_method_46_code, exceptionTable := #[], attributes := #[] }
def k10m3 : Method := { name := "toBytes", desc := "(C)[B", sig := { parameters := [.char], returnType := some (.array .byte) }, accessFlags := 9, code := some k10c3 }
/-- java/lang/StringLatin1 -/
def k10 : Class := { plain "java/lang/StringLatin1" (some 0) with
  accessFlags := 48
  interfaces := #[]
  cf := some (fileOf pool10 14 #[.nestMembers #[390, 221]] #[{ accessFlags := 0, nameIndex := 7, descriptorIndex := 8, attributes := #[] }, { accessFlags := 9, nameIndex := 252, descriptorIndex := 53, attributes := #[] }, { accessFlags := 9, nameIndex := 90, descriptorIndex := 105, attributes := #[] }, { accessFlags := 9, nameIndex := 380, descriptorIndex := 382, attributes := #[] }] 48 4 #[] #[{ accessFlags := 4120, nameIndex := 121, descriptorIndex := 122, attributes := #[] }])
  fields := #[{ name := "$assertionsDisabled", type := .boolean, accessFlags := 4120, slot := 0, constantValue := 0 }]
  methods := #[k10m0, k10m1, k10m2, k10m3]
  instanceTypes := #[]
  staticTypes := #[.boolean]
  resolved := Array.replicate 395 none
  statics := none }

def pool11 : Array CpInfo := pool [(2, .class_ 4), (0, .nameAndType 5 6), (0, u "java/lang/Object"), (0, u "<init>"), (0, u "()V"), (9, .class_ 18), (1, u "com/example/idiolect/idiolect/internal/datetime/DateTimePatterns"), (11, .class_ 32), (1, u "com/example/idiolect/idiolect/internal/datetime/DateTimePatterns$Length"), (14, .methodref 48 49), (0, .class_ 50), (0, .nameAndType 51 52), (0, u "java/lang/String"), (0, u "length"), (0, u "()I"), (7, .methodref 48 61), (0, .nameAndType 62 63), (0, u "substring"), (0, u "(II)Ljava/lang/String;"), (18, u "tokens"), (0, u "(Ljava/lang/String;)Ljava/util/List;"), (15, .class_ 101), (1, u "com/example/idiolect/idiolect/internal/datetime/DateTimePatterns$DateFields"), (5, .class_ 108), (0, u "java/util/ArrayList"), (0, .methodref 110 111), (0, .class_ 112), (0, .nameAndType 113 114), (0, u "com/example/idiolect/idiolect/internal/datetime/DateTimePatterns$Token"), (0, u "field"), (0, u "(Ljava/lang/String;)Lcom/example/idiolect/idiolect/internal/datetime/DateTimePatterns$Token;"), (1, .class_ 118), (1, u "java/util/List"), (31, .class_ 152), (1, u "com/example/idiolect/idiolect/internal/datetime/DateTimePatterns$Precision"), (18, u "(Ljava/lang/Object;)Z"), (13, .class_ 187), (1, u "com/example/idiolect/idiolect/internal/datetime/DateTimePatterns$ZoneStyle"), (11, .methodref 107 3), (0, .interfaceMethodref 116 201), (0, .nameAndType 202 171), (0, u "add"), (2, u "FALLBACKS"), (0, u "Ljava/util/ResourceBundle$Control;"), (39, u "()Ljava/lang/String;"), (14, .class_ 262), (0, u "java/lang/StringBuilder"), (0, .methodref 261 3), (0, .methodref 48 265), (0, .nameAndType 266 267), (0, u "charAt"), (0, u "(I)C"), (0, .methodref 261 269), (0, .nameAndType 270 271), (0, u "append"), (0, u "(C)Ljava/lang/StringBuilder;"), (0, .methodref 16 273), (0, .nameAndType 274 275), (0, u "addLiteral"), (0, u "(Ljava/util/List;Ljava/lang/StringBuilder;)V"), (0, .methodref 261 49), (0, .methodref 261 278), (0, .nameAndType 279 246), (0, u "toString"), (0, .methodref 110 281), (0, .nameAndType 282 114), (0, u "literal"), (0, .methodref 261 284), (0, .nameAndType 285 286), (0, u "setLength"), (0, u "(I)V"), (118, u "DATE_LETTERS"), (0, u "Ljava/lang/String;")] 74

def k11m0 : Method := { name := "<init>", desc := "()V", sig := { parameters := [], returnType := none }, accessFlags := 2, code := none }
def k11c1 : Code := { maxStack := 4, maxLocals := 6, code := prog_75_method_11_code, exceptionTable := #[], attributes := #[] }
def k11m1 : Method := { name := "tokens", desc := "(Ljava/lang/String;)Ljava/util/List;", sig := { parameters := [(.object "java/lang/String")], returnType := some (.object "java/util/List") }, accessFlags := 9, code := some k11c1 }
def k11c2 : Code := { maxStack := 2, maxLocals := 2, code := prog_75_method_12_code, exceptionTable := #[], attributes := #[] }
def k11m2 : Method := { name := "addLiteral", desc := "(Ljava/util/List;Ljava/lang/StringBuilder;)V", sig := { parameters := [(.object "java/util/List"), (.object "java/lang/StringBuilder")], returnType := none }, accessFlags := 10, code := some k11c2 }
/-- com/example/idiolect/idiolect/internal/datetime/DateTimePatterns -/
def k11 : Class := { plain "com/example/idiolect/idiolect/internal/datetime/DateTimePatterns" (some 0) with
  accessFlags := 49
  interfaces := #[]
  cf := some (fileOf pool11 16 #[.nestMembers #[110, 185, 150, 99, 30]] #[{ accessFlags := 2, nameIndex := 5, descriptorIndex := 6, attributes := #[] }, { accessFlags := 9, nameIndex := 82, descriptorIndex := 83, attributes := #[] }, { accessFlags := 10, nameIndex := 274, descriptorIndex := 275, attributes := #[] }] 49 2 #[] #[{ accessFlags := 26, nameIndex := 405, descriptorIndex := 406, attributes := #[] }, { accessFlags := 26, nameIndex := 205, descriptorIndex := 206, attributes := #[] }])
  fields := #[{ name := "DATE_LETTERS", type := (.object "java/lang/String"), accessFlags := 26, slot := 0, constantValue := 0 }, { name := "FALLBACKS", type := (.object "java/util/ResourceBundle$Control"), accessFlags := 26, slot := 1, constantValue := 0 }]
  methods := #[k11m0, k11m1, k11m2]
  instanceTypes := #[]
  staticTypes := #[(.object "java/lang/String"), (.object "java/util/ResourceBundle$Control")]
  resolved := Array.replicate 481 none
  statics := none }

def pool12 : Array CpInfo := pool [(8, .class_ 10), (1, u "java/lang/Iterable"), (24, .class_ 36), (0, u "java/lang/Object")] 25

/-- java/lang/Iterable -/
def k12 : Class := { plain "java/lang/Iterable" (some 0) with
  accessFlags := 1537
  interfaces := #[]
  cf := some (fileOf pool12 8 #[] #[] 1537 35 #[] #[])
  fields := #[]
  methods := #[]
  instanceTypes := #[]
  staticTypes := #[]
  resolved := Array.replicate 62 none
  statics := none }

def pool13 : Array CpInfo := pool [(10, .class_ 12), (1, u "java/util/Collection"), (47, .class_ 61), (0, u "java/lang/Object"), (0, .class_ 63), (0, u "java/lang/Iterable")] 51

/-- java/util/Collection -/
def k13 : Class := { plain "java/util/Collection" (some 0) with
  accessFlags := 1537
  interfaces := #[12]
  cf := some (fileOf pool13 10 #[] #[] 1537 60 #[62] #[])
  fields := #[]
  methods := #[]
  instanceTypes := #[]
  staticTypes := #[]
  resolved := Array.replicate 115 none
  statics := none }

def pool14 : Array CpInfo := pool [(1, .methodref 2 3), (0, .class_ 4), (0, .nameAndType 5 6), (0, u "java/lang/Object"), (0, u "<init>"), (0, u "()V"), (1, .class_ 10), (1, u "java/util/AbstractCollection"), (66, .class_ 78), (0, u "java/util/Collection")] 81

def k14c0 : Code := { maxStack := 1, maxLocals := 1, code := jdk_22_method_1_code, exceptionTable := #[], attributes := #[] }
def k14m0 : Method := { name := "<init>", desc := "()V", sig := { parameters := [], returnType := none }, accessFlags := 4, code := some k14c0 }
/-- java/util/AbstractCollection -/
def k14 : Class := { plain "java/util/AbstractCollection" (some 0) with
  accessFlags := 1057
  interfaces := #[13]
  cf := some (fileOf pool14 8 #[] #[{ accessFlags := 4, nameIndex := 5, descriptorIndex := 6, attributes := #[] }] 1057 2 #[77] #[])
  fields := #[]
  methods := #[k14m0]
  instanceTypes := #[]
  staticTypes := #[]
  resolved := Array.replicate 160 none
  statics := none }

def pool15 : Array CpInfo := pool [(8, .class_ 10), (1, u "java/util/SequencedCollection"), (15, .class_ 27), (0, u "java/lang/Object"), (0, .class_ 29), (0, u "java/util/Collection")] 27

/-- java/util/SequencedCollection -/
def k15 : Class := { plain "java/util/SequencedCollection" (some 0) with
  accessFlags := 1537
  interfaces := #[13]
  cf := some (fileOf pool15 8 #[] #[] 1537 26 #[28] #[])
  fields := #[]
  methods := #[]
  instanceTypes := #[]
  staticTypes := #[]
  resolved := Array.replicate 57 none
  statics := none }

def pool16 : Array CpInfo := pool [(8, .class_ 10), (1, u "java/util/List"), (49, u "add"), (3, u "(Ljava/lang/Object;)Z"), (10, u "get"), (0, u "(I)Ljava/lang/Object;"), (2, u "size"), (0, u "()I"), (22, .class_ 104), (0, u "java/lang/Object"), (15, .class_ 121), (0, u "java/util/SequencedCollection")] 129

def k16m0 : Method := { name := "size", desc := "()I", sig := { parameters := [], returnType := some .int }, accessFlags := 1025, code := none }
def k16m1 : Method := { name := "add", desc := "(Ljava/lang/Object;)Z", sig := { parameters := [(.object "java/lang/Object")], returnType := some .boolean }, accessFlags := 1025, code := none }
def k16m2 : Method := { name := "get", desc := "(I)Ljava/lang/Object;", sig := { parameters := [.int], returnType := some (.object "java/lang/Object") }, accessFlags := 1025, code := none }
/-- java/util/List -/
def k16 : Class := { plain "java/util/List" (some 0) with
  accessFlags := 1537
  interfaces := #[15]
  cf := some (fileOf pool16 8 #[] #[{ accessFlags := 1025, nameIndex := 79, descriptorIndex := 80, attributes := #[] }, { accessFlags := 1025, nameIndex := 60, descriptorIndex := 64, attributes := #[] }, { accessFlags := 1025, nameIndex := 75, descriptorIndex := 76, attributes := #[] }] 1537 103 #[120] #[])
  fields := #[]
  methods := #[k16m0, k16m1, k16m2]
  instanceTypes := #[]
  staticTypes := #[]
  resolved := Array.replicate 251 none
  statics := none }

def pool17 : Array CpInfo := pool [(1, .methodref 2 3), (0, .class_ 4), (0, .nameAndType 5 6), (0, u "java/util/AbstractCollection"), (0, u "<init>"), (0, u "()V"), (0, .fieldref 8 9), (0, .class_ 10), (0, .nameAndType 11 12), (0, u "java/util/AbstractList"), (0, u "modCount"), (0, u "I"), (64, .class_ 78), (0, u "java/util/AbstractList$Itr"), (3, .class_ 83), (0, u "java/util/AbstractList$ListItr"), (9, .class_ 94), (0, u "java/util/AbstractList$RandomAccessSubList"), (3, .class_ 99), (0, u "java/util/AbstractList$SubList"), (33, .class_ 134), (0, u "java/util/List"), (73, .class_ 209), (0, u "java/util/AbstractList$SubList$1"), (0, .class_ 211), (0, u "java/util/AbstractList$RandomAccessSpliterator")] 6

def k17c0 : Code := { maxStack := 2, maxLocals := 1, code := jdk_39_method_1_code, exceptionTable := #[], attributes := #[] }
def k17m0 : Method := { name := "<init>", desc := "()V", sig := { parameters := [], returnType := none }, accessFlags := 4, code := some k17c0 }
/-- java/util/AbstractList -/
def k17 : Class := { plain "java/util/AbstractList" (some 14) with
  accessFlags := 1057
  interfaces := #[16]
  cf := some (fileOf pool17 8 #[.nestMembers #[93, 98, 208, 210, 82, 77]] #[{ accessFlags := 4, nameIndex := 5, descriptorIndex := 6, attributes := #[] }] 1057 2 #[133] #[{ accessFlags := 132, nameIndex := 11, descriptorIndex := 12, attributes := #[] }])
  fields := #[{ name := "modCount", type := .int, accessFlags := 132, slot := 0, constantValue := 0 }]
  methods := #[k17m0]
  instanceTypes := #[.int]
  staticTypes := #[]
  resolved := Array.replicate 218 none
  statics := none }

def pool18 : Array CpInfo := pool [(1, .class_ 2), (0, u "java/util/RandomAccess"), (0, .class_ 4), (0, u "java/lang/Object")] 2

/-- java/util/RandomAccess -/
def k18 : Class := { plain "java/util/RandomAccess" (some 0) with
  accessFlags := 1537
  interfaces := #[]
  cf := some (fileOf pool18 1 #[] #[] 1537 3 #[] #[])
  fields := #[]
  methods := #[]
  instanceTypes := #[]
  staticTypes := #[]
  resolved := Array.replicate 7 none
  statics := none }

def pool19 : Array CpInfo := pool [(1, .class_ 2), (0, u "java/lang/Cloneable"), (0, .class_ 4), (0, u "java/lang/Object")] 2

/-- java/lang/Cloneable -/
def k19 : Class := { plain "java/lang/Cloneable" (some 0) with
  accessFlags := 1537
  interfaces := #[]
  cf := some (fileOf pool19 1 #[] #[] 1537 3 #[] #[])
  fields := #[]
  methods := #[]
  instanceTypes := #[]
  staticTypes := #[]
  resolved := Array.replicate 7 none
  statics := none }

def pool20 : Array CpInfo := pool [(1, .methodref 2 3), (0, .class_ 4), (0, .nameAndType 5 6), (0, u "java/util/AbstractList"), (0, u "<init>"), (0, u "()V"), (0, .class_ 8), (0, u "java/lang/Object"), (0, .fieldref 10 11), (0, .class_ 12), (0, .nameAndType 13 14), (0, u "java/util/ArrayList"), (0, u "elementData"), (0, u "[Ljava/lang/Object;"), (2, u "EMPTY_ELEMENTDATA"), (21, .fieldref 10 40), (0, .nameAndType 41 14), (0, u "DEFAULTCAPACITY_EMPTY_ELEMENTDATA"), (5, u "()[Ljava/lang/Object;"), (0, .fieldref 10 49), (0, .nameAndType 50 51), (0, u "size"), (0, u "I"), (11, .fieldref 10 64), (0, .nameAndType 65 51), (0, u "modCount"), (3, .methodref 10 70), (0, .nameAndType 71 72), (0, u "grow"), (0, u "(I)[Ljava/lang/Object;"), (6, .methodref 80 81), (0, .class_ 82), (0, .nameAndType 83 84), (0, u "java/lang/Math"), (0, u "max"), (0, u "(II)I"), (11, u "(Ljava/lang/Object;)Z"), (21, .methodref 119 120), (0, .class_ 121), (0, .nameAndType 122 84), (0, u "java/util/Objects"), (0, u "checkIndex"), (0, .methodref 10 124), (0, .nameAndType 13 125), (0, u "(I)Ljava/lang/Object;"), (3, .methodref 10 130), (0, .nameAndType 71 47), (0, .methodref 10 132), (0, .nameAndType 133 134), (0, u "add"), (0, u "(Ljava/lang/Object;[Ljava/lang/Object;I)V"), (13, .class_ 149), (0, u "java/util/List"), (36, u "()I"), (75, .class_ 263), (0, u "java/util/ArrayList$ListItr"), (3, .class_ 268), (0, u "java/util/ArrayList$Itr"), (7, .class_ 277), (0, u "java/util/ArrayList$SubList"), (12, .class_ 291), (0, u "java/util/ArrayList$ArrayListSpliterator"), (37, .class_ 330), (0, u "java/util/RandomAccess"), (0, .class_ 332), (0, u "java/lang/Cloneable"), (0, .class_ 334), (0, u "java/io/Serializable"), (0, u "serialVersionUID"), (0, u "J"), (3, u "DEFAULT_CAPACITY"), (40, u "get"), (118, .class_ 501), (0, u "java/util/ArrayList$SubList$2"), (0, .class_ 503), (0, u "java/util/ArrayList$SubList$1")] 5

def k20c0 : Code := { maxStack := 2, maxLocals := 1, code := jdk_38_method_2_code, exceptionTable := #[], attributes := #[] }
def k20m0 : Method := { name := "<init>", desc := "()V", sig := { parameters := [], returnType := none }, accessFlags := 1, code := some k20c0 }
def k20c1 : Code := { maxStack := 4, maxLocals := 4, code := jdk_38_method_6_code, exceptionTable := #[], attributes := #[] }
def k20m1 : Method := { name := "grow", desc := "(I)[Ljava/lang/Object;", sig := { parameters := [.int], returnType := some (.array (.object "java/lang/Object")) }, accessFlags := 2, code := some k20c1 }
def k20c2 : Code := { maxStack := 3, maxLocals := 1, code := jdk_38_method_7_code, exceptionTable := #[], attributes := #[] }
def k20m2 : Method := { name := "grow", desc := "()[Ljava/lang/Object;", sig := { parameters := [], returnType := some (.array (.object "java/lang/Object")) }, accessFlags := 2, code := some k20c2 }
def k20c3 : Code := { maxStack := 1, maxLocals := 1, code := jdk_38_method_8_code, exceptionTable := #[], attributes := #[] }
def k20m3 : Method := { name := "size", desc := "()I", sig := { parameters := [], returnType := some .int }, accessFlags := 1, code := some k20c3 }
def k20c4 : Code := { maxStack := 2, maxLocals := 2, code := jdk_38_method_18_code, exceptionTable := #[], attributes := #[] }
def k20m4 : Method := { name := "elementData", desc := "(I)Ljava/lang/Object;", sig := { parameters := [.int], returnType := some (.object "java/lang/Object") }, accessFlags := 0, code := some k20c4 }
def k20c5 : Code := { maxStack := 2, maxLocals := 2, code := jdk_38_method_20_code, exceptionTable := #[], attributes := #[] }
def k20m5 : Method := { name := "get", desc := "(I)Ljava/lang/Object;", sig := { parameters := [.int], returnType := some (.object "java/lang/Object") }, accessFlags := 1, code := some k20c5 }
def k20c6 : Code := { maxStack := 3, maxLocals := 4, code := jdk_38_method_24_code, exceptionTable := #[], attributes := #[] }
def k20m6 : Method := { name := "add", desc := "(Ljava/lang/Object;[Ljava/lang/Object;I)V", sig := { parameters := [(.object "java/lang/Object"), (.array (.object "java/lang/Object")), .int], returnType := none }, accessFlags := 2, code := some k20c6 }
def k20c7 : Code := { maxStack := 4, maxLocals := 2, code := jdk_38_method_25_code, exceptionTable := #[], attributes := #[] }
def k20m7 : Method := { name := "add", desc := "(Ljava/lang/Object;)Z", sig := { parameters := [(.object "java/lang/Object")], returnType := some .boolean }, accessFlags := 1, code := some k20c7 }
/-- java/util/ArrayList -/
def k20 : Class := { plain "java/util/ArrayList" (some 17) with
  accessFlags := 33
  interfaces := #[16, 18, 19, 2]
  cf := some (fileOf pool20 10 #[.nestMembers #[290, 276, 500, 502, 262, 267]] #[{ accessFlags := 1, nameIndex := 5, descriptorIndex := 6, attributes := #[] }, { accessFlags := 2, nameIndex := 71, descriptorIndex := 72, attributes := #[] }, { accessFlags := 2, nameIndex := 71, descriptorIndex := 47, attributes := #[] }, { accessFlags := 1, nameIndex := 50, descriptorIndex := 186, attributes := #[] }, { accessFlags := 0, nameIndex := 13, descriptorIndex := 125, attributes := #[] }, { accessFlags := 1, nameIndex := 381, descriptorIndex := 125, attributes := #[] }, { accessFlags := 2, nameIndex := 133, descriptorIndex := 134, attributes := #[] }, { accessFlags := 1, nameIndex := 133, descriptorIndex := 96, attributes := #[] }] 33 2 #[148, 329, 331, 333] #[{ accessFlags := 26, nameIndex := 335, descriptorIndex := 336, attributes := #[] }, { accessFlags := 26, nameIndex := 340, descriptorIndex := 51, attributes := #[] }, { accessFlags := 26, nameIndex := 17, descriptorIndex := 14, attributes := #[] }, { accessFlags := 26, nameIndex := 41, descriptorIndex := 14, attributes := #[] }, { accessFlags := 128, nameIndex := 13, descriptorIndex := 14, attributes := #[] }, { accessFlags := 2, nameIndex := 50, descriptorIndex := 51, attributes := #[] }])
  fields := #[{ name := "serialVersionUID", type := .long, accessFlags := 26, slot := 0, constantValue := 0 }, { name := "DEFAULT_CAPACITY", type := .int, accessFlags := 26, slot := 1, constantValue := 0 }, { name := "EMPTY_ELEMENTDATA", type := (.array (.object "java/lang/Object")), accessFlags := 26, slot := 2, constantValue := 0 }, { name := "DEFAULTCAPACITY_EMPTY_ELEMENTDATA", type := (.array (.object "java/lang/Object")), accessFlags := 26, slot := 3, constantValue := 0 }, { name := "elementData", type := (.array (.object "java/lang/Object")), accessFlags := 128, slot := 1, constantValue := 0 }, { name := "size", type := .int, accessFlags := 2, slot := 2, constantValue := 0 }]
  methods := #[k20m0, k20m1, k20m2, k20m3, k20m4, k20m5, k20m6, k20m7]
  instanceTypes := #[.int, (.array (.object "java/lang/Object")), .int]
  staticTypes := #[.long, .int, (.array (.object "java/lang/Object")), (.array (.object "java/lang/Object"))]
  resolved := Array.replicate 509 none
  statics := some 1 }

def pool21 : Array CpInfo := pool [(1, .class_ 2), (0, u "java/lang/Appendable"), (0, .class_ 4), (0, u "java/lang/Object")] 9

/-- java/lang/Appendable -/
def k21 : Class := { plain "java/lang/Appendable" (some 0) with
  accessFlags := 1537
  interfaces := #[]
  cf := some (fileOf pool21 1 #[] #[] 1537 3 #[] #[])
  fields := #[]
  methods := #[]
  instanceTypes := #[]
  staticTypes := #[]
  resolved := Array.replicate 14 none
  statics := none }

def pool22 : Array CpInfo := pool [(1, .class_ 2), (0, u "java/lang/String"), (0, .methodref 4 5), (0, .class_ 6), (0, .nameAndType 7 8), (0, u "java/lang/Object"), (0, u "<init>"), (0, u "()V"), (1, .class_ 12), (1, u "java/lang/AbstractStringBuilder"), (0, u "EMPTYVALUE"), (0, u "[B"), (0, .fieldref 10 16), (0, .nameAndType 17 14), (0, u "value"), (0, .fieldref 1 19), (0, .nameAndType 20 21), (0, u "COMPACT_STRINGS"), (0, u "Z"), (0, .fieldref 10 23), (0, .nameAndType 24 25), (0, u "coder"), (0, u "B"), (8, u "length"), (0, u "()I"), (9, u "append"), (2, .class_ 49), (0, u "java/lang/CharSequence"), (23, .fieldref 10 74), (0, .nameAndType 75 21), (0, u "maybeLatin1"), (3, .fieldref 10 80), (0, .nameAndType 81 82), (0, u "count"), (0, u "I"), (0, .methodref 10 84), (0, .nameAndType 85 86), (0, u "isLatin1"), (0, u "()Z"), (1, .class_ 90), (1, u "java/lang/StringLatin1"), (9, .methodref 10 101), (0, .nameAndType 102 103), (0, u "ensureCapacityInternal"), (0, u "(I)V"), (87, .methodref 88 192), (0, .nameAndType 193 194), (0, u "canEncode"), (0, u "(C)Z"), (97, u "(C)Ljava/lang/AbstractStringBuilder;"), (110, u "()[B"), (40, .class_ 445), (0, u "java/lang/Appendable"), (30, u "setLength"), (75, u "getValue")] 56

def k22m0 : Method := { name := "<init>", desc := "()V", sig := { parameters := [], returnType := none }, accessFlags := 0, code := none }
def k22c1 : Code := { maxStack := 2, maxLocals := 2, code := jdk_68_method_2_code, exceptionTable := #[], attributes := #[] }
def k22m1 : Method := { name := "<init>", desc := "(I)V", sig := { parameters := [.int], returnType := none }, accessFlags := 0, code := some k22c1 }
def k22c2 : Code := { maxStack := 1, maxLocals := 1, code := jdk_68_method_6_code, exceptionTable := #[], attributes := #[] }
def k22m2 : Method := { name := "length", desc := "()I", sig := { parameters := [], returnType := some .int }, accessFlags := 1, code := some k22c2 }
def k22c3 : Code := { maxStack := 4, maxLocals := 3, code := jdk_68_method_9_code, exceptionTable := #[], attributes := #[] }
def k22m3 : Method := { name := "ensureCapacityInternal", desc := "(I)V", sig := { parameters := [.int], returnType := none }, accessFlags := 2, code := some k22c3 }
def k22c4 : Code := { maxStack := 3, maxLocals := 2, code := jdk_68_method_13_code, exceptionTable := #[], attributes := #[] }
def k22m4 : Method := { name := "setLength", desc := "(I)V", sig := { parameters := [.int], returnType := none }, accessFlags := 1, code := some k22c4 }
def k22c5 : Code := { maxStack := 5, maxLocals := 2, code := jdk_68_method_31_code, exceptionTable := #[], attributes := #[] }
def k22m5 : Method := { name := "append", desc := "(C)Ljava/lang/AbstractStringBuilder;", sig := { parameters := [.char], returnType := some (.object "java/lang/AbstractStringBuilder") }, accessFlags := 1, code := some k22c5 }
def k22c6 : Code := { maxStack := 1, maxLocals := 1, code := jdk_68_method_64_code, exceptionTable := #[], attributes := #[] }
def k22m6 : Method := { name := "getValue", desc := "()[B", sig := { parameters := [], returnType := some (.array .byte) }, accessFlags := 16, code := some k22c6 }
def k22c7 : Code := { maxStack := 1, maxLocals := 1, code := jdk_68_method_68_code, exceptionTable := #[], attributes := #[] }
def k22m7 : Method := { name := "isLatin1", desc := "()Z", sig := { parameters := [], returnType := some .boolean }, accessFlags := 16, code := some k22c7 }
/-- java/lang/AbstractStringBuilder -/
def k22 : Class := { plain "java/lang/AbstractStringBuilder" (some 0) with
  accessFlags := 1056
  interfaces := #[21, 4]
  cf := some (fileOf pool22 10 #[] #[{ accessFlags := 0, nameIndex := 7, descriptorIndex := 8, attributes := #[] }, { accessFlags := 0, nameIndex := 7, descriptorIndex := 103, attributes := #[] }, { accessFlags := 1, nameIndex := 34, descriptorIndex := 35, attributes := #[] }, { accessFlags := 2, nameIndex := 102, descriptorIndex := 103, attributes := #[] }, { accessFlags := 1, nameIndex := 476, descriptorIndex := 103, attributes := #[] }, { accessFlags := 1, nameIndex := 45, descriptorIndex := 292, attributes := #[] }, { accessFlags := 16, nameIndex := 552, descriptorIndex := 403, attributes := #[] }, { accessFlags := 16, nameIndex := 85, descriptorIndex := 86, attributes := #[] }] 1056 4 #[444, 48] #[{ accessFlags := 0, nameIndex := 17, descriptorIndex := 14, attributes := #[] }, { accessFlags := 0, nameIndex := 24, descriptorIndex := 25, attributes := #[] }, { accessFlags := 0, nameIndex := 75, descriptorIndex := 21, attributes := #[] }, { accessFlags := 0, nameIndex := 81, descriptorIndex := 82, attributes := #[] }, { accessFlags := 26, nameIndex := 13, descriptorIndex := 14, attributes := #[] }])
  fields := #[{ name := "value", type := (.array .byte), accessFlags := 0, slot := 0, constantValue := 0 }, { name := "coder", type := .byte, accessFlags := 0, slot := 1, constantValue := 0 }, { name := "maybeLatin1", type := .boolean, accessFlags := 0, slot := 2, constantValue := 0 }, { name := "count", type := .int, accessFlags := 0, slot := 3, constantValue := 0 }, { name := "EMPTYVALUE", type := (.array .byte), accessFlags := 26, slot := 0, constantValue := 0 }]
  methods := #[k22m0, k22m1, k22m2, k22m3, k22m4, k22m5, k22m6, k22m7]
  instanceTypes := #[(.array .byte), .byte, .boolean, .int]
  staticTypes := #[(.array .byte)]
  resolved := Array.replicate 609 none
  statics := none }

def pool23 : Array CpInfo := pool [(1, .methodref 2 3), (0, .class_ 4), (0, .nameAndType 5 6), (0, u "java/lang/AbstractStringBuilder"), (0, u "<init>"), (0, u "(I)V"), (11, .class_ 20), (1, u "java/lang/String"), (3, .class_ 26), (1, u "java/lang/StringBuilder"), (0, u "append"), (22, .methodref 2 51), (0, .nameAndType 27 52), (0, u "(C)Ljava/lang/AbstractStringBuilder;"), (84, .methodref 18 138), (0, .nameAndType 5 139), (0, u "(Ljava/lang/StringBuilder;)V"), (5, u "()V"), (10, u "()I"), (129, u "(C)Ljava/lang/StringBuilder;"), (46, .methodref 2 334), (0, .nameAndType 335 6), (0, u "setLength"), (7, .methodref 2 344), (0, .nameAndType 345 156), (0, u "length"), (3, .class_ 350), (0, u "java/lang/Appendable"), (0, .class_ 352), (0, u "java/io/Serializable"), (0, .class_ 354), (0, u "java/lang/Comparable"), (0, .class_ 356), (0, u "java/lang/CharSequence"), (0, u "serialVersionUID"), (0, u "J"), (40, u "toString"), (0, u "()Ljava/lang/String;")] 21

def k23c0 : Code := { maxStack := 2, maxLocals := 1, code := jdk_67_method_1_code, exceptionTable := #[], attributes := #[] }
def k23m0 : Method := { name := "<init>", desc := "()V", sig := { parameters := [], returnType := none }, accessFlags := 1, code := some k23c0 }
def k23c1 : Code := { maxStack := 2, maxLocals := 2, code := jdk_67_method_14_code, exceptionTable := #[], attributes := #[] }
def k23m1 : Method := { name := "append", desc := "(C)Ljava/lang/StringBuilder;", sig := { parameters := [.char], returnType := some (.object "java/lang/StringBuilder") }, accessFlags := 1, code := some k23c1 }
def k23c2 : Code := { maxStack := 3, maxLocals := 1, code := jdk_67_method_42_code, exceptionTable := #[], attributes := #[] }
def k23m2 : Method := { name := "toString", desc := "()Ljava/lang/String;", sig := { parameters := [], returnType := some (.object "java/lang/String") }, accessFlags := 1, code := some k23c2 }
def k23c3 : Code := { maxStack := 2, maxLocals := 2, code := jdk_67_method_89_code, exceptionTable := #[], attributes := #[] }
def k23m3 : Method := { name := "setLength", desc := "(I)V", sig := { parameters := [.int], returnType := none }, accessFlags := 4161, code := some k23c3 }
def k23c4 : Code := { maxStack := 1, maxLocals := 1, code := jdk_67_method_93_code, exceptionTable := #[], attributes := #[] }
def k23m4 : Method := { name := "length", desc := "()I", sig := { parameters := [], returnType := some .int }, accessFlags := 4161, code := some k23c4 }
/-- java/lang/StringBuilder -/
def k23 : Class := { plain "java/lang/StringBuilder" (some 22) with
  accessFlags := 49
  interfaces := #[21, 2, 3, 4]
  cf := some (fileOf pool23 24 #[] #[{ accessFlags := 1, nameIndex := 5, descriptorIndex := 145, attributes := #[] }, { accessFlags := 1, nameIndex := 27, descriptorIndex := 286, attributes := #[] }, { accessFlags := 1, nameIndex := 399, descriptorIndex := 400, attributes := #[] }, { accessFlags := 4161, nameIndex := 335, descriptorIndex := 6, attributes := #[] }, { accessFlags := 4161, nameIndex := 345, descriptorIndex := 156, attributes := #[] }] 49 2 #[349, 351, 353, 355] #[{ accessFlags := 24, nameIndex := 357, descriptorIndex := 358, attributes := #[] }])
  fields := #[{ name := "serialVersionUID", type := .long, accessFlags := 24, slot := 0, constantValue := 0 }]
  methods := #[k23m0, k23m1, k23m2, k23m3, k23m4]
  instanceTypes := #[(.array .byte), .byte, .boolean, .int]
  staticTypes := #[.long]
  resolved := Array.replicate 422 none
  statics := none }

def pool24 : Array CpInfo := pool [(2, .class_ 4), (1, u "java/lang/Object"), (0, u "<init>"), (0, u "()V"), (17, .class_ 26), (1, u "jdk/internal/util/Preconditions"), (6, u "checkIndex"), (13, u "checkFromToIndex"), (7, .class_ 56), (0, u "jdk/internal/util/Preconditions$4"), (57, .class_ 115), (0, u "jdk/internal/util/Preconditions$1"), (7, u "SIOOBE_FORMATTER"), (0, u "Ljava/util/function/BiFunction;"), (0, .class_ 126), (0, u "jdk/internal/util/Preconditions$2"), (3, u "AIOOBE_FORMATTER"), (0, .class_ 132), (0, u "jdk/internal/util/Preconditions$3"), (3, u "IOOBE_FORMATTER"), (41, u "(IILjava/util/function/BiFunction;)I"), (4, u "(IIILjava/util/function/BiFunction;)I")] 10

def k24m0 : Method := { name := "<init>", desc := "()V", sig := { parameters := [], returnType := none }, accessFlags := 1, code := none }
def k24c1 : Code := { maxStack := 3, maxLocals := 3, code := jdk_41_method_11_code, exceptionTable := #[], attributes := #[] }
def k24m1 : Method := { name := "checkIndex", desc := "(IILjava/util/function/BiFunction;)I", sig := { parameters := [.int, .int, (.object "java/util/function/BiFunction")], returnType := some .int }, accessFlags := 9, code := some k24c1 }
def k24c2 : Code := { maxStack := 4, maxLocals := 4, code := jdk_41_method_12_code, exceptionTable := #[], attributes := #[] }
def k24m2 : Method := { name := "checkFromToIndex", desc := "(IIILjava/util/function/BiFunction;)I", sig := { parameters := [.int, .int, .int, (.object "java/util/function/BiFunction")], returnType := some .int }, accessFlags := 9, code := some k24c2 }
/-- jdk/internal/util/Preconditions -/
def k24 : Class := { plain "jdk/internal/util/Preconditions" (some 0) with
  accessFlags := 33
  interfaces := #[]
  cf := some (fileOf pool24 24 #[.nestMembers #[55, 131, 125, 114]] #[{ accessFlags := 1, nameIndex := 5, descriptorIndex := 6, attributes := #[] }, { accessFlags := 9, nameIndex := 33, descriptorIndex := 178, attributes := #[] }, { accessFlags := 9, nameIndex := 47, descriptorIndex := 183, attributes := #[] }] 33 2 #[] #[{ accessFlags := 25, nameIndex := 123, descriptorIndex := 124, attributes := #[] }, { accessFlags := 25, nameIndex := 130, descriptorIndex := 124, attributes := #[] }, { accessFlags := 25, nameIndex := 136, descriptorIndex := 124, attributes := #[] }])
  fields := #[{ name := "SIOOBE_FORMATTER", type := (.object "java/util/function/BiFunction"), accessFlags := 25, slot := 0, constantValue := 0 }, { name := "AIOOBE_FORMATTER", type := (.object "java/util/function/BiFunction"), accessFlags := 25, slot := 1, constantValue := 0 }, { name := "IOOBE_FORMATTER", type := (.object "java/util/function/BiFunction"), accessFlags := 25, slot := 2, constantValue := 0 }]
  methods := #[k24m0, k24m1, k24m2]
  instanceTypes := #[]
  staticTypes := #[(.object "java/util/function/BiFunction"), (.object "java/util/function/BiFunction"), (.object "java/util/function/BiFunction")]
  resolved := Array.replicate 194 none
  statics := some 2 }

def pool25 : Array CpInfo := pool [(2, .class_ 4), (1, u "java/lang/Object"), (0, u "<init>"), (0, u "()V"), (7, .class_ 16), (1, u "java/util/Arrays"), (57, .class_ 76), (1, u "java/util/Arrays$NaturalOrder"), (36, .class_ 115), (1, u "java/util/Arrays$LegacyMergeSort"), (1, u "Z"), (21, u "copyOfRange"), (10, .methodref 151 152), (0, .class_ 153), (0, .nameAndType 154 155), (0, u "java/lang/System"), (0, u "arraycopy"), (0, u "(Ljava/lang/Object;ILjava/lang/Object;II)V"), (148, .methodref 305 306), (0, .class_ 307), (0, .nameAndType 308 309), (0, u "java/lang/Math"), (0, u "min"), (0, u "(II)I"), (29, .methodref 14 340), (0, .nameAndType 341 342), (0, u "copyOfRangeByte"), (0, u "([BII)[B"), (0, .methodref 14 344), (0, .nameAndType 345 346), (0, u "checkLength"), (0, u "(II)V"), (28, .class_ 376), (0, u "java/util/Arrays$ArrayList"), (68, u "$assertionsDisabled"), (269, u "MIN_ARRAY_SORT_GRAN"), (0, u "I"), (2, u "INSERTIONSORT_THRESHOLD"), (255, .class_ 976), (0, u "java/util/Arrays$ArrayItr")] 52

def k25m0 : Method := { name := "<init>", desc := "()V", sig := { parameters := [], returnType := none }, accessFlags := 2, code := none }
def k25c1 : Code := { maxStack := 4, maxLocals := 2, code := jdk_65_method_131_code, exceptionTable := #[], attributes := #[] }
def k25m1 : Method := { name := "checkLength", desc := "(II)V", sig := { parameters := [.int, .int], returnType := none }, accessFlags := 10, code := some k25c1 }
def k25c2 : Code := { maxStack := 3, maxLocals := 3, code := jdk_65_method_132_code, exceptionTable := #[], attributes := #[] }
def k25m2 : Method := { name := "copyOfRange", desc := "([BII)[B", sig := { parameters := [(.array .byte), .int, .int], returnType := some (.array .byte) }, accessFlags := 9, code := some k25c2 }
def k25c3 : Code := { maxStack := 6, maxLocals := 5, code := jdk_65_method_133_code, exceptionTable := #[], attributes := #[] }
def k25m3 : Method := { name := "copyOfRangeByte", desc := "([BII)[B", sig := { parameters := [(.array .byte), .int, .int], returnType := some (.array .byte) }, accessFlags := 10, code := some k25c3 }
/-- java/util/Arrays -/
def k25 : Class := { plain "java/util/Arrays" (some 0) with
  accessFlags := 49
  interfaces := #[]
  cf := some (fileOf pool25 14 #[.nestMembers #[975, 375, 113, 74]] #[{ accessFlags := 2, nameIndex := 5, descriptorIndex := 6, attributes := #[] }, { accessFlags := 10, nameIndex := 345, descriptorIndex := 346, attributes := #[] }, { accessFlags := 9, nameIndex := 139, descriptorIndex := 342, attributes := #[] }, { accessFlags := 10, nameIndex := 341, descriptorIndex := 342, attributes := #[] }] 49 2 #[] #[{ accessFlags := 26, nameIndex := 715, descriptorIndex := 716, attributes := #[] }, { accessFlags := 26, nameIndex := 719, descriptorIndex := 716, attributes := #[] }, { accessFlags := 4120, nameIndex := 445, descriptorIndex := 117, attributes := #[] }])
  fields := #[{ name := "MIN_ARRAY_SORT_GRAN", type := .int, accessFlags := 26, slot := 0, constantValue := 0 }, { name := "INSERTIONSORT_THRESHOLD", type := .int, accessFlags := 26, slot := 1, constantValue := 0 }, { name := "$assertionsDisabled", type := .boolean, accessFlags := 4120, slot := 2, constantValue := 0 }]
  methods := #[k25m0, k25m1, k25m2, k25m3]
  instanceTypes := #[]
  staticTypes := #[.int, .int, .boolean]
  resolved := Array.replicate 1029 none
  statics := none }

def pool26 : Array CpInfo := pool [(1, .class_ 2), (0, u "java/lang/Math"), (1, .class_ 6), (1, u "java/lang/Object"), (0, u "<init>"), (0, u "()V"), (89, .class_ 100), (1, u "java/lang/Math$RandomNumberGeneratorHolder"), (71, u "negativeZeroFloatBits"), (0, u "J"), (2, u "negativeZeroDoubleBits"), (21, u "max"), (2, u "min"), (43, u "$assertionsDisabled"), (0, u "Z"), (88, u "(II)I"), (2, u "twoToTheDoubleScaleDown"), (0, u "D"), (4, u "twoToTheDoubleScaleUp"), (9, u "E"), (3, u "PI"), (2, u "TAU"), (2, u "DEGREES_TO_RADIANS"), (0, u "RADIANS_TO_DEGREES")] 94

def k26m0 : Method := { name := "<init>", desc := "()V", sig := { parameters := [], returnType := none }, accessFlags := 2, code := none }
def k26c1 : Code := { maxStack := 2, maxLocals := 2, code := jdk_29_method_65_code, exceptionTable := #[], attributes := #[] }
def k26m1 : Method := { name := "max", desc := "(II)I", sig := { parameters := [.int, .int], returnType := some .int }, accessFlags := 9, code := some k26c1 }
def k26c2 : Code := { maxStack := 2, maxLocals := 2, code := jdk_29_method_69_code, exceptionTable := #[], attributes := #[] }
def k26m2 : Method := { name := "min", desc := "(II)I", sig := { parameters := [.int, .int], returnType := some .int }, accessFlags := 9, code := some k26c2 }
/-- java/lang/Math -/
def k26 : Class := { plain "java/lang/Math" (some 0) with
  accessFlags := 49
  interfaces := #[]
  cf := some (fileOf pool26 1 #[.nestMembers #[98]] #[{ accessFlags := 2, nameIndex := 7, descriptorIndex := 8, attributes := #[] }, { accessFlags := 9, nameIndex := 198, descriptorIndex := 335, attributes := #[] }, { accessFlags := 9, nameIndex := 201, descriptorIndex := 335, attributes := #[] }] 49 4 #[] #[{ accessFlags := 25, nameIndex := 354, descriptorIndex := 339, attributes := #[] }, { accessFlags := 25, nameIndex := 358, descriptorIndex := 339, attributes := #[] }, { accessFlags := 25, nameIndex := 361, descriptorIndex := 339, attributes := #[] }, { accessFlags := 26, nameIndex := 364, descriptorIndex := 339, attributes := #[] }, { accessFlags := 26, nameIndex := 365, descriptorIndex := 339, attributes := #[] }, { accessFlags := 26, nameIndex := 172, descriptorIndex := 173, attributes := #[] }, { accessFlags := 26, nameIndex := 176, descriptorIndex := 173, attributes := #[] }, { accessFlags := 8, nameIndex := 344, descriptorIndex := 339, attributes := #[] }, { accessFlags := 8, nameIndex := 338, descriptorIndex := 339, attributes := #[] }, { accessFlags := 4120, nameIndex := 245, descriptorIndex := 246, attributes := #[] }])
  fields := #[{ name := "E", type := .double, accessFlags := 25, slot := 0, constantValue := 0 }, { name := "PI", type := .double, accessFlags := 25, slot := 1, constantValue := 0 }, { name := "TAU", type := .double, accessFlags := 25, slot := 2, constantValue := 0 }, { name := "DEGREES_TO_RADIANS", type := .double, accessFlags := 26, slot := 3, constantValue := 0 }, { name := "RADIANS_TO_DEGREES", type := .double, accessFlags := 26, slot := 4, constantValue := 0 }, { name := "negativeZeroFloatBits", type := .long, accessFlags := 26, slot := 5, constantValue := 0 }, { name := "negativeZeroDoubleBits", type := .long, accessFlags := 26, slot := 6, constantValue := 0 }, { name := "twoToTheDoubleScaleUp", type := .double, accessFlags := 8, slot := 7, constantValue := 0 }, { name := "twoToTheDoubleScaleDown", type := .double, accessFlags := 8, slot := 8, constantValue := 0 }, { name := "$assertionsDisabled", type := .boolean, accessFlags := 4120, slot := 9, constantValue := 0 }]
  methods := #[k26m0, k26m1, k26m2]
  instanceTypes := #[]
  staticTypes := #[.double, .double, .double, .double, .double, .long, .long, .double, .double, .boolean]
  resolved := Array.replicate 460 none
  statics := none }

def pool27 : Array CpInfo := pool [(2, .class_ 4), (1, u "java/lang/Object"), (0, u "<init>"), (0, u "()V"), (1, .class_ 10), (1, u "java/lang/System"), (0, u "allowSecurityManager"), (0, u "I"), (16, u "cons"), (0, u "Ljava/io/Console;"), (77, .class_ 110), (1, u "java/lang/System$CallersHolder"), (43, u "initialErrStream"), (0, u "Ljava/io/PrintStream;"), (19, u "security"), (0, u "Ljava/lang/SecurityManager;"), (31, .class_ 209), (0, u "java/lang/System$1"), (7, u "props"), (0, u "Ljava/util/Properties;"), (2, u "lineSeparator"), (0, u "Ljava/lang/String;"), (96, .class_ 321), (1, u "java/lang/System$LoggerFinder"), (5, .class_ 328), (0, u "java/lang/System$Logger"), (67, u "err"), (2, u "out"), (91, u "notSupportedJnuEncoding"), (15, u "in"), (17, u "initialIn"), (0, u "Ljava/io/InputStream;"), (35, u "bootLayer"), (0, u "Ljava/lang/ModuleLayer;"), (99, .class_ 664), (0, u "java/lang/System$2"), (9, u "NEVER"), (2, u "MAYBE"), (49, u "arraycopy"), (0, u "(Ljava/lang/Object;ILjava/lang/Object;II)V"), (72, .class_ 802), (0, u "java/lang/System$Logger$Level")] 31

def k27m0 : Method := { name := "<init>", desc := "()V", sig := { parameters := [], returnType := none }, accessFlags := 2, code := none }
def k27m1 : Method := { name := "arraycopy", desc := "(Ljava/lang/Object;ILjava/lang/Object;II)V", sig := { parameters := [(.object "java/lang/Object"), .int, (.object "java/lang/Object"), .int, .int], returnType := none }, accessFlags := 265, code := none }
/-- java/lang/System -/
def k27 : Class := { plain "java/lang/System" (some 0) with
  accessFlags := 49
  interfaces := #[]
  cf := some (fileOf pool27 8 #[.nestMembers #[319, 327, 801, 108, 663, 208]] #[{ accessFlags := 2, nameIndex := 5, descriptorIndex := 6, attributes := #[] }, { accessFlags := 265, nameIndex := 727, descriptorIndex := 728, attributes := #[] }] 49 2 #[] #[{ accessFlags := 25, nameIndex := 507, descriptorIndex := 526, attributes := #[] }, { accessFlags := 25, nameIndex := 399, descriptorIndex := 155, attributes := #[] }, { accessFlags := 25, nameIndex := 396, descriptorIndex := 155, attributes := #[] }, { accessFlags := 10, nameIndex := 525, descriptorIndex := 526, attributes := #[] }, { accessFlags := 26, nameIndex := 674, descriptorIndex := 12, attributes := #[] }, { accessFlags := 26, nameIndex := 677, descriptorIndex := 12, attributes := #[] }, { accessFlags := 10, nameIndex := 11, descriptorIndex := 12, attributes := #[] }, { accessFlags := 74, nameIndex := 175, descriptorIndex := 176, attributes := #[] }, { accessFlags := 10, nameIndex := 491, descriptorIndex := 222, attributes := #[] }, { accessFlags := 74, nameIndex := 29, descriptorIndex := 30, attributes := #[] }, { accessFlags := 74, nameIndex := 154, descriptorIndex := 155, attributes := #[] }, { accessFlags := 10, nameIndex := 217, descriptorIndex := 218, attributes := #[] }, { accessFlags := 10, nameIndex := 221, descriptorIndex := 222, attributes := #[] }, { accessFlags := 8, nameIndex := 562, descriptorIndex := 563, attributes := #[] }])
  fields := #[{ name := "in", type := (.object "java/io/InputStream"), accessFlags := 25, slot := 0, constantValue := 0 }, { name := "out", type := (.object "java/io/PrintStream"), accessFlags := 25, slot := 1, constantValue := 0 }, { name := "err", type := (.object "java/io/PrintStream"), accessFlags := 25, slot := 2, constantValue := 0 }, { name := "initialIn", type := (.object "java/io/InputStream"), accessFlags := 10, slot := 3, constantValue := 0 }, { name := "NEVER", type := .int, accessFlags := 26, slot := 4, constantValue := 0 }, { name := "MAYBE", type := .int, accessFlags := 26, slot := 5, constantValue := 0 }, { name := "allowSecurityManager", type := .int, accessFlags := 10, slot := 6, constantValue := 0 }, { name := "security", type := (.object "java/lang/SecurityManager"), accessFlags := 74, slot := 7, constantValue := 0 }, { name := "notSupportedJnuEncoding", type := (.object "java/lang/String"), accessFlags := 10, slot := 8, constantValue := 0 }, { name := "cons", type := (.object "java/io/Console"), accessFlags := 74, slot := 9, constantValue := 0 }, { name := "initialErrStream", type := (.object "java/io/PrintStream"), accessFlags := 74, slot := 10, constantValue := 0 }, { name := "props", type := (.object "java/util/Properties"), accessFlags := 10, slot := 11, constantValue := 0 }, { name := "lineSeparator", type := (.object "java/lang/String"), accessFlags := 10, slot := 12, constantValue := 0 }, { name := "bootLayer", type := (.object "java/lang/ModuleLayer"), accessFlags := 8, slot := 13, constantValue := 0 }]
  methods := #[k27m0, k27m1]
  instanceTypes := #[]
  staticTypes := #[(.object "java/io/InputStream"), (.object "java/io/PrintStream"), (.object "java/io/PrintStream"), (.object "java/io/InputStream"), .int, .int, .int, (.object "java/lang/SecurityManager"), (.object "java/lang/String"), (.object "java/io/Console"), (.object "java/io/PrintStream"), (.object "java/util/Properties"), (.object "java/lang/String"), (.object "java/lang/ModuleLayer")]
  resolved := Array.replicate 834 none
  statics := none }

def pool28 : Array CpInfo := pool [(2, .class_ 4), (1, u "java/lang/Object"), (0, u "<init>"), (0, u "()V"), (35, .class_ 44), (1, u "java/util/Objects"), (60, .methodref 106 107), (0, .class_ 108), (0, .nameAndType 109 110), (0, u "jdk/internal/util/Preconditions"), (0, u "checkIndex"), (0, u "(IILjava/util/function/BiFunction;)I"), (60, u "(II)I")] 12

def k28m0 : Method := { name := "<init>", desc := "()V", sig := { parameters := [], returnType := none }, accessFlags := 2, code := none }
def k28c1 : Code := { maxStack := 3, maxLocals := 2, code := jdk_31_method_17_code, exceptionTable := #[], attributes := #[] }
def k28m1 : Method := { name := "checkIndex", desc := "(II)I", sig := { parameters := [.int, .int], returnType := some .int }, accessFlags := 9, code := some k28c1 }
/-- java/util/Objects -/
def k28 : Class := { plain "java/util/Objects" (some 0) with
  accessFlags := 49
  interfaces := #[]
  cf := some (fileOf pool28 42 #[] #[{ accessFlags := 2, nameIndex := 5, descriptorIndex := 6, attributes := #[] }, { accessFlags := 9, nameIndex := 109, descriptorIndex := 171, attributes := #[] }] 49 2 #[] #[])
  fields := #[]
  methods := #[k28m0, k28m1]
  instanceTypes := #[]
  staticTypes := #[]
  resolved := Array.replicate 184 none
  statics := none }

def pool29 : Array CpInfo := pool [(9, u "<init>"), (6, .class_ 18), (1, u "java/lang/Object"), (0, u "()V"), (1, .class_ 23), (1, u "jdk/internal/util/ArraysSupport"), (0, u "LOG2_ARRAY_LONG_INDEX_SCALE"), (0, u "I"), (2, u "U"), (0, u "Ljdk/internal/misc/Unsafe;"), (8, u "BIG_ENDIAN"), (0, u "Z"), (8, u "LOG2_BYTE_BIT_SIZE"), (4, u "LOG2_ARRAY_INT_INDEX_SCALE"), (54, u "JLA"), (0, u "Ljdk/internal/access/JavaLangAccess;"), (11, u "LOG2_ARRAY_BOOLEAN_INDEX_SCALE"), (9, u "LOG2_ARRAY_BYTE_INDEX_SCALE"), (5, u "LOG2_ARRAY_CHAR_INDEX_SCALE"), (5, u "LOG2_ARRAY_SHORT_INDEX_SCALE"), (18, u "LOG2_ARRAY_FLOAT_INDEX_SCALE"), (24, u "LOG2_ARRAY_DOUBLE_INDEX_SCALE"), (89, u "T_BOOLEAN"), (2, u "T_CHAR"), (1, u "T_FLOAT"), (1, u "T_DOUBLE"), (1, u "T_BYTE"), (1, u "T_SHORT"), (1, u "T_INT"), (1, u "T_LONG"), (1, u "SOFT_MAX_ARRAY_LENGTH")] 83

def k29m0 : Method := { name := "<init>", desc := "()V", sig := { parameters := [], returnType := none }, accessFlags := 2, code := none }
/-- jdk/internal/util/ArraysSupport -/
def k29 : Class := { plain "jdk/internal/util/ArraysSupport" (some 0) with
  accessFlags := 33
  interfaces := #[]
  cf := some (fileOf pool29 21 #[] #[{ accessFlags := 2, nameIndex := 9, descriptorIndex := 19, attributes := #[] }] 33 16 #[] #[{ accessFlags := 24, nameIndex := 28, descriptorIndex := 29, attributes := #[] }, { accessFlags := 26, nameIndex := 38, descriptorIndex := 39, attributes := #[] }, { accessFlags := 25, nameIndex := 121, descriptorIndex := 25, attributes := #[] }, { accessFlags := 25, nameIndex := 131, descriptorIndex := 25, attributes := #[] }, { accessFlags := 25, nameIndex := 137, descriptorIndex := 25, attributes := #[] }, { accessFlags := 25, nameIndex := 143, descriptorIndex := 25, attributes := #[] }, { accessFlags := 25, nameIndex := 53, descriptorIndex := 25, attributes := #[] }, { accessFlags := 25, nameIndex := 24, descriptorIndex := 25, attributes := #[] }, { accessFlags := 25, nameIndex := 162, descriptorIndex := 25, attributes := #[] }, { accessFlags := 25, nameIndex := 187, descriptorIndex := 25, attributes := #[] }, { accessFlags := 26, nameIndex := 48, descriptorIndex := 25, attributes := #[] }, { accessFlags := 25, nameIndex := 277, descriptorIndex := 25, attributes := #[] }, { accessFlags := 25, nameIndex := 280, descriptorIndex := 25, attributes := #[] }, { accessFlags := 25, nameIndex := 282, descriptorIndex := 25, attributes := #[] }, { accessFlags := 25, nameIndex := 284, descriptorIndex := 25, attributes := #[] }, { accessFlags := 25, nameIndex := 286, descriptorIndex := 25, attributes := #[] }, { accessFlags := 25, nameIndex := 288, descriptorIndex := 25, attributes := #[] }, { accessFlags := 25, nameIndex := 290, descriptorIndex := 25, attributes := #[] }, { accessFlags := 25, nameIndex := 292, descriptorIndex := 25, attributes := #[] }, { accessFlags := 26, nameIndex := 108, descriptorIndex := 109, attributes := #[] }, { accessFlags := 25, nameIndex := 294, descriptorIndex := 25, attributes := #[] }])
  fields := #[{ name := "U", type := (.object "jdk/internal/misc/Unsafe"), accessFlags := 24, slot := 0, constantValue := 0 }, { name := "BIG_ENDIAN", type := .boolean, accessFlags := 26, slot := 1, constantValue := 0 }, { name := "LOG2_ARRAY_BOOLEAN_INDEX_SCALE", type := .int, accessFlags := 25, slot := 2, constantValue := 0 }, { name := "LOG2_ARRAY_BYTE_INDEX_SCALE", type := .int, accessFlags := 25, slot := 3, constantValue := 0 }, { name := "LOG2_ARRAY_CHAR_INDEX_SCALE", type := .int, accessFlags := 25, slot := 4, constantValue := 0 }, { name := "LOG2_ARRAY_SHORT_INDEX_SCALE", type := .int, accessFlags := 25, slot := 5, constantValue := 0 }, { name := "LOG2_ARRAY_INT_INDEX_SCALE", type := .int, accessFlags := 25, slot := 6, constantValue := 0 }, { name := "LOG2_ARRAY_LONG_INDEX_SCALE", type := .int, accessFlags := 25, slot := 7, constantValue := 0 }, { name := "LOG2_ARRAY_FLOAT_INDEX_SCALE", type := .int, accessFlags := 25, slot := 8, constantValue := 0 }, { name := "LOG2_ARRAY_DOUBLE_INDEX_SCALE", type := .int, accessFlags := 25, slot := 9, constantValue := 0 }, { name := "LOG2_BYTE_BIT_SIZE", type := .int, accessFlags := 26, slot := 10, constantValue := 0 }, { name := "T_BOOLEAN", type := .int, accessFlags := 25, slot := 11, constantValue := 0 }, { name := "T_CHAR", type := .int, accessFlags := 25, slot := 12, constantValue := 0 }, { name := "T_FLOAT", type := .int, accessFlags := 25, slot := 13, constantValue := 0 }, { name := "T_DOUBLE", type := .int, accessFlags := 25, slot := 14, constantValue := 0 }, { name := "T_BYTE", type := .int, accessFlags := 25, slot := 15, constantValue := 0 }, { name := "T_SHORT", type := .int, accessFlags := 25, slot := 16, constantValue := 0 }, { name := "T_INT", type := .int, accessFlags := 25, slot := 17, constantValue := 0 }, { name := "T_LONG", type := .int, accessFlags := 25, slot := 18, constantValue := 0 }, { name := "JLA", type := (.object "jdk/internal/access/JavaLangAccess"), accessFlags := 26, slot := 19, constantValue := 0 }, { name := "SOFT_MAX_ARRAY_LENGTH", type := .int, accessFlags := 25, slot := 20, constantValue := 0 }]
  methods := #[k29m0]
  instanceTypes := #[]
  staticTypes := #[(.object "jdk/internal/misc/Unsafe"), .boolean, .int, .int, .int, .int, .int, .int, .int, .int, .int, .int, .int, .int, .int, .int, .int, .int, .int, (.object "jdk/internal/access/JavaLangAccess"), .int]
  resolved := Array.replicate 378 none
  statics := none }

/-- the primitive byte -/
def k30 : Class := { plain "byte" none with kind := .primitive 'B', accessFlags := 0x411 }
/-- [B -/
def k31 : Class := { plain "[B" (some 0) with kind := .array 30 .byte, interfaces := #[19, 2], accessFlags := 1041 }

/-- the primitive int -/
def k32 : Class := { plain "int" none with kind := .primitive 'I', accessFlags := 0x411 }
/-- [I -/
def k33 : Class := { plain "[I" (some 0) with kind := .array 32 .int, interfaces := #[19, 2], accessFlags := 1041 }

/-- [Ljava/lang/Object; -/
def k34 : Class := { plain "[Ljava/lang/Object;" (some 0) with kind := .array 0 (.object "java/lang/Object"), interfaces := #[19, 2], accessFlags := 1041 }

def heap : Heap := #[{ cls := 7, slots := #[.long 0, .int 1, .null, .int 0, .null, .int 0, .int 0], vm := .statics 7 },
  { cls := 20, slots := #[.long 0, .int 0, .ref 3, .ref 4], vm := .statics 20 },
  { cls := 24, slots := #[.null, .null, .null], vm := .statics 24 },
  { cls := 34, slots := #[], vm := .none },
  { cls := 34, slots := #[], vm := .none }]
def classes : Array Class := #[k0, k1, k2, k3, k4, k5, k6, k7, k8, k9, k10, k11, k12, k13, k14, k15, k16, k17, k18, k19, k20, k21, k22, k23, k24, k25, k26, k27, k28, k29, k30, k31, k32, k33, k34]
def interned : List (Array UInt16 × Addr) := []
def slotsUsed : Nat := 14
def theMethod : MethodId := ⟨1, 1⟩
def args0 : Array Value := #[.int 5, .int 3, .int 7, .int 9]
def aboutOver (below : List Frame) : State where
  vm := { classes := classes, interned := interned.toArray }
  heap := heap
  slotsUsed := slotsUsed
  threads := #[{ frames := .invoking theMethod args0 :: below }]
def below0 : List Frame := [.native { method := ⟨0, 0⟩, args := #[] }]
def about1 : State := aboutOver below0
def p0 : Program := .bare "" "" ""
def e0 : Env := launch0.env 0 0 0
theorem w_frames : about1.frames = Frame.invoking theMethod args0 :: below0 := rfl
set_option maxRecDepth 65536 in
theorem w_args : argsFit about1.vm theMethod args0 = true := by decide +kernel
set_option maxRecDepth 65536 in
theorem w_heap : heapFits about1 = true := by decide +kernel
set_option maxRecDepth 65536 in
theorem w_runnable : about1.curStatus? = some .runnable := by decide +kernel
set_option maxRecDepth 65536 in
theorem w_alone : about1.alone = true := by decide +kernel
set_option maxRecDepth 65536 in
theorem w_named : about1.methodNamed? x = some theMethod := by decide +kernel
set_option maxRecDepth 65536 in
theorem w_hears : about1.hears theMethod below0 = true := by decide +kernel
set_option maxRecDepth 65536 in
theorem w_ripe : about1.ripe theMethod args0 below0 = true := by decide +kernel
theorem w_running : about1.status = .running := rfl
set_option maxRecDepth 65536 in
theorem w_room : about1.hasRoom e0.platform room_1 = true :=
  launch0.hasRoom_least _ room_1 (by decide +kernel) (by decide +kernel) (by decide +kernel) (by decide +kernel) (by decide +kernel) (by decide +kernel)
theorem allAtoms_all (ts : List Jvm.Cond) (a : Array Jvm.Value) (st : Jvm.State) : (allAtoms ts).before a st = ts.all (fun c => c.before a st) := by
  induction ts with
  | nil => rfl
  | cons c t ih =>
    show (Jvm.Cond.and c (allAtoms t)).before a st = _
    rw [Jvm.Cond.before_and, ih, List.all_cons]
def words1 : List Jvm.Cond := Jvm.Cond.code x code maxLocals ret :: tables_1
/-- a 'code' word, met by the world's own term for the bytes: nothing is compared byte by byte -/
theorem code_word {y : MethodName} {bytes : ByteArray} {mx : Nat} {rt : Option FieldType} {a : Array Value} {s : State} {m : MethodId} {meth : Method} {c : Code} (h1 : s.methodNamed? y = some m) (h2 : s.vm.method? m = some meth) (h3 : meth.code = some c) (h4 : c.code = bytes)
    (h5 : (c.maxLocals == mx && c.exceptionTable.isEmpty && decide (c.maxStack ≤ mostOperands) && decide (meth.sig.returnType = rt) && !meth.locks && decide (parseMethodDescriptor y.desc = some meth.sig)) = true) : (Jvm.Cond.code y bytes mx rt).before a s = true := by
  simp only [Bool.and_eq_true, beq_iff_eq, Bool.not_eq_true', decide_eq_true_eq] at h5
  obtain ⟨⟨⟨⟨⟨g1, g2⟩, g3⟩, g4⟩, g5⟩, g6⟩ := h5
  simp [Cond.before, Cond.holds, Cond.value, h1, h2, h3, h4, g1, g2, g3, g4, g5, g6]
def isCode : Jvm.Cond → Bool
  | .code _ _ _ _ => true
  | _ => false
theorem all_split {L : List Jvm.Cond} {P : Jvm.Cond → Bool} (h1 : L.all (fun c => isCode c || P c) = true) (h2 : ∀ c ∈ L.filter isCode, P c = true) : L.all P = true := by
  refine List.all_eq_true.mpr fun c hc => ?_
  have h := List.all_eq_true.mp h1 c hc
  rcases Bool.eq_false_or_eq_true (isCode c) with hi | hi
  · exact h2 c (List.mem_filter.mpr ⟨hc, hi⟩)
  · simpa [hi] using h
set_option maxRecDepth 65536 in
theorem w_c0 : (Jvm.Cond.code x code maxLocals ret).before args0 about1 = true := code_word (m := ⟨1, 1⟩) (meth := k1m1) (c := k1c1) (by decide +kernel) rfl rfl rfl (by decide +kernel)
set_option maxRecDepth 65536 in
theorem w_c1 : (Jvm.Cond.code ({ cls := "com/example/idiolect/idiolect/internal/datetime/DateTimePatterns$Token", name := "<init>", desc := "(CLjava/lang/String;)V" } : Jvm.MethodName) prog_79_method_1_code (3 : Nat) (Option.none : Option Jvm.ClassFile.FieldType)).before args0 about1 = true := code_word (m := ⟨9, 0⟩) (meth := k9m0) (c := k9c0) (by decide +kernel) rfl rfl rfl (by decide +kernel)
set_option maxRecDepth 65536 in
theorem w_c2 : (Jvm.Cond.code ({ cls := "java/lang/Record", name := "<init>", desc := "()V" } : Jvm.MethodName) jdk_30_method_1_code (1 : Nat) (Option.none : Option Jvm.ClassFile.FieldType)).before args0 about1 = true := code_word (m := ⟨8, 0⟩) (meth := k8m0) (c := k8c0) (by decide +kernel) rfl rfl rfl (by decide +kernel)
set_option maxRecDepth 65536 in
theorem w_c3 : (Jvm.Cond.code ({ cls := "java/lang/Object", name := "<init>", desc := "()V" } : Jvm.MethodName) object_method_1_code (1 : Nat) (Option.none : Option Jvm.ClassFile.FieldType)).before args0 about1 = true := code_word (m := ⟨0, 0⟩) (meth := k0m0) (c := k0c0) (by decide +kernel) rfl rfl rfl (by decide +kernel)
set_option maxRecDepth 65536 in
theorem w_c4 : (Jvm.Cond.code ({ cls := "com/example/idiolect/idiolect/internal/datetime/DateTimePatterns$Token", name := "isField", desc := "()Z" } : Jvm.MethodName) prog_79_method_4_code (1 : Nat) (Option.some Jvm.ClassFile.FieldType.boolean)).before args0 about1 = true := code_word (m := ⟨9, 3⟩) (meth := k9m3) (c := k9c3) (by decide +kernel) rfl rfl rfl (by decide +kernel)
set_option maxRecDepth 65536 in
theorem w_c5 : (Jvm.Cond.code ({ cls := "java/lang/String", name := "valueOf", desc := "(C)Ljava/lang/String;" } : Jvm.MethodName) jdk_42_method_139_code (1 : Nat) (Option.some (Jvm.ClassFile.FieldType.object "java/lang/String"))).before args0 about1 = true := code_word (m := ⟨7, 5⟩) (meth := k7m5) (c := k7c5) (by decide +kernel) rfl rfl rfl (by decide +kernel)
set_option maxRecDepth 65536 in
theorem w_c6 : (Jvm.Cond.code ({ cls := "java/lang/StringLatin1", name := "canEncode", desc := "(C)Z" } : Jvm.MethodName) jdk_43_method_3_code (1 : Nat) (Option.some Jvm.ClassFile.FieldType.boolean)).before args0 about1 = true := code_word (m := ⟨10, 2⟩) (meth := k10m2) (c := k10c2) (by decide +kernel) rfl rfl rfl (by decide +kernel)
set_option maxRecDepth 65536 in
theorem w_c7 : (Jvm.Cond.code ({ cls := "java/lang/StringLatin1", name := "toBytes", desc := "(C)[B" } : Jvm.MethodName) jdk_43_method_46_code (1 : Nat) (Option.some (Jvm.ClassFile.FieldType.array Jvm.ClassFile.FieldType.byte))).before args0 about1 = true := code_word (m := ⟨10, 3⟩) (meth := k10m3) (c := k10c3) (by decide +kernel) rfl rfl rfl (by decide +kernel)
set_option maxRecDepth 65536 in
theorem w_c8 : (Jvm.Cond.code ({ cls := "java/lang/String", name := "<init>", desc := "([BB)V" } : Jvm.MethodName) jdk_42_method_151_code (3 : Nat) (Option.none : Option Jvm.ClassFile.FieldType)).before args0 about1 = true := code_word (m := ⟨7, 7⟩) (meth := k7m7) (c := k7c7) (by decide +kernel) rfl rfl rfl (by decide +kernel)
set_option maxRecDepth 65536 in
theorem w_c9 : (Jvm.Cond.code ({ cls := "com/example/idiolect/idiolect/internal/datetime/DateTimePatterns", name := "tokens", desc := "(Ljava/lang/String;)Ljava/util/List;" } : Jvm.MethodName) prog_75_method_11_code (6 : Nat) (Option.some (Jvm.ClassFile.FieldType.object "java/util/List"))).before args0 about1 = true := code_word (m := ⟨11, 1⟩) (meth := k11m1) (c := k11c1) (by decide +kernel) rfl rfl rfl (by decide +kernel)
set_option maxRecDepth 65536 in
theorem w_c10 : (Jvm.Cond.code ({ cls := "java/util/ArrayList", name := "<init>", desc := "()V" } : Jvm.MethodName) jdk_38_method_2_code (1 : Nat) (Option.none : Option Jvm.ClassFile.FieldType)).before args0 about1 = true := code_word (m := ⟨20, 0⟩) (meth := k20m0) (c := k20c0) (by decide +kernel) rfl rfl rfl (by decide +kernel)
set_option maxRecDepth 65536 in
theorem w_c11 : (Jvm.Cond.code ({ cls := "java/util/AbstractList", name := "<init>", desc := "()V" } : Jvm.MethodName) jdk_39_method_1_code (1 : Nat) (Option.none : Option Jvm.ClassFile.FieldType)).before args0 about1 = true := code_word (m := ⟨17, 0⟩) (meth := k17m0) (c := k17c0) (by decide +kernel) rfl rfl rfl (by decide +kernel)
set_option maxRecDepth 65536 in
theorem w_c12 : (Jvm.Cond.code ({ cls := "java/util/AbstractCollection", name := "<init>", desc := "()V" } : Jvm.MethodName) jdk_22_method_1_code (1 : Nat) (Option.none : Option Jvm.ClassFile.FieldType)).before args0 about1 = true := code_word (m := ⟨14, 0⟩) (meth := k14m0) (c := k14c0) (by decide +kernel) rfl rfl rfl (by decide +kernel)
set_option maxRecDepth 65536 in
theorem w_c13 : (Jvm.Cond.code ({ cls := "java/lang/StringBuilder", name := "<init>", desc := "()V" } : Jvm.MethodName) jdk_67_method_1_code (1 : Nat) (Option.none : Option Jvm.ClassFile.FieldType)).before args0 about1 = true := code_word (m := ⟨23, 0⟩) (meth := k23m0) (c := k23c0) (by decide +kernel) rfl rfl rfl (by decide +kernel)
set_option maxRecDepth 65536 in
theorem w_c14 : (Jvm.Cond.code ({ cls := "java/lang/AbstractStringBuilder", name := "<init>", desc := "(I)V" } : Jvm.MethodName) jdk_68_method_2_code (2 : Nat) (Option.none : Option Jvm.ClassFile.FieldType)).before args0 about1 = true := code_word (m := ⟨22, 1⟩) (meth := k22m1) (c := k22c1) (by decide +kernel) rfl rfl rfl (by decide +kernel)
set_option maxRecDepth 65536 in
theorem w_c15 : (Jvm.Cond.code ({ cls := "java/lang/String", name := "length", desc := "()I" } : Jvm.MethodName) jdk_42_method_54_code (1 : Nat) (Option.some Jvm.ClassFile.FieldType.int)).before args0 about1 = true := code_word (m := ⟨7, 2⟩) (meth := k7m2) (c := k7c2) (by decide +kernel) rfl rfl rfl (by decide +kernel)
set_option maxRecDepth 65536 in
theorem w_c16 : (Jvm.Cond.code ({ cls := "java/lang/String", name := "coder", desc := "()B" } : Jvm.MethodName) jdk_42_method_152_code (1 : Nat) (Option.some Jvm.ClassFile.FieldType.byte)).before args0 about1 = true := code_word (m := ⟨7, 8⟩) (meth := k7m8) (c := k7c8) (by decide +kernel) rfl rfl rfl (by decide +kernel)
set_option maxRecDepth 65536 in
theorem w_c17 : (Jvm.Cond.code ({ cls := "java/lang/String", name := "charAt", desc := "(I)C" } : Jvm.MethodName) jdk_42_method_56_code (2 : Nat) (Option.some Jvm.ClassFile.FieldType.char)).before args0 about1 = true := code_word (m := ⟨7, 3⟩) (meth := k7m3) (c := k7c3) (by decide +kernel) rfl rfl rfl (by decide +kernel)
set_option maxRecDepth 65536 in
theorem w_c18 : (Jvm.Cond.code ({ cls := "java/lang/String", name := "isLatin1", desc := "()Z" } : Jvm.MethodName) jdk_42_method_154_code (1 : Nat) (Option.some Jvm.ClassFile.FieldType.boolean)).before args0 about1 = true := code_word (m := ⟨7, 9⟩) (meth := k7m9) (c := k7c9) (by decide +kernel) rfl rfl rfl (by decide +kernel)
set_option maxRecDepth 65536 in
theorem w_c19 : (Jvm.Cond.code ({ cls := "java/lang/StringLatin1", name := "charAt", desc := "([BI)C" } : Jvm.MethodName) jdk_43_method_2_code (2 : Nat) (Option.some Jvm.ClassFile.FieldType.char)).before args0 about1 = true := code_word (m := ⟨10, 1⟩) (meth := k10m1) (c := k10c1) (by decide +kernel) rfl rfl rfl (by decide +kernel)
set_option maxRecDepth 65536 in
theorem w_c20 : (Jvm.Cond.code ({ cls := "java/lang/String", name := "checkIndex", desc := "(II)V" } : Jvm.MethodName) jdk_42_method_155_code (2 : Nat) (Option.none : Option Jvm.ClassFile.FieldType)).before args0 about1 = true := code_word (m := ⟨7, 10⟩) (meth := k7m10) (c := k7c10) (by decide +kernel) rfl rfl rfl (by decide +kernel)
set_option maxRecDepth 65536 in
theorem w_c21 : (Jvm.Cond.code ({ cls := "jdk/internal/util/Preconditions", name := "checkIndex", desc := "(IILjava/util/function/BiFunction;)I" } : Jvm.MethodName) jdk_41_method_11_code (3 : Nat) (Option.some Jvm.ClassFile.FieldType.int)).before args0 about1 = true := code_word (m := ⟨24, 1⟩) (meth := k24m1) (c := k24c1) (by decide +kernel) rfl rfl rfl (by decide +kernel)
set_option maxRecDepth 65536 in
theorem w_c22 : (Jvm.Cond.code ({ cls := "java/lang/StringBuilder", name := "append", desc := "(C)Ljava/lang/StringBuilder;" } : Jvm.MethodName) jdk_67_method_14_code (2 : Nat) (Option.some (Jvm.ClassFile.FieldType.object "java/lang/StringBuilder"))).before args0 about1 = true := code_word (m := ⟨23, 1⟩) (meth := k23m1) (c := k23c1) (by decide +kernel) rfl rfl rfl (by decide +kernel)
set_option maxRecDepth 65536 in
theorem w_c23 : (Jvm.Cond.code ({ cls := "java/lang/AbstractStringBuilder", name := "append", desc := "(C)Ljava/lang/AbstractStringBuilder;" } : Jvm.MethodName) jdk_68_method_31_code (2 : Nat) (Option.some (Jvm.ClassFile.FieldType.object "java/lang/AbstractStringBuilder"))).before args0 about1 = true := code_word (m := ⟨22, 5⟩) (meth := k22m5) (c := k22c5) (by decide +kernel) rfl rfl rfl (by decide +kernel)
set_option maxRecDepth 65536 in
theorem w_c24 : (Jvm.Cond.code ({ cls := "java/lang/AbstractStringBuilder", name := "ensureCapacityInternal", desc := "(I)V" } : Jvm.MethodName) jdk_68_method_9_code (3 : Nat) (Option.none : Option Jvm.ClassFile.FieldType)).before args0 about1 = true := code_word (m := ⟨22, 3⟩) (meth := k22m3) (c := k22c3) (by decide +kernel) rfl rfl rfl (by decide +kernel)
set_option maxRecDepth 65536 in
theorem w_c25 : (Jvm.Cond.code ({ cls := "java/lang/AbstractStringBuilder", name := "isLatin1", desc := "()Z" } : Jvm.MethodName) jdk_68_method_68_code (1 : Nat) (Option.some Jvm.ClassFile.FieldType.boolean)).before args0 about1 = true := code_word (m := ⟨22, 7⟩) (meth := k22m7) (c := k22c7) (by decide +kernel) rfl rfl rfl (by decide +kernel)
set_option maxRecDepth 65536 in
theorem w_c26 : (Jvm.Cond.code ({ cls := "com/example/idiolect/idiolect/internal/datetime/DateTimePatterns", name := "addLiteral", desc := "(Ljava/util/List;Ljava/lang/StringBuilder;)V" } : Jvm.MethodName) prog_75_method_12_code (2 : Nat) (Option.none : Option Jvm.ClassFile.FieldType)).before args0 about1 = true := code_word (m := ⟨11, 2⟩) (meth := k11m2) (c := k11c2) (by decide +kernel) rfl rfl rfl (by decide +kernel)
set_option maxRecDepth 65536 in
theorem w_c27 : (Jvm.Cond.code ({ cls := "java/lang/StringBuilder", name := "length", desc := "()I" } : Jvm.MethodName) jdk_67_method_93_code (1 : Nat) (Option.some Jvm.ClassFile.FieldType.int)).before args0 about1 = true := code_word (m := ⟨23, 4⟩) (meth := k23m4) (c := k23c4) (by decide +kernel) rfl rfl rfl (by decide +kernel)
set_option maxRecDepth 65536 in
theorem w_c28 : (Jvm.Cond.code ({ cls := "java/lang/AbstractStringBuilder", name := "length", desc := "()I" } : Jvm.MethodName) jdk_68_method_6_code (1 : Nat) (Option.some Jvm.ClassFile.FieldType.int)).before args0 about1 = true := code_word (m := ⟨22, 2⟩) (meth := k22m2) (c := k22c2) (by decide +kernel) rfl rfl rfl (by decide +kernel)
set_option maxRecDepth 65536 in
theorem w_c29 : (Jvm.Cond.code ({ cls := "java/lang/StringBuilder", name := "toString", desc := "()Ljava/lang/String;" } : Jvm.MethodName) jdk_67_method_42_code (1 : Nat) (Option.some (Jvm.ClassFile.FieldType.object "java/lang/String"))).before args0 about1 = true := code_word (m := ⟨23, 2⟩) (meth := k23m2) (c := k23c2) (by decide +kernel) rfl rfl rfl (by decide +kernel)
set_option maxRecDepth 65536 in
theorem w_c30 : (Jvm.Cond.code ({ cls := "java/lang/String", name := "<init>", desc := "(Ljava/lang/StringBuilder;)V" } : Jvm.MethodName) jdk_42_method_53_code (2 : Nat) (Option.none : Option Jvm.ClassFile.FieldType)).before args0 about1 = true := code_word (m := ⟨7, 1⟩) (meth := k7m1) (c := k7c1) (by decide +kernel) rfl rfl rfl (by decide +kernel)
set_option maxRecDepth 65536 in
theorem w_c31 : (Jvm.Cond.code ({ cls := "java/lang/String", name := "<init>", desc := "(Ljava/lang/AbstractStringBuilder;Ljava/lang/Void;)V" } : Jvm.MethodName) jdk_42_method_150_code (5 : Nat) (Option.none : Option Jvm.ClassFile.FieldType)).before args0 about1 = true := code_word (m := ⟨7, 6⟩) (meth := k7m6) (c := k7c6) (by decide +kernel) rfl rfl rfl (by decide +kernel)
set_option maxRecDepth 65536 in
theorem w_c32 : (Jvm.Cond.code ({ cls := "java/lang/AbstractStringBuilder", name := "getValue", desc := "()[B" } : Jvm.MethodName) jdk_68_method_64_code (1 : Nat) (Option.some (Jvm.ClassFile.FieldType.array Jvm.ClassFile.FieldType.byte))).before args0 about1 = true := code_word (m := ⟨22, 6⟩) (meth := k22m6) (c := k22c6) (by decide +kernel) rfl rfl rfl (by decide +kernel)
set_option maxRecDepth 65536 in
theorem w_c33 : (Jvm.Cond.code ({ cls := "java/util/Arrays", name := "copyOfRange", desc := "([BII)[B" } : Jvm.MethodName) jdk_65_method_132_code (3 : Nat) (Option.some (Jvm.ClassFile.FieldType.array Jvm.ClassFile.FieldType.byte))).before args0 about1 = true := code_word (m := ⟨25, 2⟩) (meth := k25m2) (c := k25c2) (by decide +kernel) rfl rfl rfl (by decide +kernel)
set_option maxRecDepth 65536 in
theorem w_c34 : (Jvm.Cond.code ({ cls := "java/util/Arrays", name := "copyOfRangeByte", desc := "([BII)[B" } : Jvm.MethodName) jdk_65_method_133_code (5 : Nat) (Option.some (Jvm.ClassFile.FieldType.array Jvm.ClassFile.FieldType.byte))).before args0 about1 = true := code_word (m := ⟨25, 3⟩) (meth := k25m3) (c := k25c3) (by decide +kernel) rfl rfl rfl (by decide +kernel)
set_option maxRecDepth 65536 in
theorem w_c35 : (Jvm.Cond.code ({ cls := "java/util/Arrays", name := "checkLength", desc := "(II)V" } : Jvm.MethodName) jdk_65_method_131_code (2 : Nat) (Option.none : Option Jvm.ClassFile.FieldType)).before args0 about1 = true := code_word (m := ⟨25, 1⟩) (meth := k25m1) (c := k25c1) (by decide +kernel) rfl rfl rfl (by decide +kernel)
set_option maxRecDepth 65536 in
theorem w_c36 : (Jvm.Cond.code ({ cls := "java/lang/Math", name := "min", desc := "(II)I" } : Jvm.MethodName) jdk_29_method_69_code (2 : Nat) (Option.some Jvm.ClassFile.FieldType.int)).before args0 about1 = true := code_word (m := ⟨26, 2⟩) (meth := k26m2) (c := k26c2) (by decide +kernel) rfl rfl rfl (by decide +kernel)
set_option maxRecDepth 65536 in
theorem w_c37 : (Jvm.Cond.code ({ cls := "com/example/idiolect/idiolect/internal/datetime/DateTimePatterns$Token", name := "literal", desc := "(Ljava/lang/String;)Lcom/example/idiolect/idiolect/internal/datetime/DateTimePatterns$Token;" } : Jvm.MethodName) prog_79_method_3_code (1 : Nat) (Option.some (Jvm.ClassFile.FieldType.object "com/example/idiolect/idiolect/internal/datetime/DateTimePatterns$Token"))).before args0 about1 = true := code_word (m := ⟨9, 2⟩) (meth := k9m2) (c := k9c2) (by decide +kernel) rfl rfl rfl (by decide +kernel)
set_option maxRecDepth 65536 in
theorem w_c38 : (Jvm.Cond.code ({ cls := "java/util/ArrayList", name := "add", desc := "(Ljava/lang/Object;)Z" } : Jvm.MethodName) jdk_38_method_25_code (2 : Nat) (Option.some Jvm.ClassFile.FieldType.boolean)).before args0 about1 = true := code_word (m := ⟨20, 7⟩) (meth := k20m7) (c := k20c7) (by decide +kernel) rfl rfl rfl (by decide +kernel)
set_option maxRecDepth 65536 in
theorem w_c39 : (Jvm.Cond.code ({ cls := "java/util/ArrayList", name := "add", desc := "(Ljava/lang/Object;[Ljava/lang/Object;I)V" } : Jvm.MethodName) jdk_38_method_24_code (4 : Nat) (Option.none : Option Jvm.ClassFile.FieldType)).before args0 about1 = true := code_word (m := ⟨20, 6⟩) (meth := k20m6) (c := k20c6) (by decide +kernel) rfl rfl rfl (by decide +kernel)
set_option maxRecDepth 65536 in
theorem w_c40 : (Jvm.Cond.code ({ cls := "java/util/ArrayList", name := "grow", desc := "()[Ljava/lang/Object;" } : Jvm.MethodName) jdk_38_method_7_code (1 : Nat) (Option.some (Jvm.ClassFile.FieldType.array (Jvm.ClassFile.FieldType.object "java/lang/Object")))).before args0 about1 = true := code_word (m := ⟨20, 2⟩) (meth := k20m2) (c := k20c2) (by decide +kernel) rfl rfl rfl (by decide +kernel)
set_option maxRecDepth 65536 in
theorem w_c41 : (Jvm.Cond.code ({ cls := "java/util/ArrayList", name := "grow", desc := "(I)[Ljava/lang/Object;" } : Jvm.MethodName) jdk_38_method_6_code (4 : Nat) (Option.some (Jvm.ClassFile.FieldType.array (Jvm.ClassFile.FieldType.object "java/lang/Object")))).before args0 about1 = true := code_word (m := ⟨20, 1⟩) (meth := k20m1) (c := k20c1) (by decide +kernel) rfl rfl rfl (by decide +kernel)
set_option maxRecDepth 65536 in
theorem w_c42 : (Jvm.Cond.code ({ cls := "java/lang/Math", name := "max", desc := "(II)I" } : Jvm.MethodName) jdk_29_method_65_code (2 : Nat) (Option.some Jvm.ClassFile.FieldType.int)).before args0 about1 = true := code_word (m := ⟨26, 1⟩) (meth := k26m1) (c := k26c1) (by decide +kernel) rfl rfl rfl (by decide +kernel)
set_option maxRecDepth 65536 in
theorem w_c43 : (Jvm.Cond.code ({ cls := "java/lang/StringBuilder", name := "setLength", desc := "(I)V" } : Jvm.MethodName) jdk_67_method_89_code (2 : Nat) (Option.none : Option Jvm.ClassFile.FieldType)).before args0 about1 = true := code_word (m := ⟨23, 3⟩) (meth := k23m3) (c := k23c3) (by decide +kernel) rfl rfl rfl (by decide +kernel)
set_option maxRecDepth 65536 in
theorem w_c44 : (Jvm.Cond.code ({ cls := "java/lang/AbstractStringBuilder", name := "setLength", desc := "(I)V" } : Jvm.MethodName) jdk_68_method_13_code (2 : Nat) (Option.none : Option Jvm.ClassFile.FieldType)).before args0 about1 = true := code_word (m := ⟨22, 4⟩) (meth := k22m4) (c := k22c4) (by decide +kernel) rfl rfl rfl (by decide +kernel)
set_option maxRecDepth 65536 in
theorem w_c45 : (Jvm.Cond.code ({ cls := "java/util/ArrayList", name := "size", desc := "()I" } : Jvm.MethodName) jdk_38_method_8_code (1 : Nat) (Option.some Jvm.ClassFile.FieldType.int)).before args0 about1 = true := code_word (m := ⟨20, 3⟩) (meth := k20m3) (c := k20c3) (by decide +kernel) rfl rfl rfl (by decide +kernel)
set_option maxRecDepth 65536 in
theorem w_c46 : (Jvm.Cond.code ({ cls := "java/util/ArrayList", name := "get", desc := "(I)Ljava/lang/Object;" } : Jvm.MethodName) jdk_38_method_20_code (2 : Nat) (Option.some (Jvm.ClassFile.FieldType.object "java/lang/Object"))).before args0 about1 = true := code_word (m := ⟨20, 5⟩) (meth := k20m5) (c := k20c5) (by decide +kernel) rfl rfl rfl (by decide +kernel)
set_option maxRecDepth 65536 in
theorem w_c47 : (Jvm.Cond.code ({ cls := "java/util/Objects", name := "checkIndex", desc := "(II)I" } : Jvm.MethodName) jdk_31_method_17_code (2 : Nat) (Option.some Jvm.ClassFile.FieldType.int)).before args0 about1 = true := code_word (m := ⟨28, 1⟩) (meth := k28m1) (c := k28c1) (by decide +kernel) rfl rfl rfl (by decide +kernel)
set_option maxRecDepth 65536 in
theorem w_c48 : (Jvm.Cond.code ({ cls := "java/util/ArrayList", name := "elementData", desc := "(I)Ljava/lang/Object;" } : Jvm.MethodName) jdk_38_method_18_code (2 : Nat) (Option.some (Jvm.ClassFile.FieldType.object "java/lang/Object"))).before args0 about1 = true := code_word (m := ⟨20, 4⟩) (meth := k20m4) (c := k20c4) (by decide +kernel) rfl rfl rfl (by decide +kernel)
set_option maxRecDepth 65536 in
theorem w_c49 : (Jvm.Cond.code ({ cls := "java/lang/String", name := "substring", desc := "(II)Ljava/lang/String;" } : Jvm.MethodName) jdk_42_method_92_code (5 : Nat) (Option.some (Jvm.ClassFile.FieldType.object "java/lang/String"))).before args0 about1 = true := code_word (m := ⟨7, 4⟩) (meth := k7m4) (c := k7c4) (by decide +kernel) rfl rfl rfl (by decide +kernel)
set_option maxRecDepth 65536 in
theorem w_c50 : (Jvm.Cond.code ({ cls := "java/lang/String", name := "checkBoundsBeginEnd", desc := "(III)V" } : Jvm.MethodName) jdk_42_method_158_code (3 : Nat) (Option.none : Option Jvm.ClassFile.FieldType)).before args0 about1 = true := code_word (m := ⟨7, 11⟩) (meth := k7m11) (c := k7c11) (by decide +kernel) rfl rfl rfl (by decide +kernel)
set_option maxRecDepth 65536 in
theorem w_c51 : (Jvm.Cond.code ({ cls := "jdk/internal/util/Preconditions", name := "checkFromToIndex", desc := "(IIILjava/util/function/BiFunction;)I" } : Jvm.MethodName) jdk_41_method_12_code (4 : Nat) (Option.some Jvm.ClassFile.FieldType.int)).before args0 about1 = true := code_word (m := ⟨24, 2⟩) (meth := k24m2) (c := k24c2) (by decide +kernel) rfl rfl rfl (by decide +kernel)
set_option maxRecDepth 65536 in
theorem w_c52 : (Jvm.Cond.code ({ cls := "com/example/idiolect/idiolect/internal/datetime/DateTimePatterns$Token", name := "field", desc := "(Ljava/lang/String;)Lcom/example/idiolect/idiolect/internal/datetime/DateTimePatterns$Token;" } : Jvm.MethodName) prog_79_method_2_code (1 : Nat) (Option.some (Jvm.ClassFile.FieldType.object "com/example/idiolect/idiolect/internal/datetime/DateTimePatterns$Token"))).before args0 about1 = true := code_word (m := ⟨9, 1⟩) (meth := k9m1) (c := k9c1) (by decide +kernel) rfl rfl rfl (by decide +kernel)
def codes1 : List Jvm.Cond := [Jvm.Cond.code x code maxLocals ret, Jvm.Cond.code ({ cls := "com/example/idiolect/idiolect/internal/datetime/DateTimePatterns$Token", name := "<init>", desc := "(CLjava/lang/String;)V" } : Jvm.MethodName) prog_79_method_1_code (3 : Nat) (Option.none : Option Jvm.ClassFile.FieldType), Jvm.Cond.code ({ cls := "java/lang/Record", name := "<init>", desc := "()V" } : Jvm.MethodName) jdk_30_method_1_code (1 : Nat) (Option.none : Option Jvm.ClassFile.FieldType), Jvm.Cond.code ({ cls := "java/lang/Object", name := "<init>", desc := "()V" } : Jvm.MethodName) object_method_1_code (1 : Nat) (Option.none : Option Jvm.ClassFile.FieldType), Jvm.Cond.code ({ cls := "com/example/idiolect/idiolect/internal/datetime/DateTimePatterns$Token", name := "isField", desc := "()Z" } : Jvm.MethodName) prog_79_method_4_code (1 : Nat) (Option.some Jvm.ClassFile.FieldType.boolean), Jvm.Cond.code ({ cls := "java/lang/String", name := "valueOf", desc := "(C)Ljava/lang/String;" } : Jvm.MethodName) jdk_42_method_139_code (1 : Nat) (Option.some (Jvm.ClassFile.FieldType.object "java/lang/String")), Jvm.Cond.code ({ cls := "java/lang/StringLatin1", name := "canEncode", desc := "(C)Z" } : Jvm.MethodName) jdk_43_method_3_code (1 : Nat) (Option.some Jvm.ClassFile.FieldType.boolean), Jvm.Cond.code ({ cls := "java/lang/StringLatin1", name := "toBytes", desc := "(C)[B" } : Jvm.MethodName) jdk_43_method_46_code (1 : Nat) (Option.some (Jvm.ClassFile.FieldType.array Jvm.ClassFile.FieldType.byte)), Jvm.Cond.code ({ cls := "java/lang/String", name := "<init>", desc := "([BB)V" } : Jvm.MethodName) jdk_42_method_151_code (3 : Nat) (Option.none : Option Jvm.ClassFile.FieldType), Jvm.Cond.code ({ cls := "com/example/idiolect/idiolect/internal/datetime/DateTimePatterns", name := "tokens", desc := "(Ljava/lang/String;)Ljava/util/List;" } : Jvm.MethodName) prog_75_method_11_code (6 : Nat) (Option.some (Jvm.ClassFile.FieldType.object "java/util/List")), Jvm.Cond.code ({ cls := "java/util/ArrayList", name := "<init>", desc := "()V" } : Jvm.MethodName) jdk_38_method_2_code (1 : Nat) (Option.none : Option Jvm.ClassFile.FieldType), Jvm.Cond.code ({ cls := "java/util/AbstractList", name := "<init>", desc := "()V" } : Jvm.MethodName) jdk_39_method_1_code (1 : Nat) (Option.none : Option Jvm.ClassFile.FieldType), Jvm.Cond.code ({ cls := "java/util/AbstractCollection", name := "<init>", desc := "()V" } : Jvm.MethodName) jdk_22_method_1_code (1 : Nat) (Option.none : Option Jvm.ClassFile.FieldType), Jvm.Cond.code ({ cls := "java/lang/StringBuilder", name := "<init>", desc := "()V" } : Jvm.MethodName) jdk_67_method_1_code (1 : Nat) (Option.none : Option Jvm.ClassFile.FieldType), Jvm.Cond.code ({ cls := "java/lang/AbstractStringBuilder", name := "<init>", desc := "(I)V" } : Jvm.MethodName) jdk_68_method_2_code (2 : Nat) (Option.none : Option Jvm.ClassFile.FieldType), Jvm.Cond.code ({ cls := "java/lang/String", name := "length", desc := "()I" } : Jvm.MethodName) jdk_42_method_54_code (1 : Nat) (Option.some Jvm.ClassFile.FieldType.int), Jvm.Cond.code ({ cls := "java/lang/String", name := "coder", desc := "()B" } : Jvm.MethodName) jdk_42_method_152_code (1 : Nat) (Option.some Jvm.ClassFile.FieldType.byte), Jvm.Cond.code ({ cls := "java/lang/String", name := "charAt", desc := "(I)C" } : Jvm.MethodName) jdk_42_method_56_code (2 : Nat) (Option.some Jvm.ClassFile.FieldType.char), Jvm.Cond.code ({ cls := "java/lang/String", name := "isLatin1", desc := "()Z" } : Jvm.MethodName) jdk_42_method_154_code (1 : Nat) (Option.some Jvm.ClassFile.FieldType.boolean), Jvm.Cond.code ({ cls := "java/lang/StringLatin1", name := "charAt", desc := "([BI)C" } : Jvm.MethodName) jdk_43_method_2_code (2 : Nat) (Option.some Jvm.ClassFile.FieldType.char), Jvm.Cond.code ({ cls := "java/lang/String", name := "checkIndex", desc := "(II)V" } : Jvm.MethodName) jdk_42_method_155_code (2 : Nat) (Option.none : Option Jvm.ClassFile.FieldType), Jvm.Cond.code ({ cls := "jdk/internal/util/Preconditions", name := "checkIndex", desc := "(IILjava/util/function/BiFunction;)I" } : Jvm.MethodName) jdk_41_method_11_code (3 : Nat) (Option.some Jvm.ClassFile.FieldType.int), Jvm.Cond.code ({ cls := "java/lang/StringBuilder", name := "append", desc := "(C)Ljava/lang/StringBuilder;" } : Jvm.MethodName) jdk_67_method_14_code (2 : Nat) (Option.some (Jvm.ClassFile.FieldType.object "java/lang/StringBuilder")), Jvm.Cond.code ({ cls := "java/lang/AbstractStringBuilder", name := "append", desc := "(C)Ljava/lang/AbstractStringBuilder;" } : Jvm.MethodName) jdk_68_method_31_code (2 : Nat) (Option.some (Jvm.ClassFile.FieldType.object "java/lang/AbstractStringBuilder")), Jvm.Cond.code ({ cls := "java/lang/AbstractStringBuilder", name := "ensureCapacityInternal", desc := "(I)V" } : Jvm.MethodName) jdk_68_method_9_code (3 : Nat) (Option.none : Option Jvm.ClassFile.FieldType), Jvm.Cond.code ({ cls := "java/lang/AbstractStringBuilder", name := "isLatin1", desc := "()Z" } : Jvm.MethodName) jdk_68_method_68_code (1 : Nat) (Option.some Jvm.ClassFile.FieldType.boolean), Jvm.Cond.code ({ cls := "com/example/idiolect/idiolect/internal/datetime/DateTimePatterns", name := "addLiteral", desc := "(Ljava/util/List;Ljava/lang/StringBuilder;)V" } : Jvm.MethodName) prog_75_method_12_code (2 : Nat) (Option.none : Option Jvm.ClassFile.FieldType), Jvm.Cond.code ({ cls := "java/lang/StringBuilder", name := "length", desc := "()I" } : Jvm.MethodName) jdk_67_method_93_code (1 : Nat) (Option.some Jvm.ClassFile.FieldType.int), Jvm.Cond.code ({ cls := "java/lang/AbstractStringBuilder", name := "length", desc := "()I" } : Jvm.MethodName) jdk_68_method_6_code (1 : Nat) (Option.some Jvm.ClassFile.FieldType.int), Jvm.Cond.code ({ cls := "java/lang/StringBuilder", name := "toString", desc := "()Ljava/lang/String;" } : Jvm.MethodName) jdk_67_method_42_code (1 : Nat) (Option.some (Jvm.ClassFile.FieldType.object "java/lang/String")), Jvm.Cond.code ({ cls := "java/lang/String", name := "<init>", desc := "(Ljava/lang/StringBuilder;)V" } : Jvm.MethodName) jdk_42_method_53_code (2 : Nat) (Option.none : Option Jvm.ClassFile.FieldType), Jvm.Cond.code ({ cls := "java/lang/String", name := "<init>", desc := "(Ljava/lang/AbstractStringBuilder;Ljava/lang/Void;)V" } : Jvm.MethodName) jdk_42_method_150_code (5 : Nat) (Option.none : Option Jvm.ClassFile.FieldType), Jvm.Cond.code ({ cls := "java/lang/AbstractStringBuilder", name := "getValue", desc := "()[B" } : Jvm.MethodName) jdk_68_method_64_code (1 : Nat) (Option.some (Jvm.ClassFile.FieldType.array Jvm.ClassFile.FieldType.byte)), Jvm.Cond.code ({ cls := "java/util/Arrays", name := "copyOfRange", desc := "([BII)[B" } : Jvm.MethodName) jdk_65_method_132_code (3 : Nat) (Option.some (Jvm.ClassFile.FieldType.array Jvm.ClassFile.FieldType.byte)), Jvm.Cond.code ({ cls := "java/util/Arrays", name := "copyOfRangeByte", desc := "([BII)[B" } : Jvm.MethodName) jdk_65_method_133_code (5 : Nat) (Option.some (Jvm.ClassFile.FieldType.array Jvm.ClassFile.FieldType.byte)), Jvm.Cond.code ({ cls := "java/util/Arrays", name := "checkLength", desc := "(II)V" } : Jvm.MethodName) jdk_65_method_131_code (2 : Nat) (Option.none : Option Jvm.ClassFile.FieldType), Jvm.Cond.code ({ cls := "java/lang/Math", name := "min", desc := "(II)I" } : Jvm.MethodName) jdk_29_method_69_code (2 : Nat) (Option.some Jvm.ClassFile.FieldType.int), Jvm.Cond.code ({ cls := "com/example/idiolect/idiolect/internal/datetime/DateTimePatterns$Token", name := "literal", desc := "(Ljava/lang/String;)Lcom/example/idiolect/idiolect/internal/datetime/DateTimePatterns$Token;" } : Jvm.MethodName) prog_79_method_3_code (1 : Nat) (Option.some (Jvm.ClassFile.FieldType.object "com/example/idiolect/idiolect/internal/datetime/DateTimePatterns$Token")), Jvm.Cond.code ({ cls := "java/util/ArrayList", name := "add", desc := "(Ljava/lang/Object;)Z" } : Jvm.MethodName) jdk_38_method_25_code (2 : Nat) (Option.some Jvm.ClassFile.FieldType.boolean), Jvm.Cond.code ({ cls := "java/util/ArrayList", name := "add", desc := "(Ljava/lang/Object;[Ljava/lang/Object;I)V" } : Jvm.MethodName) jdk_38_method_24_code (4 : Nat) (Option.none : Option Jvm.ClassFile.FieldType), Jvm.Cond.code ({ cls := "java/util/ArrayList", name := "grow", desc := "()[Ljava/lang/Object;" } : Jvm.MethodName) jdk_38_method_7_code (1 : Nat) (Option.some (Jvm.ClassFile.FieldType.array (Jvm.ClassFile.FieldType.object "java/lang/Object"))), Jvm.Cond.code ({ cls := "java/util/ArrayList", name := "grow", desc := "(I)[Ljava/lang/Object;" } : Jvm.MethodName) jdk_38_method_6_code (4 : Nat) (Option.some (Jvm.ClassFile.FieldType.array (Jvm.ClassFile.FieldType.object "java/lang/Object"))), Jvm.Cond.code ({ cls := "java/lang/Math", name := "max", desc := "(II)I" } : Jvm.MethodName) jdk_29_method_65_code (2 : Nat) (Option.some Jvm.ClassFile.FieldType.int), Jvm.Cond.code ({ cls := "java/lang/StringBuilder", name := "setLength", desc := "(I)V" } : Jvm.MethodName) jdk_67_method_89_code (2 : Nat) (Option.none : Option Jvm.ClassFile.FieldType), Jvm.Cond.code ({ cls := "java/lang/AbstractStringBuilder", name := "setLength", desc := "(I)V" } : Jvm.MethodName) jdk_68_method_13_code (2 : Nat) (Option.none : Option Jvm.ClassFile.FieldType), Jvm.Cond.code ({ cls := "java/util/ArrayList", name := "size", desc := "()I" } : Jvm.MethodName) jdk_38_method_8_code (1 : Nat) (Option.some Jvm.ClassFile.FieldType.int), Jvm.Cond.code ({ cls := "java/util/ArrayList", name := "get", desc := "(I)Ljava/lang/Object;" } : Jvm.MethodName) jdk_38_method_20_code (2 : Nat) (Option.some (Jvm.ClassFile.FieldType.object "java/lang/Object")), Jvm.Cond.code ({ cls := "java/util/Objects", name := "checkIndex", desc := "(II)I" } : Jvm.MethodName) jdk_31_method_17_code (2 : Nat) (Option.some Jvm.ClassFile.FieldType.int), Jvm.Cond.code ({ cls := "java/util/ArrayList", name := "elementData", desc := "(I)Ljava/lang/Object;" } : Jvm.MethodName) jdk_38_method_18_code (2 : Nat) (Option.some (Jvm.ClassFile.FieldType.object "java/lang/Object")), Jvm.Cond.code ({ cls := "java/lang/String", name := "substring", desc := "(II)Ljava/lang/String;" } : Jvm.MethodName) jdk_42_method_92_code (5 : Nat) (Option.some (Jvm.ClassFile.FieldType.object "java/lang/String")), Jvm.Cond.code ({ cls := "java/lang/String", name := "checkBoundsBeginEnd", desc := "(III)V" } : Jvm.MethodName) jdk_42_method_158_code (3 : Nat) (Option.none : Option Jvm.ClassFile.FieldType), Jvm.Cond.code ({ cls := "jdk/internal/util/Preconditions", name := "checkFromToIndex", desc := "(IIILjava/util/function/BiFunction;)I" } : Jvm.MethodName) jdk_41_method_12_code (4 : Nat) (Option.some Jvm.ClassFile.FieldType.int), Jvm.Cond.code ({ cls := "com/example/idiolect/idiolect/internal/datetime/DateTimePatterns$Token", name := "field", desc := "(Ljava/lang/String;)Lcom/example/idiolect/idiolect/internal/datetime/DateTimePatterns$Token;" } : Jvm.MethodName) prog_79_method_2_code (1 : Nat) (Option.some (Jvm.ClassFile.FieldType.object "com/example/idiolect/idiolect/internal/datetime/DateTimePatterns$Token"))]
set_option maxRecDepth 65536 in
theorem codes_eq : words1.filter isCode = codes1 := rfl
theorem w_codes : ∀ c ∈ words1.filter isCode, c.before args0 about1 = true := by
  rw [codes_eq]
  intro c hc
  simp only [codes1, List.mem_cons, List.not_mem_nil, or_false] at hc
  rcases hc with rfl | rfl | rfl | rfl | rfl | rfl | rfl | rfl | rfl | rfl | rfl | rfl | rfl | rfl | rfl | rfl | rfl | rfl | rfl | rfl | rfl | rfl | rfl | rfl | rfl | rfl | rfl | rfl | rfl | rfl | rfl | rfl | rfl | rfl | rfl | rfl | rfl | rfl | rfl | rfl | rfl | rfl | rfl | rfl | rfl | rfl | rfl | rfl | rfl | rfl | rfl | rfl | rfl
  · exact w_c0
  · exact w_c1
  · exact w_c2
  · exact w_c3
  · exact w_c4
  · exact w_c5
  · exact w_c6
  · exact w_c7
  · exact w_c8
  · exact w_c9
  · exact w_c10
  · exact w_c11
  · exact w_c12
  · exact w_c13
  · exact w_c14
  · exact w_c15
  · exact w_c16
  · exact w_c17
  · exact w_c18
  · exact w_c19
  · exact w_c20
  · exact w_c21
  · exact w_c22
  · exact w_c23
  · exact w_c24
  · exact w_c25
  · exact w_c26
  · exact w_c27
  · exact w_c28
  · exact w_c29
  · exact w_c30
  · exact w_c31
  · exact w_c32
  · exact w_c33
  · exact w_c34
  · exact w_c35
  · exact w_c36
  · exact w_c37
  · exact w_c38
  · exact w_c39
  · exact w_c40
  · exact w_c41
  · exact w_c42
  · exact w_c43
  · exact w_c44
  · exact w_c45
  · exact w_c46
  · exact w_c47
  · exact w_c48
  · exact w_c49
  · exact w_c50
  · exact w_c51
  · exact w_c52
set_option maxRecDepth 65536 in
theorem w_t1 : (words1.take 24).all (fun c => isCode c || c.before args0 about1) = true := by decide +kernel
set_option maxRecDepth 65536 in
theorem w_t2 : ((words1.drop 24).take 24).all (fun c => isCode c || c.before args0 about1) = true := by decide +kernel
set_option maxRecDepth 65536 in
theorem w_t3 : (((words1.drop 24).drop 24).take 24).all (fun c => isCode c || c.before args0 about1) = true := by decide +kernel
set_option maxRecDepth 65536 in
theorem w_t4 : ((((words1.drop 24).drop 24).drop 24).take 24).all (fun c => isCode c || c.before args0 about1) = true := by decide +kernel
set_option maxRecDepth 65536 in
theorem w_t5 : (((((words1.drop 24).drop 24).drop 24).drop 24).take 24).all (fun c => isCode c || c.before args0 about1) = true := by decide +kernel
set_option maxRecDepth 65536 in
theorem w_t6 : ((((((words1.drop 24).drop 24).drop 24).drop 24).drop 24).take 24).all (fun c => isCode c || c.before args0 about1) = true := by decide +kernel
set_option maxRecDepth 65536 in
theorem w_t7 : (((((((words1.drop 24).drop 24).drop 24).drop 24).drop 24).drop 24).take 24).all (fun c => isCode c || c.before args0 about1) = true := by decide +kernel
set_option maxRecDepth 65536 in
theorem w_t8 : ((((((((words1.drop 24).drop 24).drop 24).drop 24).drop 24).drop 24).drop 24).take 24).all (fun c => isCode c || c.before args0 about1) = true := by decide +kernel
set_option maxRecDepth 65536 in
theorem w_t9 : (((((((((words1.drop 24).drop 24).drop 24).drop 24).drop 24).drop 24).drop 24).drop 24).take 24).all (fun c => isCode c || c.before args0 about1) = true := by decide +kernel
set_option maxRecDepth 65536 in
theorem w_t10 : ((((((((((words1.drop 24).drop 24).drop 24).drop 24).drop 24).drop 24).drop 24).drop 24).drop 24).take 24).all (fun c => isCode c || c.before args0 about1) = true := by decide +kernel
set_option maxRecDepth 65536 in
theorem w_t11 : (((((((((((words1.drop 24).drop 24).drop 24).drop 24).drop 24).drop 24).drop 24).drop 24).drop 24).drop 24).take 24).all (fun c => isCode c || c.before args0 about1) = true := by decide +kernel
set_option maxRecDepth 65536 in
theorem w_t12 : ((((((((((((words1.drop 24).drop 24).drop 24).drop 24).drop 24).drop 24).drop 24).drop 24).drop 24).drop 24).drop 24).take 24).all (fun c => isCode c || c.before args0 about1) = true := by decide +kernel
set_option maxRecDepth 65536 in
theorem w_t13 : ((((((((((((words1.drop 24).drop 24).drop 24).drop 24).drop 24).drop 24).drop 24).drop 24).drop 24).drop 24).drop 24).drop 24).all (fun c => isCode c || c.before args0 about1) = true := by decide +kernel
theorem w_tables : (allAtoms (Jvm.Cond.code x code maxLocals ret :: tables_1)).before args0 about1 = true := by
  rw [allAtoms_all]
  show words1.all (fun c => c.before args0 about1) = true
  refine all_split ?_ w_codes
  rw [← List.take_append_drop 24 words1, List.all_append, w_t1, ← List.take_append_drop 24 (words1.drop 24), List.all_append, w_t2, ← List.take_append_drop 24 ((words1.drop 24).drop 24), List.all_append, w_t3, ← List.take_append_drop 24 (((words1.drop 24).drop 24).drop 24), List.all_append, w_t4, ← List.take_append_drop 24 ((((words1.drop 24).drop 24).drop 24).drop 24), List.all_append, w_t5, ← List.take_append_drop 24 (((((words1.drop 24).drop 24).drop 24).drop 24).drop 24), List.all_append, w_t6, ← List.take_append_drop 24 ((((((words1.drop 24).drop 24).drop 24).drop 24).drop 24).drop 24), List.all_append, w_t7, ← List.take_append_drop 24 (((((((words1.drop 24).drop 24).drop 24).drop 24).drop 24).drop 24).drop 24), List.all_append, w_t8, ← List.take_append_drop 24 ((((((((words1.drop 24).drop 24).drop 24).drop 24).drop 24).drop 24).drop 24).drop 24), List.all_append, w_t9, ← List.take_append_drop 24 (((((((((words1.drop 24).drop 24).drop 24).drop 24).drop 24).drop 24).drop 24).drop 24).drop 24), List.all_append, w_t10, ← List.take_append_drop 24 ((((((((((words1.drop 24).drop 24).drop 24).drop 24).drop 24).drop 24).drop 24).drop 24).drop 24).drop 24), List.all_append, w_t11, ← List.take_append_drop 24 (((((((((((words1.drop 24).drop 24).drop 24).drop 24).drop 24).drop 24).drop 24).drop 24).drop 24).drop 24).drop 24), List.all_append, w_t12, w_t13]
  rfl
set_option maxRecDepth 65536 in
theorem w_rest : rest_1_c.before args0 about1 = true := by decide +kernel
set_option maxRecDepth 65536 in
theorem w_case : (Jvm.Cond.and given_1 narrow_1).before args0 about1 = true := by decide +kernel
theorem w_applies : (headSpec (Jvm.Cond.code x code maxLocals ret :: tables_1) room_1).applies x e0.platform about1 = true :=
  (Spec.applies_iff w_frames).mpr ⟨w_running, w_runnable, w_alone, w_named, w_hears, w_ripe, w_room, w_tables⟩
theorem atStart : AtStart classFile x code maxLocals ret World_1 tables_1 room_1 Calls_1 rest_1 Pre_1 launch0 p0 e0 about1 theMethod args0 below0 :=
  ⟨lists_1, trivial, launch0.admits_env _ _ _, launch0.least_env, fairChoices_fair.cas, fairChoices_fair.clock, w_frames, w_args, w_heap, w_applies, trivial, w_rest, w_case⟩
end start1
theorem witness_1 : WitnessClaimed_1 := ⟨start1.p0, start1.e0, start1.about1, start1.theMethod, start1.args0, start1.below0, start1.atStart⟩
end Jvm.Pilot.@@N@@
