import JvmDerived
import JvmDerived.Pilot.@@N@@Statement
import JvmDerived.Pilot.@@N@@Code
set_option linter.unusedVariables false
set_option linter.unusedSimpArgs false
namespace Jvm.Pilot.@@N@@
open Jvm Jvm.ClassFile Sem Op Lib Jvm.Free Jvm.Stand Jvm.LawKit Jvm.RoadKit Bundle Jvm.Pilot.@@N@@.Jvm.D
section Own
variable {p : Program} {l : Launch} {e : Env} {R : Room} {s : State} {m : MethodId} {args : Array Value} {below : List Frame} {meth : Method} {c : Code} {T T' : State} {locs : List Loc} {cells slots : Nat} {Z : State} {h h' : Heap} {P : Option Value → Heap → List Loc → Prop} {cm sm : Nat} {g g' : JFrame}
/-- from where the walk stands the body comes to its end, and P says what it leaves -/
def own_Go (p : Program) (e : Env) (below : List Frame) (s : State) (P : Option Value → Heap → List Loc → Prop) (cm sm : Nat) (T : State) (g : JFrame) : Prop :=
  ∃ s₂ o, Steps p.tables e below (T.setTop g) s₂ ∧ s₂.status = .running ∧ Ended s₂ below o ∧ ∃ v L, o = .returned v ∧ P v s₂.heap L ∧ FrameEnd s o s₂ L cm sm
theorem own_st (st : ∀ t, Steps p.tables e below (T'.setTop g') t → Steps p.tables e below (T.setTop g) t) (k : own_Go p e below s P cm sm T' g') : own_Go p e below s P cm sm T g := by
  obtain ⟨s₂, o, h1, h2⟩ := k; exact ⟨s₂, o, st _ h1, h2⟩
theorem own_tr (st : Steps p.tables e below (T.setTop g) (T'.setTop g')) (k : own_Go p e below s P cm sm T' g') : own_Go p e below s P cm sm T g := own_st (fun _ q => st.trans q) k
theorem own_out (X : Stand p l e R s m args below meth c T locs cells slots) {v : Option Value} (hv : meth.sig.returnType = none → v = none) (hlk : meth.locks = false) (eT : T.heap = h)
    (hret : ∀ fs, (∀ (f : JFrame) (acts : List Action), f.method = m → f.locked = none → f.entered = [] → (doReturn e (T.setTop f) acts v).1 = T.setFrames fs) → Steps p.tables e below (T.setTop g) (T.setFrames fs))
    (hP : P v h locs) (hc : cells ≤ cm) (hs : slots ≤ sm) : own_Go p e below s P cm sm T g := by
  obtain ⟨fs, hr, hrun, hended, hW, hsame⟩ := X.leave hv hlk
  subst eT
  exact ⟨_, _, hret fs hr, hrun, hended, v, locs, rfl, hP, ⟨_, rfl⟩, hW, hsame.mono hc hs⟩
theorem own_retI (X : Stand p l e R s m args below meth c T locs cells slots) (hx : p.tables.exec = Jvm.exec) (hret : meth.sig.returnType = some .int) (hlk : meth.locks = false) (eT : T.heap = h) {pc : Nat} {Ls : Array Slot} {z : Int32} {rest : List Value} (hd : decode c.code pc = .ok (.ireturn, 1))
    (hP : P (some (.int z)) h locs) (hc : cells ≤ cm) (hs : slots ≤ sm) : own_Go p e below s P cm sm T (mkF m pc Ls (.int z :: rest)) :=
  own_out X (fun q => by rw [hret] at q; cases q) hlk eT (fun fs hr => retOut X hx hret rfl (Or.inl ⟨rfl, Or.inl rfl, z, rfl⟩) hd hr) hP hc hs
theorem own_retN (X : Stand p l e R s m args below meth c T locs cells slots) (hx : p.tables.exec = Jvm.exec) {t : FieldType} (hret : meth.sig.returnType = some t) (hlk : meth.locks = false) (eT : T.heap = h) (ht : t = .boolean ∨ t = .byte ∨ t = .char ∨ t = .short) {pc : Nat} {Ls : Array Slot} {z : Int32} {rest : List Value} (hd : decode c.code pc = .ok (.ireturn, 1))
    (hP : P (some (.int (nar t z))) h locs) (hc : cells ≤ cm) (hs : slots ≤ sm) : own_Go p e below s P cm sm T (mkF m pc Ls (.int z :: rest)) :=
  own_out X (fun q => by rw [hret] at q; cases q) hlk eT (fun fs hr => retN X hx hret ht hd hr) hP hc hs
theorem own_retJ (X : Stand p l e R s m args below meth c T locs cells slots) (hx : p.tables.exec = Jvm.exec) (hret : meth.sig.returnType = some .long) (hlk : meth.locks = false) (eT : T.heap = h) {pc : Nat} {Ls : Array Slot} {z : Int64} {rest : List Value} (hd : decode c.code pc = .ok (.lreturn, 1))
    (hP : P (some (.long z)) h locs) (hc : cells ≤ cm) (hs : slots ≤ sm) : own_Go p e below s P cm sm T (mkF m pc Ls (.long z :: rest)) :=
  own_out X (fun q => by rw [hret] at q; cases q) hlk eT (fun fs hr => retOut X hx hret rfl (Or.inr (Or.inl ⟨rfl, rfl, z, rfl⟩)) hd hr) hP hc hs
theorem own_retR (X : Stand p l e R s m args below meth c T locs cells slots) (hx : p.tables.exec = Jvm.exec) {t : FieldType} (hret : meth.sig.returnType = some t) (hlk : meth.locks = false) (eT : T.heap = h) (ht : t.isReference = true) {pc : Nat} {Ls : Array Slot} {w : Value} (hw : w.isRef = true) {rest : List Value} (hd : decode c.code pc = .ok (.areturn, 1))
    (hP : P (some w) h locs) (hc : cells ≤ cm) (hs : slots ≤ sm) : own_Go p e below s P cm sm T (mkF m pc Ls (w :: rest)) :=
  own_out X (fun q => by rw [hret] at q; cases q) hlk eT (fun fs hr => retOut X hx hret (by cases t <;> cases w <;> first | rfl | (simp [Value.isRef] at hw; done) | (simp [FieldType.isReference] at ht; done)) (Or.inr (Or.inr (Or.inr (Or.inr ⟨rfl, ht, hw⟩)))) hd hr) hP hc hs
theorem own_ret0 (X : Stand p l e R s m args below meth c T locs cells slots) (hx : p.tables.exec = Jvm.exec) (hret : meth.sig.returnType = none) (hlk : meth.locks = false) (eT : T.heap = h) {pc : Nat} {Ls : Array Slot} (hd : decode c.code pc = .ok (.return_, 1))
    (hP : P none h locs) (hc : cells ≤ cm) (hs : slots ≤ sm) : own_Go p e below s P cm sm T (mkF m pc Ls []) :=
  own_out X (fun _ => rfl) hlk eT (fun fs hr => X.returnOut hx hret hd hr) hP hc hs
/-- an array by its length and what each place holds -/
def own_Av (Z : State) (h : Heap) (a : Addr) (k : ClassId) (ty : FieldType) (n : Nat) (f : Nat → Value) : Prop := ∃ cl : Cell, Arr Z h a cl ty ∧ cl.cls = k ∧ cl.slots.size = n ∧ ∀ j, j < n → cl.slots[j]? = some (f j)
variable {a b : Addr} {k : ClassId} {ty : FieldType} {n i sl : Nat} {f : Nat → Value} {v w : Value} {ws : List Addr} {z j x : Int32} {rest : List Value}
theorem own_Av.lt (F : own_Av Z h a k ty n f) : a < h.size := by obtain ⟨cl, A, -⟩ := F; exact A.lt
theorem own_Av.ext (F : own_Av Z h a k ty n f) (E : Ext h h') : own_Av Z h' a k ty n f := by obtain ⟨cl, A, r⟩ := F; exact ⟨cl, A.ext E, r⟩
theorem own_Av.other (F : own_Av Z h b k ty n f) (W : Wr h h' a sl v) (q : b ≠ a) : own_Av Z h' b k ty n f := by obtain ⟨cl, A, r⟩ := F; exact ⟨cl, A.other W q, r⟩
theorem own_Av.keep (F : own_Av Z h a k ty n f) (K : Keep h h' ws) (q : a ∉ ws) : own_Av Z h' a k ty n f := by obtain ⟨cl, A, r⟩ := F; exact ⟨cl, ⟨K.2.1 a cl A.1 q, A.2⟩, r⟩
theorem own_Av.new (A : Arr Z h a (newA k ty z) ty) (hz : z.toNatClampNeg = n) : own_Av Z h a k ty n (fun _ => defaultValue ty) := ⟨_, A, rfl, (sz_new _ _ _).trans hz, fun q hq => by
  subst hz; simp [newA, hq]⟩
theorem own_Av.set (F : own_Av Z h a k ty n f) (W : Wr h h' a i v) (hi : i < n) : own_Av Z h' a k ty n (fun q => if q = i then v else f q) := by
  obtain ⟨cl, A, r1, r2, r3⟩ := F
  refine ⟨_, A.same W, r1, by rw [sz_set]; exact r2, fun q hq => ?_⟩
  by_cases u : q = i
  · subst u; simp [Cell.setSlot, r2, hi]
  · have := r3 q hq; simp only [Cell.setSlot, u, if_false]; rw [Array.getElem?_setIfInBounds_ne (Ne.symm u)]; exact this
theorem own_Av.to {f' : Nat → Value} (F : own_Av Z h a k ty n f) (q : ∀ j, j < n → f j = f' j) : own_Av Z h a k ty n f' := by
  obtain ⟨cl, A, r1, r2, r3⟩ := F; exact ⟨cl, A, r1, r2, fun j hj => by rw [← q j hj]; exact r3 j hj⟩
theorem own_idx (hj : j.toInt = i) : j.toNatClampNeg = i := by simp [Int32.toNatClampNeg, hj]
theorem own_inb {cl : Cell} (hj : j.toInt = i) (hs : cl.slots.size = n) (hi : i < n) : ¬ (j < 0 ∨ cl.slots.size ≤ j.toNatClampNeg) := by
  rw [own_idx hj, hs, Int32.lt_iff_toInt_lt, hj]; have : (0 : Int32).toInt = 0 := rfl; omega
theorem own_stC (X : Stand p l e R s m args below meth c T locs cells slots) (hx : p.tables.exec = Jvm.exec) (hZ : Z.Warmed39 s.vm) (eT : T.heap = h) (F : own_Av Z h a k .char n f) (hj : j.toInt = i) (hi : i < n) (hg : g.method = m) (hs : g.stack = .int x :: .int j :: .ref a :: rest) (hd : decode c.code g.pc = .ok (.castore, 1)) :
    ∃ T' h', Stand p l e R s m args below meth c T' (locs ++ [⟨a, i⟩]) cells slots ∧ T'.heap = h' ∧ Wr h h' a i (.int (nar .char x)) ∧ own_Av Z h' a k .char n (fun q => if q = i then .int (nar .char x) else f q) ∧ ∀ target, Steps p.tables e below (T'.setTop { g with pc := g.pc + 1, stack := rest }) target → Steps p.tables e below (T.setTop g) target := by
  obtain ⟨cl, A, r1, r2, r3⟩ := F
  obtain ⟨T', h', X', e', W, st⟩ := stC X hx hZ eT A (own_inb hj r2 hi) hg hs hd
  rw [own_idx hj] at X' W
  exact ⟨T', h', X', e', W, own_Av.set ⟨cl, A, r1, r2, r3⟩ W hi, st⟩
theorem own_stB (X : Stand p l e R s m args below meth c T locs cells slots) (hx : p.tables.exec = Jvm.exec) (hZ : Z.Warmed39 s.vm) (eT : T.heap = h) (F : own_Av Z h a k .byte n f) (hj : j.toInt = i) (hi : i < n) (hg : g.method = m) (hs : g.stack = .int x :: .int j :: .ref a :: rest) (hd : decode c.code g.pc = .ok (.bastore, 1)) :
    ∃ T' h', Stand p l e R s m args below meth c T' (locs ++ [⟨a, i⟩]) cells slots ∧ T'.heap = h' ∧ Wr h h' a i (.int (nar .byte x)) ∧ own_Av Z h' a k .byte n (fun q => if q = i then .int (nar .byte x) else f q) ∧ ∀ target, Steps p.tables e below (T'.setTop { g with pc := g.pc + 1, stack := rest }) target → Steps p.tables e below (T.setTop g) target := by
  obtain ⟨cl, A, r1, r2, r3⟩ := F
  obtain ⟨T', h', X', e', W, st⟩ := stB X hx hZ eT A (own_inb hj r2 hi) hg hs hd
  rw [own_idx hj] at X' W
  exact ⟨T', h', X', e', W, own_Av.set ⟨cl, A, r1, r2, r3⟩ W hi, st⟩
theorem own_stI (X : Stand p l e R s m args below meth c T locs cells slots) (hx : p.tables.exec = Jvm.exec) (hZ : Z.Warmed39 s.vm) (eT : T.heap = h) (F : own_Av Z h a k .int n f) (hj : j.toInt = i) (hi : i < n) (hg : g.method = m) (hs : g.stack = .int x :: .int j :: .ref a :: rest) (hd : decode c.code g.pc = .ok (.iastore, 1)) :
    ∃ T' h', Stand p l e R s m args below meth c T' (locs ++ [⟨a, i⟩]) cells slots ∧ T'.heap = h' ∧ Wr h h' a i (.int x) ∧ own_Av Z h' a k .int n (fun q => if q = i then .int x else f q) ∧ ∀ target, Steps p.tables e below (T'.setTop { g with pc := g.pc + 1, stack := rest }) target → Steps p.tables e below (T.setTop g) target := by
  obtain ⟨cl, A, r1, r2, r3⟩ := F
  obtain ⟨T', h', X', e', W, st⟩ := stI X hx hZ eT A (own_inb hj r2 hi) hg hs hd
  rw [own_idx hj] at X' W
  exact ⟨T', h', X', e', W, own_Av.set ⟨cl, A, r1, r2, r3⟩ W hi, st⟩
theorem own_stJ {y : Int64} (X : Stand p l e R s m args below meth c T locs cells slots) (hx : p.tables.exec = Jvm.exec) (hZ : Z.Warmed39 s.vm) (eT : T.heap = h) (F : own_Av Z h a k .long n f) (hj : j.toInt = i) (hi : i < n) (hg : g.method = m) (hs : g.stack = .long y :: .int j :: .ref a :: rest) (hd : decode c.code g.pc = .ok (.lastore, 1)) :
    ∃ T' h', Stand p l e R s m args below meth c T' (locs ++ [⟨a, i⟩]) cells slots ∧ T'.heap = h' ∧ Wr h h' a i (.long y) ∧ own_Av Z h' a k .long n (fun q => if q = i then .long y else f q) ∧ ∀ target, Steps p.tables e below (T'.setTop { g with pc := g.pc + 1, stack := rest }) target → Steps p.tables e below (T.setTop g) target := by
  obtain ⟨cl, A, r1, r2, r3⟩ := F
  obtain ⟨T', h', X', e', W, st⟩ := stJ X hx hZ eT A (own_inb hj r2 hi) hg hs hd
  rw [own_idx hj] at X' W
  exact ⟨T', h', X', e', W, own_Av.set ⟨cl, A, r1, r2, r3⟩ W hi, st⟩
theorem own_stR {C : String} (X : Stand p l e R s m args below meth c T locs cells slots) (hx : p.tables.exec = Jvm.exec) (hZ : Z.Warmed39 s.vm) (eT : T.heap = h) (F : own_Av Z h a k (.object C) n f) (O : Ovr Z k C) (I : v = .null ∨ ∃ y, v = .ref y ∧ Ins Z h y C true) (hj : j.toInt = i) (hi : i < n) (hg : g.method = m) (hs : g.stack = v :: .int j :: .ref a :: rest) (hd : decode c.code g.pc = .ok (.aastore, 1)) :
    ∃ T' h', Stand p l e R s m args below meth c T' (locs ++ [⟨a, i⟩]) cells slots ∧ T'.heap = h' ∧ Wr h h' a i v ∧ own_Av Z h' a k (.object C) n (fun q => if q = i then v else f q) ∧ ∀ target, Steps p.tables e below (T'.setTop { g with pc := g.pc + 1, stack := rest }) target → Steps p.tables e below (T.setTop g) target := by
  obtain ⟨cl, A, r1, r2, r3⟩ := F
  have St : Sto Z h a v := by
    rcases I with rfl | ⟨y, rfl, I⟩
    · exact Or.inl rfl
    · exact Sto.ofV A r1 O I
  obtain ⟨T', h', X', e', W, st⟩ := stR X hx hZ eT A (own_inb hj r2 hi) rfl St hg hs hd
  rw [own_idx hj] at X' W
  exact ⟨T', h', X', e', W, own_Av.set ⟨cl, A, r1, r2, r3⟩ W hi, st⟩
theorem own_stS (X : Stand p l e R s m args below meth c T locs cells slots) (hx : p.tables.exec = Jvm.exec) (hZ : Z.Warmed39 s.vm) (eT : T.heap = h) (F : own_Av Z h a k ty n f) (hty : ty.isReference = true) (So : ∀ cl : Cell, Arr Z h a cl ty → cl.cls = k → Sto Z h a v) (hj : j.toInt = i) (hi : i < n) (hg : g.method = m) (hs : g.stack = v :: .int j :: .ref a :: rest) (hd : decode c.code g.pc = .ok (.aastore, 1)) :
    ∃ T' h', Stand p l e R s m args below meth c T' (locs ++ [⟨a, i⟩]) cells slots ∧ T'.heap = h' ∧ Wr h h' a i v ∧ own_Av Z h' a k ty n (fun q => if q = i then v else f q) ∧ ∀ target, Steps p.tables e below (T'.setTop { g with pc := g.pc + 1, stack := rest }) target → Steps p.tables e below (T.setTop g) target := by
  obtain ⟨cl, A, r1, r2, r3⟩ := F
  obtain ⟨T', h', X', e', W, st⟩ := stR X hx hZ eT A (own_inb hj r2 hi) hty (So cl A r1) hg hs hd
  rw [own_idx hj] at X' W
  exact ⟨T', h', X', e', W, own_Av.set ⟨cl, A, r1, r2, r3⟩ W hi, st⟩
theorem own_ldC (X : Stand p l e R s m args below meth c T locs cells slots) (hx : p.tables.exec = Jvm.exec) (hZ : Z.Warmed39 s.vm) (eT : T.heap = h) (F : own_Av Z h a k .char n f) (hj : j.toInt = i) (hi : i < n) (hv : f i = v) (hg : g.method = m) (hs : g.stack = .int j :: .ref a :: rest) (hd : decode c.code g.pc = .ok (.caload, 1)) (target : State)
    (hr : Steps p.tables e below (T.setTop { g with pc := g.pc + 1, stack := v :: rest }) target) : Steps p.tables e below (T.setTop g) target := by
  obtain ⟨cl, A, r1, r2, r3⟩ := F
  exact X.caload hx (by rw [eT]; exact A.1) (State.isArrayOf_alike hZ.alike A.2.1) A.2.2 (own_inb hj r2 hi) (by rw [own_idx hj, r3 i hi, hv]) hg hs hd target hr
theorem own_ldB (X : Stand p l e R s m args below meth c T locs cells slots) (hx : p.tables.exec = Jvm.exec) (hZ : Z.Warmed39 s.vm) (eT : T.heap = h) (F : own_Av Z h a k .byte n f) (hj : j.toInt = i) (hi : i < n) (hv : f i = v) (hg : g.method = m) (hs : g.stack = .int j :: .ref a :: rest) (hd : decode c.code g.pc = .ok (.baload, 1)) (target : State)
    (hr : Steps p.tables e below (T.setTop { g with pc := g.pc + 1, stack := v :: rest }) target) : Steps p.tables e below (T.setTop g) target := by
  obtain ⟨cl, A, r1, r2, r3⟩ := F
  exact X.baloadBytes hx (by rw [eT]; exact A.1) (State.isArrayOf_alike hZ.alike A.2.1) A.2.2 (own_inb hj r2 hi) (by rw [own_idx hj, r3 i hi, hv]) hg hs hd target hr
theorem own_ldI (X : Stand p l e R s m args below meth c T locs cells slots) (hx : p.tables.exec = Jvm.exec) (hZ : Z.Warmed39 s.vm) (eT : T.heap = h) (F : own_Av Z h a k .int n f) (hj : j.toInt = i) (hi : i < n) (hv : f i = v) (hg : g.method = m) (hs : g.stack = .int j :: .ref a :: rest) (hd : decode c.code g.pc = .ok (.iaload, 1)) (target : State)
    (hr : Steps p.tables e below (T.setTop { g with pc := g.pc + 1, stack := v :: rest }) target) : Steps p.tables e below (T.setTop g) target := by
  obtain ⟨cl, A, r1, r2, r3⟩ := F
  exact X.iaload hx (by rw [eT]; exact A.1) (State.isArrayOf_alike hZ.alike A.2.1) A.2.2 (own_inb hj r2 hi) (by rw [own_idx hj, r3 i hi, hv]) hg hs hd target hr
theorem own_ldR (X : Stand p l e R s m args below meth c T locs cells slots) (hx : p.tables.exec = Jvm.exec) (hZ : Z.Warmed39 s.vm) (eT : T.heap = h) (F : own_Av Z h a k ty n f) (hty : ty.isReference = true) (hj : j.toInt = i) (hi : i < n) (hv : f i = v) (hg : g.method = m) (hs : g.stack = .int j :: .ref a :: rest) (hd : decode c.code g.pc = .ok (.aaload, 1)) (target : State)
    (hr : Steps p.tables e below (T.setTop { g with pc := g.pc + 1, stack := v :: rest }) target) : Steps p.tables e below (T.setTop g) target := by
  obtain ⟨cl, A, r1, r2, r3⟩ := F
  exact X.aaload hx (by rw [eT]; exact A.1) (State.isArrayOf_alike hZ.alike A.2.1) hty A.2.2 (own_inb hj r2 hi) (by rw [own_idx hj, r3 i hi, hv]) hg hs hd target hr
theorem own_len (X : Stand p l e R s m args below meth c T locs cells slots) (hx : p.tables.exec = Jvm.exec) (hZ : Z.Warmed39 s.vm) (eT : T.heap = h) (F : own_Av Z h a k ty n f) (hz : n.toInt32 = z) (hg : g.method = m) (hs : g.stack = .ref a :: rest) (hd : decode c.code g.pc = .ok (.arraylength, 1)) (target : State)
    (hr : Steps p.tables e below (T.setTop { g with pc := g.pc + 1, stack := .int z :: rest }) target) : Steps p.tables e below (T.setTop g) target := by
  obtain ⟨cl, A, r1, r2, r3⟩ := F
  exact X.arraylength hx (by rw [eT]; exact A.1) (State.isArrayOf_alike hZ.alike A.2.1) hg hs hd target (by rw [r2, hz]; exact hr)
theorem own_ne (q : a < h.size) (r : b = h.size) : a ≠ b := Nat.ne_of_lt (Nat.lt_of_lt_of_le q (Nat.le_of_eq r.symm))
theorem own_ne2 (q : a < h.size) (r : h.size ≤ b) : a ≠ b := Nat.ne_of_lt (Nat.lt_of_lt_of_le q r)
theorem own_ge {n0 : Nat} (q : n0 ≤ h.size) (r : b = h.size) : n0 ≤ b := Nat.le_trans q (Nat.le_of_eq r.symm)
theorem own_store1 {L : Array Slot} {o : Slot} (hv : v.isRef = true) (hold : L[i]? = some o) (ho : o = .unset ∨ ∃ w, o = .val w ∧ w.category = 1) : storeLocals L i v = some (L.setIfInBounds i (.val v)) := XS.store1 hold ho (Jvm.Free.XT.cat1 hv)
theorem own_nref (ht : ty.isReference = true) (hv : v.isRef = true) : narrow ty v = v := by cases ty <;> cases v <;> first | rfl | (simp [Value.isRef] at hv; done) | (simp [FieldType.isReference] at ht; done)
theorem own_fref (ht : ty.isReference = true) (hv : v.isRef = true) : fits ty v = true := by cases ty <;> cases v <;> first | rfl | (simp [Value.isRef] at hv; done) | (simp [FieldType.isReference] at ht; done)
theorem own_fldI {t : Term} {C nm d : String} (ev : t.eval args s none [] s = some (.ref a)) (hq : (Cond.eq (Term.field t C nm d) (Term.int z)).value args s none s [] = some true) : Fld s s.heap a C nm d (.int z) := by
  obtain ⟨x, y, hx, hy, -, -⟩ := cmp_v (Or.inl hq)
  obtain rfl : y = .int z := (Option.some.inj hy).symm
  have : x = .int z := by simp only [Cond.value, hx, hy] at hq; cases x <;> simp at hq ⊢; exact hq
  rw [fld_at ev] at hx
  exact Fld.start (this ▸ hx)
theorem own_fldJ {t : Term} {C nm d : String} {z : Int64} (ev : t.eval args s none [] s = some (.ref a)) (hq : (Cond.eq (Term.field t C nm d) (Term.long z)).value args s none s [] = some true) : Fld s s.heap a C nm d (.long z) := by
  obtain ⟨x, y, hx, hy, -, -⟩ := cmp_v (Or.inl hq)
  obtain rfl : y = .long z := (Option.some.inj hy).symm
  have : x = .long z := by simp only [Cond.value, hx, hy] at hq; cases x <;> simp at hq ⊢; exact hq
  rw [fld_at ev] at hx
  exact Fld.start (this ▸ hx)
theorem own_fldN {t : Term} {C nm d : String} (ev : t.eval args s none [] s = some (.ref a)) (hq : (Cond.eq (Term.field t C nm d) Term.null).value args s none s [] = some true) : Fld s s.heap a C nm d .null := by
  have hx := null_v hq
  rw [fld_at ev] at hx
  exact Fld.start hx
theorem own_selP {y : MethodName} {nn : Nat} {a0 : Array Value} (hZ : Z.Warmed39 s.vm) (wi : (Cond.instantiable y.cls nn).before a0 Z = true) (wp : (Cond.privateMethod y).before a0 Z = true) (wm : (Cond.instanceMethod y).before a0 Z = true) (hy : y.cls ≠ "java/lang/invoke/MethodHandle" ∧ y.cls ≠ "java/lang/invoke/VarHandle") : (Cond.selects y.cls y y).before args s = true := by
  obtain ⟨c', k', h1, h2, -, h4, -⟩ := Cond.instantiable_spec (mv (args := args) hZ wi : (Cond.instantiable y.cls nn).before args s = true)
  exact selects_self_of_private h1 h2 (by simp at h4; exact h4.1) (Cond.privateMethod_at (mvP hZ wp (args := args))) (mv hZ wm) hy
theorem own_insK {C : String} (I : Ins Z h a C true) (K : Keep h h' ws) : Ins Z h' a C true := by
  obtain ⟨cell, cT, h1, h2, h3⟩ := I
  obtain ⟨c', q, r1, r2, r3⟩ := K.2.2 a cell h1
  exact ⟨c', cT, q, h2, by rw [r1, r2]; exact h3⟩
theorem own_len0 {cl : Cell} {t : Term} (A : Arr s s.heap a cl ty) (ev : t.eval args s none [] s = some (.ref a)) (hq : (Cond.eq (Term.length t) (Term.int 0)).value args s none s [] = some true) : own_Av s s.heap a cl.cls ty 0 (fun _ => .null) := by
  obtain ⟨x, y, hx, hy, -, -⟩ := cmp_v (Or.inl hq)
  obtain rfl : y = .int 0 := (Option.some.inj hy).symm
  have : x = .int 0 := by simp only [Cond.value, hx, hy] at hq; cases x <;> simp at hq ⊢; exact hq
  subst this
  refine ⟨cl, A, rfl, ?_, fun j hj => absurd hj (Nat.not_lt_zero _)⟩
  have ha := Arr.fin (Vm.Alike.refl _) A
  simp only [Term.eval, ev, Option.bind_some, ha, Option.bind_eq_bind] at hx
  split at hx
  · rename_i hl
    have e := Value.int.inj (Option.some.inj hx)
    have e2 : (cl.slots.size.toInt32).toInt = 0 := by rw [e]; rfl
    rw [len_toInt hl] at e2; omega
  · cases hx
end Own
theorem d3_0 : decode jdk_22_method_1_code 0 = .ok (.aload_n 0, 1) := by decide +kernel
theorem d3_1 : decode jdk_22_method_1_code 1 = .ok (.invokespecial 1, 3) := by decide +kernel
theorem d3_4 : decode jdk_22_method_1_code 4 = .ok (.return_, 1) := by decide +kernel
theorem own_pn0 : plainName "java/util/AbstractCollection" = true := by first | (simp [plainName, overriddenIn]; done) | decide +kernel
def own_aci_Q (Z : State) (a : Addr) (h0 : Heap) (n0 : Nat) (v : Option Value) (h : Heap) (L : List Loc) : Prop := v = none ∧ Fr n0 L ∧ h = h0
set_option maxRecDepth 65536 in
set_option maxHeartbeats 40000000 in
theorem own_aci (l : Launch) (Z : State) (a0 : Array Value) (hw : ∀ d ∈ tables_1, d.before a0 Z = true) (ws : List Jvm.Cond) (a : Addr) (h0 : Heap) (n0 : Nat) (Z0 : n0 ≤ h0.size) :
    MetFree l (⟨"java/util/AbstractCollection", "<init>", "()V"⟩ : MethodName) (head1 (Jvm.Cond.code (⟨"java/util/AbstractCollection", "<init>", "()V"⟩ : MethodName) jdk_22_method_1_code 1 none :: ws) ({ frames := 1, cells := 0, slots := 0, locals := 12 } : Room)) (fun aa U0 => aa = #[(.ref a)] ∧ Z.Warmed39 U0.vm ∧ U0.heap = h0) (fun _ _ _ _ _ => True) (fun _ U0 o0 U1 => ∃ v0 L0, o0 = .returned v0 ∧ own_aci_Q Z a h0 n0 v0 U1.heap L0 ∧ FrameEnd U0 o0 U1 L0 ({ frames := 1, cells := 0, slots := 0, locals := 12 } : Room).cells ({ frames := 1, cells := 0, slots := 0, locals := 12 } : Room).slots) := by
  refine MetFree.of_bodySF (plainFor_of_name own_pn0) hisR ?_
  intro p e s m args below meth c s₁ Bd hml0 hP hK
  obtain ⟨rfl, hZ, hh⟩ := hP
  have hx := Bd.exec
  have hby := Bd.bytes
  have hml : c.maxLocals = 1 := hml0
  have hown : s.vm.findClass "java/util/AbstractCollection" = some m.cls := findClass_of_methodNamed Bd.named
  have hnm := (name_of_methodNamed Bd.named Bd.method).1
  have X0 : Stand p l e ({ frames := 1, cells := 0, slots := 0, locals := 12 } : Room) s m #[(.ref a)] below meth c s₁ [] 0 0 := Stand.of_body Bd
  have e0 : s₁.heap = h0 := by rw [← hh, Bd.state]; rfl
  have N0 := Fr.nil n0
  show own_Go p e below s (own_aci_Q Z a h0 n0) 0 0 s₁ (entryFrame m #[(.ref a)] 1)
  rw [show entryFrame m #[(.ref a)] 1 = mkF m 0 #[.val (.ref a)] [] from by first | (simp [entryFrame, mkF, argsToLocals, Value.category]; done) | rfl]
  refine own_st (T' := s₁) (g' := (mkF m 1 #[.val (.ref a)] [(.ref a)])) (fun _ k => XS.aloadN X0.here hx rfl (hb hby d3_0) rfl rfl k) ?_
  obtain ⟨T1, X1, e1, st1⟩ := initO X0 hx hZ hown (hw _ (List.mem_of_getElem? (i := 19) rfl)) (hw _ (List.mem_of_getElem? (i := 20) rfl)) (hw _ (List.mem_of_getElem? (i := 21) rfl)) e0 (g := (mkF m 1 #[.val (.ref a)] [(.ref a)])) rfl (by rw [hml]; rfl) rfl (hb hby d3_1) (by decide) (W := 0) (by show 2 * 0 + _ ≤ _; exact Nat.le_of_eq rfl) (by decide)
  refine own_st (T' := T1) (g' := (mkF m 4 #[.val (.ref a)] [])) st1 ?_
  exact own_ret0 X1 hx Bd.returns Bd.notSynchronized e1 (hb hby d3_4) ⟨rfl, N0, rfl⟩ (by decide) (by decide)
theorem own_pd0 : parseMethodDescriptor "()V" = some ⟨[], none⟩ := by decide +kernel
theorem d2_0 : decode jdk_39_method_1_code 0 = .ok (.aload_n 0, 1) := by decide +kernel
theorem d2_1 : decode jdk_39_method_1_code 1 = .ok (.invokespecial 1, 3) := by decide +kernel
theorem d2_4 : decode jdk_39_method_1_code 4 = .ok (.aload_n 0, 1) := by decide +kernel
theorem d2_5 : decode jdk_39_method_1_code 5 = .ok (.iconst 0, 1) := by decide +kernel
theorem d2_6 : decode jdk_39_method_1_code 6 = .ok (.putfield 7, 3) := by decide +kernel
theorem d2_9 : decode jdk_39_method_1_code 9 = .ok (.return_, 1) := by decide +kernel
theorem own_pn1 : plainName "java/util/AbstractList" = true := by first | (simp [plainName, overriddenIn]; done) | decide +kernel
def own_ali_Q (Z : State) (a : Addr) (h0 : Heap) (n0 : Nat) (v : Option Value) (h : Heap) (L : List Loc) : Prop := v = none ∧ Fr n0 L ∧ Keep h0 h [a] ∧ Fld Z h a "java/util/AbstractList" "modCount" "I" (.int (0 : Int32)) ∧ Fld Z h a "java/util/ArrayList" "elementData" "[Ljava/lang/Object;" .null ∧ Fld Z h a "java/util/ArrayList" "size" "I" (.int (0 : Int32))
set_option maxRecDepth 65536 in
set_option maxHeartbeats 40000000 in
theorem own_ali (l : Launch) (Z : State) (a0 : Array Value) (hw : ∀ d ∈ tables_1, d.before a0 Z = true) (ws : List Jvm.Cond) (a : Addr) (h0 : Heap) (n0 : Nat) (Z0 : n0 ≤ h0.size) (Fm : Fld Z h0 a "java/util/AbstractList" "modCount" "I" (.int (0 : Int32))) (Fe : Fld Z h0 a "java/util/ArrayList" "elementData" "[Ljava/lang/Object;" .null) (Fs : Fld Z h0 a "java/util/ArrayList" "size" "I" (.int (0 : Int32))) (Ea : Exa Z h0 a "java/util/ArrayList") (ga : n0 ≤ a) :
    MetFree l (⟨"java/util/AbstractList", "<init>", "()V"⟩ : MethodName) (head1 (Jvm.Cond.code (⟨"java/util/AbstractList", "<init>", "()V"⟩ : MethodName) jdk_39_method_1_code 1 none :: ws) ({ frames := 2, cells := 0, slots := 0, locals := 24 } : Room)) (fun aa U0 => aa = #[(.ref a)] ∧ Z.Warmed39 U0.vm ∧ U0.heap = h0) (fun _ _ _ _ _ => True) (fun _ U0 o0 U1 => ∃ v0 L0, o0 = .returned v0 ∧ own_ali_Q Z a h0 n0 v0 U1.heap L0 ∧ FrameEnd U0 o0 U1 L0 ({ frames := 2, cells := 0, slots := 0, locals := 24 } : Room).cells ({ frames := 2, cells := 0, slots := 0, locals := 24 } : Room).slots) := by
  refine MetFree.of_bodySF (plainFor_of_name own_pn1) hisR ?_
  intro p e s m args below meth c s₁ Bd hml0 hP hK
  obtain ⟨rfl, hZ, hh⟩ := hP
  have hx := Bd.exec
  have hby := Bd.bytes
  have hml : c.maxLocals = 1 := hml0
  have hown : s.vm.findClass "java/util/AbstractList" = some m.cls := findClass_of_methodNamed Bd.named
  have hnm := (name_of_methodNamed Bd.named Bd.method).1
  have X0 : Stand p l e ({ frames := 2, cells := 0, slots := 0, locals := 24 } : Room) s m #[(.ref a)] below meth c s₁ [] 0 0 := Stand.of_body Bd
  have e0 : s₁.heap = h0 := by rw [← hh, Bd.state]; rfl
  have N0 := Fr.nil n0
  show own_Go p e below s (own_ali_Q Z a h0 n0) 0 0 s₁ (entryFrame m #[(.ref a)] 1)
  rw [show entryFrame m #[(.ref a)] 1 = mkF m 0 #[.val (.ref a)] [] from by first | (simp [entryFrame, mkF, argsToLocals, Value.category]; done) | rfl]
  have Kp := Keep.refl h0 [a]
  refine own_st (T' := s₁) (g' := (mkF m 1 #[.val (.ref a)] [(.ref a)])) (fun _ k => XS.aloadN X0.here hx rfl (hb hby d2_0) rfl rfl k) ?_
  obtain ⟨_, _, ⟨T2, L2, k2, n2⟩, -, X2, ⟨Lc2, hQ2, l2, y2, z2⟩, st2⟩ := X0.specialBack hx (y := (⟨"java/util/AbstractCollection", "<init>", "()V"⟩ : MethodName)) rfl hown (mvT hZ (hw _ (List.mem_of_getElem? (i := 13) rfl))) (mvT hZ (hw _ (List.mem_of_getElem? (i := 14) rfl))) (mvT hZ (hw _ (List.mem_of_getElem? (i := 18) rfl))) (by decide) (backOf (W := 0) (own_aci l Z a0 hw [] a h0 n0 Z0 ) hZ (hw _ (List.mem_of_getElem? (i := 18) rfl)) (hw _ (List.mem_of_getElem? (i := 17) rfl)) (by decide) (by decide)) (g := (mkF m 1 #[.val (.ref a)] [(.ref a)])) rfl (by rw [hml]; rfl) (Steps.refl _) (a := a) (argsL := []) (rest := []) (lenOf own_pd0 rfl) rfl (by show 2 * 0 + _ ≤ _; exact Nat.le_of_eq rfl) (hb hby d2_1) (fun _ _ => ⟨rfl, e0, (by decide : 0 + 0 ≤ _), (by decide : 0 + 0 ≤ _)⟩)
  dsimp only [Pt.U, Pt.locs, Pt.cells, Pt.slots] at X2 l2 y2 z2 st2 hQ2
  subst l2 y2 z2
  obtain ⟨rfl, N2q, e2⟩ := hQ2
  have N0' := Fr.app N0 N2q
  refine own_tr (T' := T2) (g' := (mkF m 4 #[.val (.ref a)] [])) st2 ?_
  refine own_st (T' := T2) (g' := (mkF m 5 #[.val (.ref a)] [(.ref a)])) (fun _ k => XS.aloadN X2.here hx rfl (hb hby d2_4) rfl rfl k) ?_
  refine own_st (T' := T2) (g' := (mkF m 6 #[.val (.ref a)] [(.int (0 : Int32)), (.ref a)])) (fun _ k => XS.iconst X2.here hx rfl (hb hby d2_5) k) ?_
  obtain ⟨T3, h3, X3, e3, W3, st3⟩ := putF X2 hx hZ hown (host := "") (Or.inl (hw _ (List.mem_of_getElem? (i := 22) rfl))) Via.refl e2 Fm Ea (Or.inl (hw _ (List.mem_of_getElem? (i := 23) rfl))) (hw _ (List.mem_of_getElem? (i := 2) rfl)) (ty := .int) (by decide) rfl rfl (g := (mkF m 6 #[.val (.ref a)] [(.int (0 : Int32)), (.ref a)])) rfl rfl (hb hby d2_6)
  have Fe := Fe.other W3 (Or.inr (slot_ne (Or.inl (hw _ (List.mem_of_getElem? (i := 26) rfl))) (Or.inl (hw _ (List.mem_of_getElem? (i := 23) rfl))) (by decide) (t := (.array (.object "java/lang/Object"))) (t' := .int) (by decide) (by decide)))
  have Fs := Fs.other W3 (Or.inr (slot_ne (Or.inl (hw _ (List.mem_of_getElem? (i := 35) rfl))) (Or.inl (hw _ (List.mem_of_getElem? (i := 23) rfl))) (by decide) (t := .int) (t' := .int) (by decide) (by decide)))
  have Ea := Ea.wr W3
  have Z0' := Nat.le_trans Z0 (Keep.of_wr W3).1
  have Kp := Kp.wr W3 (Or.inl (List.mem_of_getElem? (i := 0) rfl))
  have N0'' := Fr.snoc X3 N0' ga
  have Fm := Fm.same W3
  refine own_st (T' := T3) (g' := (mkF m 9 #[.val (.ref a)] [])) st3 ?_
  exact own_ret0 X3 hx Bd.returns Bd.notSynchronized e3 (hb hby d2_9) ⟨rfl, N0'', Kp, Fm, Fe, Fs⟩ (by decide) (by decide)
theorem d1_0 : decode jdk_38_method_2_code 0 = .ok (.aload_n 0, 1) := by decide +kernel
theorem d1_1 : decode jdk_38_method_2_code 1 = .ok (.invokespecial 1, 3) := by decide +kernel
theorem d1_4 : decode jdk_38_method_2_code 4 = .ok (.aload_n 0, 1) := by decide +kernel
theorem d1_5 : decode jdk_38_method_2_code 5 = .ok (.getstatic 39, 3) := by decide +kernel
theorem d1_8 : decode jdk_38_method_2_code 8 = .ok (.putfield 9, 3) := by decide +kernel
theorem d1_11 : decode jdk_38_method_2_code 11 = .ok (.return_, 1) := by decide +kernel
theorem own_pn2 : plainName "java/util/ArrayList" = true := by first | (simp [plainName, overriddenIn]; done) | decide +kernel
def own_alIni_Q (Z : State) (a : Addr) (aD : Addr) (h0 : Heap) (n0 : Nat) (v : Option Value) (h : Heap) (L : List Loc) : Prop := v = none ∧ Fr n0 L ∧ Keep h0 h [a] ∧ Exa Z h a "java/util/ArrayList" ∧ Fld Z h a "java/util/AbstractList" "modCount" "I" (.int (0 : Int32)) ∧ Fld Z h a "java/util/ArrayList" "elementData" "[Ljava/lang/Object;" (.ref aD) ∧ Fld Z h a "java/util/ArrayList" "size" "I" (.int (0 : Int32))
set_option maxRecDepth 65536 in
set_option maxHeartbeats 40000000 in
theorem own_alIni (l : Launch) (Z : State) (a0 : Array Value) (hw : ∀ d ∈ tables_1, d.before a0 Z = true) (ws : List Jvm.Cond) (a : Addr) (aD : Addr) (h0 : Heap) (n0 : Nat) (Z0 : n0 ≤ h0.size) (Fm : Fld Z h0 a "java/util/AbstractList" "modCount" "I" (.int (0 : Int32))) (Fe : Fld Z h0 a "java/util/ArrayList" "elementData" "[Ljava/lang/Object;" .null) (Fs : Fld Z h0 a "java/util/ArrayList" "size" "I" (.int (0 : Int32))) (Ea : Exa Z h0 a "java/util/ArrayList") (ga : n0 ≤ a) (O : Old Z n0 h0) (SD0 : Sta Z Z.heap "java/util/ArrayList" "DEFAULTCAPACITY_EMPTY_ELEMENTDATA" "[Ljava/lang/Object;" (.ref aD)) :
    MetFree l (⟨"java/util/ArrayList", "<init>", "()V"⟩ : MethodName) (head1 (Jvm.Cond.code (⟨"java/util/ArrayList", "<init>", "()V"⟩ : MethodName) jdk_38_method_2_code 1 none :: ws) ({ frames := 3, cells := 0, slots := 0, locals := 36 } : Room)) (fun aa U0 => aa = #[(.ref a)] ∧ Z.Warmed39 U0.vm ∧ U0.heap = h0) (fun _ _ _ _ _ => True) (fun _ U0 o0 U1 => ∃ v0 L0, o0 = .returned v0 ∧ own_alIni_Q Z a aD h0 n0 v0 U1.heap L0 ∧ FrameEnd U0 o0 U1 L0 ({ frames := 3, cells := 0, slots := 0, locals := 36 } : Room).cells ({ frames := 3, cells := 0, slots := 0, locals := 36 } : Room).slots) := by
  refine MetFree.of_bodySF (plainFor_of_name own_pn2) hisR ?_
  intro p e s m args below meth c s₁ Bd hml0 hP hK
  obtain ⟨rfl, hZ, hh⟩ := hP
  have hx := Bd.exec
  have hby := Bd.bytes
  have hml : c.maxLocals = 1 := hml0
  have hown : s.vm.findClass "java/util/ArrayList" = some m.cls := findClass_of_methodNamed Bd.named
  have hnm := (name_of_methodNamed Bd.named Bd.method).1
  have X0 : Stand p l e ({ frames := 3, cells := 0, slots := 0, locals := 36 } : Room) s m #[(.ref a)] below meth c s₁ [] 0 0 := Stand.of_body Bd
  have e0 : s₁.heap = h0 := by rw [← hh, Bd.state]; rfl
  have N0 := Fr.nil n0
  show own_Go p e below s (own_alIni_Q Z a aD h0 n0) 0 0 s₁ (entryFrame m #[(.ref a)] 1)
  rw [show entryFrame m #[(.ref a)] 1 = mkF m 0 #[.val (.ref a)] [] from by first | (simp [entryFrame, mkF, argsToLocals, Value.category]; done) | rfl]
  have Kp := Keep.refl h0 [a]
  refine own_st (T' := s₁) (g' := (mkF m 1 #[.val (.ref a)] [(.ref a)])) (fun _ k => XS.aloadN X0.here hx rfl (hb hby d1_0) rfl rfl k) ?_
  obtain ⟨_, _, ⟨T4, L4, k4, n4⟩, -, X4, ⟨Lc4, hQ4, l4, y4, z4⟩, st4⟩ := X0.specialBack hx (y := (⟨"java/util/AbstractList", "<init>", "()V"⟩ : MethodName)) rfl hown (mvT hZ (hw _ (List.mem_of_getElem? (i := 7) rfl))) (mvT hZ (hw _ (List.mem_of_getElem? (i := 8) rfl))) (mvT hZ (hw _ (List.mem_of_getElem? (i := 12) rfl))) (by decide) (backOf (W := 0) (own_ali l Z a0 hw [] a h0 n0 Z0 Fm Fe Fs Ea ga) hZ (hw _ (List.mem_of_getElem? (i := 12) rfl)) (hw _ (List.mem_of_getElem? (i := 11) rfl)) (by decide) (by decide)) (g := (mkF m 1 #[.val (.ref a)] [(.ref a)])) rfl (by rw [hml]; rfl) (Steps.refl _) (a := a) (argsL := []) (rest := []) (lenOf own_pd0 rfl) rfl (by show 2 * 0 + _ ≤ _; exact Nat.le_of_eq rfl) (hb hby d1_1) (fun _ _ => ⟨rfl, e0, (by decide : 0 + 0 ≤ _), (by decide : 0 + 0 ≤ _)⟩)
  dsimp only [Pt.U, Pt.locs, Pt.cells, Pt.slots] at X4 l4 y4 z4 st4 hQ4
  subst l4 y4 z4
  obtain ⟨rfl, N4q, K4, Fm, Fe, Fs⟩ := hQ4
  have N0' := Fr.app N0 N4q
  have Ea := Ea.keep K4
  have O := O.keep K4 ((allS ga all0))
  have Z0' := Nat.le_trans Z0 K4.1
  have Kp := Kp.trans K4 (allS (P := fun x => x ∈ [a] ∨ h0.size ≤ x) (Or.inl (List.mem_of_getElem? (i := 0) rfl)) all0)
  refine own_tr (T' := T4) (g' := (mkF m 4 #[.val (.ref a)] [])) st4 ?_
  have SD := SD0.ext O.2
  refine own_st (T' := T4) (g' := (mkF m 5 #[.val (.ref a)] [(.ref a)])) (fun _ k => XS.aloadN X4.here hx rfl (hb hby d1_4) rfl rfl k) ?_
  obtain ⟨T5, X5, e5, st5⟩ := getS2 X4 hx hZ hown (host := "") (Or.inl (hw _ (List.mem_of_getElem? (i := 24) rfl))) Via.refl rfl SD (g := (mkF m 5 #[.val (.ref a)] [(.ref a)])) rfl (hb hby d1_5)
  refine own_st (T' := T5) (g' := (mkF m 8 #[.val (.ref a)] [(.ref aD), (.ref a)])) st5 ?_
  obtain ⟨T6, h6, X6, e6, W6, st6⟩ := putF X5 hx hZ hown (host := "") (Or.inl (hw _ (List.mem_of_getElem? (i := 25) rfl))) Via.refl e5 Fe Ea (Or.inl (hw _ (List.mem_of_getElem? (i := 26) rfl))) (hw _ (List.mem_of_getElem? (i := 2) rfl)) (ty := (.array (.object "java/lang/Object"))) (by decide) rfl rfl (g := (mkF m 8 #[.val (.ref a)] [(.ref aD), (.ref a)])) rfl rfl (hb hby d1_8)
  have Ea := Ea.wr W6
  have O := O.wr W6 ga
  have Fm := Fm.other W6 (Or.inr (slot_ne (Or.inl (hw _ (List.mem_of_getElem? (i := 23) rfl))) (Or.inl (hw _ (List.mem_of_getElem? (i := 26) rfl))) (by decide) (t := .int) (t' := (.array (.object "java/lang/Object"))) (by decide) (by decide)))
  have Fs := Fs.other W6 (Or.inr (slot_ne (Or.inl (hw _ (List.mem_of_getElem? (i := 35) rfl))) (Or.inl (hw _ (List.mem_of_getElem? (i := 26) rfl))) (by decide) (t := .int) (t' := (.array (.object "java/lang/Object"))) (by decide) (by decide)))
  have SD := SD.wr W6
  have Z0'' := Nat.le_trans Z0' (Keep.of_wr W6).1
  have Kp := Kp.wr W6 (Or.inl (List.mem_of_getElem? (i := 0) rfl))
  have N0'' := Fr.snoc X6 N0' ga
  have Fe := Fe.same W6
  refine own_st (T' := T6) (g' := (mkF m 11 #[.val (.ref a)] [])) st6 ?_
  exact own_ret0 X6 hx Bd.returns Bd.notSynchronized e6 (hb hby d1_11) ⟨rfl, N0'', Kp, Ea, Fm, Fe, Fs⟩ (by decide) (by decide)
theorem d9_0 : decode jdk_29_method_65_code 0 = .ok (.iload_n 0, 1) := by decide +kernel
theorem d9_1 : decode jdk_29_method_65_code 1 = .ok (.iload_n 1, 1) := by decide +kernel
theorem d9_2 : decode jdk_29_method_65_code 2 = .ok (.if_icmp .lt 7, 3) := by decide +kernel
theorem d9_5 : decode jdk_29_method_65_code 5 = .ok (.iload_n 0, 1) := by decide +kernel
theorem d9_6 : decode jdk_29_method_65_code 6 = .ok (.goto 4, 3) := by decide +kernel
theorem d9_9 : decode jdk_29_method_65_code 9 = .ok (.iload_n 1, 1) := by decide +kernel
theorem d9_10 : decode jdk_29_method_65_code 10 = .ok (.ireturn, 1) := by decide +kernel
def own_max_Q (Z : State) (u : Int32) (w : Int32) (h0 : Heap) (n0 : Nat) (v : Option Value) (h : Heap) (L : List Loc) : Prop := v = some (.int (if u < w then w else u)) ∧ Fr n0 L ∧ h = h0
set_option maxRecDepth 65536 in
set_option maxHeartbeats 40000000 in
theorem own_max (l : Launch) (Z : State) (a0 : Array Value) (hw : ∀ d ∈ tables_1, d.before a0 Z = true) (ws : List Jvm.Cond) (u : Int32) (w : Int32) (h0 : Heap) (n0 : Nat) (Z0 : n0 ≤ h0.size) :
    MetFree l (⟨"java/lang/Math", "max", "(II)I"⟩ : MethodName) (head1 (Jvm.Cond.code (⟨"java/lang/Math", "max", "(II)I"⟩ : MethodName) jdk_29_method_65_code 2 (some .int) :: ws) ({ frames := 0, cells := 0, slots := 0, locals := 0 } : Room)) (fun aa U0 => aa = #[(.int u), (.int w)] ∧ Z.Warmed39 U0.vm ∧ U0.heap = h0) (fun _ _ _ _ _ => True) (fun _ U0 o0 U1 => ∃ v0 L0, o0 = .returned v0 ∧ own_max_Q Z u w h0 n0 v0 U1.heap L0 ∧ FrameEnd U0 o0 U1 L0 ({ frames := 0, cells := 0, slots := 0, locals := 0 } : Room).cells ({ frames := 0, cells := 0, slots := 0, locals := 0 } : Room).slots) := by
  refine MetFree.of_bodySF (Jvm.Free.JP.mathPlain rfl (by decide +kernel)) hisR ?_
  intro p e s m args below meth c s₁ Bd hml0 hP hK
  obtain ⟨rfl, hZ, hh⟩ := hP
  have hx := Bd.exec
  have hby := Bd.bytes
  have hml : c.maxLocals = 2 := hml0
  have hown : s.vm.findClass "java/lang/Math" = some m.cls := findClass_of_methodNamed Bd.named
  have hnm := (name_of_methodNamed Bd.named Bd.method).1
  have X0 : Stand p l e ({ frames := 0, cells := 0, slots := 0, locals := 0 } : Room) s m #[(.int u), (.int w)] below meth c s₁ [] 0 0 := Stand.of_body Bd
  have e0 : s₁.heap = h0 := by rw [← hh, Bd.state]; rfl
  have N0 := Fr.nil n0
  show own_Go p e below s (own_max_Q Z u w h0 n0) 0 0 s₁ (entryFrame m #[(.int u), (.int w)] 2)
  rw [show entryFrame m #[(.int u), (.int w)] 2 = mkF m 0 #[.val (.int u), .val (.int w)] [] from by first | (simp [entryFrame, mkF, argsToLocals, Value.category]; done) | rfl]
  refine own_st (T' := s₁) (g' := (mkF m 1 #[.val (.int u), .val (.int w)] [(.int u)])) (fun _ k => XS.iloadN X0.here hx rfl (hb hby d9_0) rfl k) ?_
  refine own_st (T' := s₁) (g' := (mkF m 2 #[.val (.int u), .val (.int w)] [(.int w), (.int u)])) (fun _ k => XS.iloadN X0.here hx rfl (hb hby d9_1) rfl k) ?_
  by_cases q1 : u < w
  · refine own_st (T' := s₁) (g' := (mkF m 9 #[.val (.int u), .val (.int w)] [])) (fun _ k => XS.icmpYes X0.here hx rfl (pc0 := 2) (pc' := 9) rfl (hb hby d9_2) rfl (Jvm.Free.XT.ii_lt_t q1) (by decide) (by decide) k) ?_
    refine own_st (T' := s₁) (g' := (mkF m 10 #[.val (.int u), .val (.int w)] [(.int w)])) (fun _ k => XS.iloadN X0.here hx rfl (hb hby d9_9) rfl k) ?_
    exact own_retI X0 hx Bd.returns Bd.notSynchronized e0 (hb hby d9_10) ⟨by simp [q1], N0, rfl⟩ (by decide) (by decide)
  · refine own_st (T' := s₁) (g' := (mkF m 5 #[.val (.int u), .val (.int w)] [])) (fun _ k => XS.icmpNo X0.here hx rfl (hb hby d9_2) rfl (Jvm.Free.XT.ii_lt_f q1) k) ?_
    refine own_st (T' := s₁) (g' := (mkF m 6 #[.val (.int u), .val (.int w)] [(.int u)])) (fun _ k => XS.iloadN X0.here hx rfl (hb hby d9_5) rfl k) ?_
    refine own_st (T' := s₁) (g' := (mkF m 10 #[.val (.int u), .val (.int w)] [(.int u)])) (fun _ k => XS.goto X0.here hx rfl (pc0 := 6) (pc' := 10) rfl (hb hby d9_6) (by decide) (by decide) k) ?_
    exact own_retI X0 hx Bd.returns Bd.notSynchronized e0 (hb hby d9_10) ⟨by simp [q1], N0, rfl⟩ (by decide) (by decide)
theorem own_pd1 : parseMethodDescriptor "(II)I" = some ⟨[.int, .int], some .int⟩ := by decide +kernel
theorem d8_0 : decode jdk_38_method_6_code 0 = .ok (.aload_n 0, 1) := by decide +kernel
theorem d8_1 : decode jdk_38_method_6_code 1 = .ok (.getfield 9, 3) := by decide +kernel
theorem d8_4 : decode jdk_38_method_6_code 4 = .ok (.arraylength, 1) := by decide +kernel
theorem d8_5 : decode jdk_38_method_6_code 5 = .ok (.istore_n 2, 1) := by decide +kernel
theorem d8_6 : decode jdk_38_method_6_code 6 = .ok (.iload_n 2, 1) := by decide +kernel
theorem d8_7 : decode jdk_38_method_6_code 7 = .ok (.ifCond .gt 13, 3) := by decide +kernel
theorem d8_10 : decode jdk_38_method_6_code 10 = .ok (.aload_n 0, 1) := by decide +kernel
theorem d8_11 : decode jdk_38_method_6_code 11 = .ok (.getfield 9, 3) := by decide +kernel
theorem d8_14 : decode jdk_38_method_6_code 14 = .ok (.getstatic 39, 3) := by decide +kernel
theorem d8_17 : decode jdk_38_method_6_code 17 = .ok (.if_acmp .eq 28, 3) := by decide +kernel
theorem d8_45 : decode jdk_38_method_6_code 45 = .ok (.aload_n 0, 1) := by decide +kernel
theorem d8_46 : decode jdk_38_method_6_code 46 = .ok (.bipush 10, 2) := by decide +kernel
theorem d8_48 : decode jdk_38_method_6_code 48 = .ok (.iload_n 1, 1) := by decide +kernel
theorem d8_49 : decode jdk_38_method_6_code 49 = .ok (.invokestatic 79, 3) := by decide +kernel
theorem d8_52 : decode jdk_38_method_6_code 52 = .ok (.anewarray 7, 3) := by decide +kernel
theorem d8_55 : decode jdk_38_method_6_code 55 = .ok (.dup_x1, 1) := by decide +kernel
theorem d8_56 : decode jdk_38_method_6_code 56 = .ok (.putfield 9, 3) := by decide +kernel
theorem d8_59 : decode jdk_38_method_6_code 59 = .ok (.areturn, 1) := by decide +kernel
def own_grow1_Q (Z : State) (a : Addr) (aD : Addr) (kD : ClassId) (fD : Nat → Value) (md : Int32) (h0 : Heap) (n0 : Nat) (v : Option Value) (h : Heap) (L : List Loc) : Prop := ∃ t k, v = some (.ref t) ∧ Fr n0 L ∧ Keep h0 h [a] ∧ h0.size ≤ t ∧ own_Av Z h t k (.object "java/lang/Object") 10 (fun _ => .null) ∧ Ovr Z k "java/lang/Object" ∧ Fld Z h a "java/util/AbstractList" "modCount" "I" (.int md) ∧ Fld Z h a "java/util/ArrayList" "elementData" "[Ljava/lang/Object;" (.ref t) ∧ Fld Z h a "java/util/ArrayList" "size" "I" (.int (0 : Int32))
set_option maxRecDepth 65536 in
set_option maxHeartbeats 40000000 in
theorem own_grow1 (l : Launch) (Z : State) (a0 : Array Value) (hw : ∀ d ∈ tables_1, d.before a0 Z = true) (ws : List Jvm.Cond) (a : Addr) (aD : Addr) (kD : ClassId) (fD : Nat → Value) (md : Int32) (h0 : Heap) (n0 : Nat) (Z0 : n0 ≤ h0.size) (Fm : Fld Z h0 a "java/util/AbstractList" "modCount" "I" (.int md)) (Fe : Fld Z h0 a "java/util/ArrayList" "elementData" "[Ljava/lang/Object;" (.ref aD)) (Fs : Fld Z h0 a "java/util/ArrayList" "size" "I" (.int (0 : Int32))) (Ea : Exa Z h0 a "java/util/ArrayList") (ga : n0 ≤ a) (VD : own_Av Z h0 aD kD (.object "java/lang/Object") 0 fD) (nD : aD ≠ a) (SD : Sta Z h0 "java/util/ArrayList" "DEFAULTCAPACITY_EMPTY_ELEMENTDATA" "[Ljava/lang/Object;" (.ref aD)) :
    MetFree l (⟨"java/util/ArrayList", "grow", "(I)[Ljava/lang/Object;"⟩ : MethodName) (head1 (Jvm.Cond.code (⟨"java/util/ArrayList", "grow", "(I)[Ljava/lang/Object;"⟩ : MethodName) jdk_38_method_6_code 4 (some (.array (.object "java/lang/Object"))) :: ws) ({ frames := 1, cells := 1, slots := 10, locals := 14 } : Room)) (fun aa U0 => aa = #[(.ref a), (.int (1 : Int32))] ∧ Z.Warmed39 U0.vm ∧ U0.heap = h0) (fun _ _ _ _ _ => True) (fun _ U0 o0 U1 => ∃ v0 L0, o0 = .returned v0 ∧ own_grow1_Q Z a aD kD fD md h0 n0 v0 U1.heap L0 ∧ FrameEnd U0 o0 U1 L0 ({ frames := 1, cells := 1, slots := 10, locals := 14 } : Room).cells ({ frames := 1, cells := 1, slots := 10, locals := 14 } : Room).slots) := by
  refine MetFree.of_bodySF (plainFor_of_name own_pn2) hisR ?_
  intro p e s m args below meth c s₁ Bd hml0 hP hK
  obtain ⟨rfl, hZ, hh⟩ := hP
  have hx := Bd.exec
  have hby := Bd.bytes
  have hml : c.maxLocals = 4 := hml0
  have hown : s.vm.findClass "java/util/ArrayList" = some m.cls := findClass_of_methodNamed Bd.named
  have hnm := (name_of_methodNamed Bd.named Bd.method).1
  have X0 : Stand p l e ({ frames := 1, cells := 1, slots := 10, locals := 14 } : Room) s m #[(.ref a), (.int (1 : Int32))] below meth c s₁ [] 0 0 := Stand.of_body Bd
  have e0 : s₁.heap = h0 := by rw [← hh, Bd.state]; rfl
  have N0 := Fr.nil n0
  show own_Go p e below s (own_grow1_Q Z a aD kD fD md h0 n0) 1 10 s₁ (entryFrame m #[(.ref a), (.int (1 : Int32))] 4)
  rw [show entryFrame m #[(.ref a), (.int (1 : Int32))] 4 = mkF m 0 #[.val (.ref a), .val (.int (1 : Int32)), .unset, .unset] [] from by first | (simp [entryFrame, mkF, argsToLocals, Value.category]; done) | rfl]
  have Kp := Keep.refl h0 [a]
  refine own_st (T' := s₁) (g' := (mkF m 1 #[.val (.ref a), .val (.int (1 : Int32)), .unset, .unset] [(.ref a)])) (fun _ k => XS.aloadN X0.here hx rfl (hb hby d8_0) rfl rfl k) ?_
  obtain ⟨T7, X7, e7, st7⟩ := getF X0 hx hZ hown (host := "") (Or.inl (hw _ (List.mem_of_getElem? (i := 25) rfl))) Via.refl e0 Fe (g := (mkF m 1 #[.val (.ref a), .val (.int (1 : Int32)), .unset, .unset] [(.ref a)])) rfl rfl (hb hby d8_1)
  refine own_st (T' := T7) (g' := (mkF m 4 #[.val (.ref a), .val (.int (1 : Int32)), .unset, .unset] [(.ref aD)])) st7 ?_
  refine own_st (T' := T7) (g' := (mkF m 5 #[.val (.ref a), .val (.int (1 : Int32)), .unset, .unset] [(.int (0 : Int32))])) (own_len X7 hx hZ e7 VD (z := (0 : Int32)) rfl (g := (mkF m 4 #[.val (.ref a), .val (.int (1 : Int32)), .unset, .unset] [(.ref aD)])) rfl rfl (hb hby d8_4)) ?_
  refine own_st (T' := T7) (g' := (mkF m 6 #[.val (.ref a), .val (.int (1 : Int32)), .val (.int (0 : Int32)), .unset] [])) (fun _ k => XS.istoreN X7.here hx rfl (hb hby d8_5) rfl (l' := #[.val (.ref a), .val (.int (1 : Int32)), .val (.int (0 : Int32)), .unset]) rfl k) ?_
  refine own_st (T' := T7) (g' := (mkF m 7 #[.val (.ref a), .val (.int (1 : Int32)), .val (.int (0 : Int32)), .unset] [(.int (0 : Int32))])) (fun _ k => XS.iloadN X7.here hx rfl (hb hby d8_6) rfl k) ?_
  refine own_st (T' := T7) (g' := (mkF m 10 #[.val (.ref a), .val (.int (1 : Int32)), .val (.int (0 : Int32)), .unset] [])) (fun _ k => XS.ifNo X7.here hx rfl (hb hby d8_7) rfl (Jvm.Free.XT.i0_gt_f (by decide)) k) ?_
  refine own_st (T' := T7) (g' := (mkF m 11 #[.val (.ref a), .val (.int (1 : Int32)), .val (.int (0 : Int32)), .unset] [(.ref a)])) (fun _ k => XS.aloadN X7.here hx rfl (hb hby d8_10) rfl rfl k) ?_
  obtain ⟨T8, X8, e8, st8⟩ := getF X7 hx hZ hown (host := "") (Or.inl (hw _ (List.mem_of_getElem? (i := 25) rfl))) Via.refl e7 Fe (g := (mkF m 11 #[.val (.ref a), .val (.int (1 : Int32)), .val (.int (0 : Int32)), .unset] [(.ref a)])) rfl rfl (hb hby d8_11)
  refine own_st (T' := T8) (g' := (mkF m 14 #[.val (.ref a), .val (.int (1 : Int32)), .val (.int (0 : Int32)), .unset] [(.ref aD)])) st8 ?_
  obtain ⟨T9, X9, e9, st9⟩ := getS2 X8 hx hZ hown (host := "") (Or.inl (hw _ (List.mem_of_getElem? (i := 24) rfl))) Via.refl e8 SD (g := (mkF m 14 #[.val (.ref a), .val (.int (1 : Int32)), .val (.int (0 : Int32)), .unset] [(.ref aD)])) rfl (hb hby d8_14)
  refine own_st (T' := T9) (g' := (mkF m 17 #[.val (.ref a), .val (.int (1 : Int32)), .val (.int (0 : Int32)), .unset] [(.ref aD), (.ref aD)])) st9 ?_
  refine own_st (T' := T9) (g' := (mkF m 45 #[.val (.ref a), .val (.int (1 : Int32)), .val (.int (0 : Int32)), .unset] [])) (fun _ k => Jvm.Free.XT.acmpYes X9.here hx rfl (pc0 := 17) (pc' := 45) rfl (hb hby d8_17) rfl rfl rfl (Jvm.Free.XT.aa_eq_t rfl) (by decide) (by decide) k) ?_
  refine own_st (T' := T9) (g' := (mkF m 46 #[.val (.ref a), .val (.int (1 : Int32)), .val (.int (0 : Int32)), .unset] [(.ref a)])) (fun _ k => XS.aloadN X9.here hx rfl (hb hby d8_45) rfl rfl k) ?_
  refine own_st (T' := T9) (g' := (mkF m 48 #[.val (.ref a), .val (.int (1 : Int32)), .val (.int (0 : Int32)), .unset] [(.int (10 : Int32)), (.ref a)])) (fun _ k => XS.bipush X9.here hx rfl (hb hby d8_46) k) ?_
  refine own_st (T' := T9) (g' := (mkF m 49 #[.val (.ref a), .val (.int (1 : Int32)), .val (.int (0 : Int32)), .unset] [(.int (1 : Int32)), (.int (10 : Int32)), (.ref a)])) (fun _ k => XS.iloadN X9.here hx rfl (hb hby d8_48) rfl k) ?_
  obtain ⟨_, _, ⟨T10, L10, k10, n10⟩, -, X10, ⟨Lc10, hQ10, l10, y10, z10⟩, st10⟩ := Jvm.LawKit.callS X9 hx (y := (⟨"java/lang/Math", "max", "(II)I"⟩ : MethodName)) hown (mvT hZ (hw _ (List.mem_of_getElem? (i := 51) rfl))) (mvT hZ (hw _ (List.mem_of_getElem? (i := 52) rfl))) (mvT hZ (hw _ (List.mem_of_getElem? (i := 53) rfl))) (mvT hZ (hw _ (List.mem_of_getElem? (i := 54) rfl))) (by decide) (backOf (W := 1) (own_max l Z a0 hw [] (10 : Int32) (1 : Int32) h0 n0 Z0 ) hZ (hw _ (List.mem_of_getElem? (i := 54) rfl)) (hw _ (List.mem_of_getElem? (i := 53) rfl)) (by decide) (by decide)) (g := (mkF m 49 #[.val (.ref a), .val (.int (1 : Int32)), .val (.int (0 : Int32)), .unset] [(.int (1 : Int32)), (.int (10 : Int32)), (.ref a)])) rfl (by rw [hml]; rfl) (argsL := [(.int (10 : Int32)), (.int (1 : Int32))]) (rest := [(.ref a)]) (lenOf own_pd1 rfl) rfl (by show 2 * 0 + _ ≤ _; exact Nat.le_of_eq rfl) (hb hby d8_49) (fun _ _ => ⟨rfl, e9, (by decide : 0 + 0 ≤ _), (by decide : 0 + 0 ≤ _)⟩)
  dsimp only [Pt.U, Pt.locs, Pt.cells, Pt.slots] at X10 l10 y10 z10 st10 hQ10
  subst l10 y10 z10
  obtain ⟨rfl, N10q, e10⟩ := hQ10
  have N0' := Fr.app N0 N10q
  refine own_st (T' := T10) (g' := (mkF m 52 #[.val (.ref a), .val (.int (1 : Int32)), .val (.int (0 : Int32)), .unset] [(.int (if (10 : Int32) < (1 : Int32) then (1 : Int32) else (10 : Int32))), (.ref a)])) st10 ?_
  rw [show (if (10 : Int32) < (1 : Int32) then (1 : Int32) else (10 : Int32)) = (10 : Int32) from rfl]
  obtain ⟨T11, h11, k11, X11, e11, E11, A11, O11, st11⟩ := newR X10 hx hZ hown (hw _ (List.mem_of_getElem? (i := 55) rfl)) (hw _ (List.mem_of_getElem? (i := 56) rfl)) e10 (g := (mkF m 52 #[.val (.ref a), .val (.int (1 : Int32)), .val (.int (0 : Int32)), .unset] [(.int (10 : Int32)), (.ref a)])) rfl (hb hby d8_52) rfl (by decide) (cap := 10) (by decide) (by decide) (by decide) (by decide)
  obtain ⟨t, gt⟩ : ∃ z, z = h0.size := ⟨_, rfl⟩
  rw [← gt] at A11 st11
  have ne_a_t : a ≠ t := own_ne Fm.lt gt
  have ne_aD_t : aD ≠ t := own_ne VD.lt gt
  have ge_t : n0 ≤ t := own_ge Z0 gt
  have sz_t : h0.size ≤ t := own_ge Kp.1 gt
  have Fm := Fm.ext E11
  have Fe := Fe.ext E11
  have Fs := Fs.ext E11
  have Ea := Ea.ext E11
  have VD := VD.ext E11
  have SD := SD.ext E11
  have Z0' := Nat.le_trans Z0 E11.1
  have Kp := Kp.ext E11
  have V_t := own_Av.new (n := 10) A11 rfl
  refine own_st (T' := T11) (g' := (mkF m 55 #[.val (.ref a), .val (.int (1 : Int32)), .val (.int (0 : Int32)), .unset] [(.ref t), (.ref a)])) st11 ?_
  refine own_st (T' := T11) (g' := (mkF m 56 #[.val (.ref a), .val (.int (1 : Int32)), .val (.int (0 : Int32)), .unset] [(.ref t), (.ref a), (.ref t)])) (fun _ k => XS.dupX1 X11.here hx rfl (hb hby d8_55) rfl rfl rfl k) ?_
  obtain ⟨T12, h12, X12, e12, W12, st12⟩ := putF X11 hx hZ hown (host := "") (Or.inl (hw _ (List.mem_of_getElem? (i := 25) rfl))) Via.refl e11 Fe Ea (Or.inl (hw _ (List.mem_of_getElem? (i := 26) rfl))) (hw _ (List.mem_of_getElem? (i := 2) rfl)) (ty := (.array (.object "java/lang/Object"))) (by decide) rfl rfl (g := (mkF m 56 #[.val (.ref a), .val (.int (1 : Int32)), .val (.int (0 : Int32)), .unset] [(.ref t), (.ref a), (.ref t)])) rfl rfl (hb hby d8_56)
  have Fm := Fm.other W12 (Or.inr (slot_ne (Or.inl (hw _ (List.mem_of_getElem? (i := 23) rfl))) (Or.inl (hw _ (List.mem_of_getElem? (i := 26) rfl))) (by decide) (t := .int) (t' := (.array (.object "java/lang/Object"))) (by decide) (by decide)))
  have Fs := Fs.other W12 (Or.inr (slot_ne (Or.inl (hw _ (List.mem_of_getElem? (i := 35) rfl))) (Or.inl (hw _ (List.mem_of_getElem? (i := 26) rfl))) (by decide) (t := .int) (t' := (.array (.object "java/lang/Object"))) (by decide) (by decide)))
  have Ea := Ea.wr W12
  have VD := VD.other W12 nD
  have SD := SD.wr W12
  have V_t := V_t.other W12 (Ne.symm ne_a_t)
  have Z0'' := Nat.le_trans Z0' (Keep.of_wr W12).1
  have Kp := Kp.wr W12 (Or.inl (List.mem_of_getElem? (i := 0) rfl))
  have N0'' := Fr.snoc X12 N0' ga
  have Fe := Fe.same W12
  refine own_st (T' := T12) (g' := (mkF m 59 #[.val (.ref a), .val (.int (1 : Int32)), .val (.int (0 : Int32)), .unset] [(.ref t)])) st12 ?_
  exact own_retR X12 hx Bd.returns Bd.notSynchronized e12 rfl rfl (hb hby d8_59) ⟨t, _, rfl, N0'', Kp, sz_t, V_t, O11, Fm, Fe, Fs⟩ (by decide) (by decide)
theorem own_pd2 : parseMethodDescriptor "(I)[Ljava/lang/Object;" = some ⟨[.int], some (.array (.object "java/lang/Object"))⟩ := by decide +kernel
theorem d7_0 : decode jdk_38_method_7_code 0 = .ok (.aload_n 0, 1) := by decide +kernel
theorem d7_1 : decode jdk_38_method_7_code 1 = .ok (.aload_n 0, 1) := by decide +kernel
theorem d7_2 : decode jdk_38_method_7_code 2 = .ok (.getfield 48, 3) := by decide +kernel
theorem d7_5 : decode jdk_38_method_7_code 5 = .ok (.iconst 1, 1) := by decide +kernel
theorem d7_6 : decode jdk_38_method_7_code 6 = .ok (.iadd, 1) := by decide +kernel
theorem d7_7 : decode jdk_38_method_7_code 7 = .ok (.invokevirtual 69, 3) := by decide +kernel
theorem d7_10 : decode jdk_38_method_7_code 10 = .ok (.areturn, 1) := by decide +kernel
def own_grow0_Q (Z : State) (a : Addr) (aD : Addr) (kD : ClassId) (fD : Nat → Value) (md : Int32) (h0 : Heap) (n0 : Nat) (v : Option Value) (h : Heap) (L : List Loc) : Prop := ∃ t k, v = some (.ref t) ∧ Fr n0 L ∧ Keep h0 h [a] ∧ h0.size ≤ t ∧ own_Av Z h t k (.object "java/lang/Object") 10 (fun _ => .null) ∧ Ovr Z k "java/lang/Object" ∧ Fld Z h a "java/util/AbstractList" "modCount" "I" (.int md) ∧ Fld Z h a "java/util/ArrayList" "elementData" "[Ljava/lang/Object;" (.ref t) ∧ Fld Z h a "java/util/ArrayList" "size" "I" (.int (0 : Int32))
set_option maxRecDepth 65536 in
set_option maxHeartbeats 40000000 in
theorem own_grow0 (l : Launch) (Z : State) (a0 : Array Value) (hw : ∀ d ∈ tables_1, d.before a0 Z = true) (ws : List Jvm.Cond) (a : Addr) (aD : Addr) (kD : ClassId) (fD : Nat → Value) (md : Int32) (h0 : Heap) (n0 : Nat) (Z0 : n0 ≤ h0.size) (Fm : Fld Z h0 a "java/util/AbstractList" "modCount" "I" (.int md)) (Fe : Fld Z h0 a "java/util/ArrayList" "elementData" "[Ljava/lang/Object;" (.ref aD)) (Fs : Fld Z h0 a "java/util/ArrayList" "size" "I" (.int (0 : Int32))) (Ea : Exa Z h0 a "java/util/ArrayList") (ga : n0 ≤ a) (VD : own_Av Z h0 aD kD (.object "java/lang/Object") 0 fD) (nD : aD ≠ a) (SD : Sta Z h0 "java/util/ArrayList" "DEFAULTCAPACITY_EMPTY_ELEMENTDATA" "[Ljava/lang/Object;" (.ref aD)) :
    MetFree l (⟨"java/util/ArrayList", "grow", "()[Ljava/lang/Object;"⟩ : MethodName) (head1 (Jvm.Cond.code (⟨"java/util/ArrayList", "grow", "()[Ljava/lang/Object;"⟩ : MethodName) jdk_38_method_7_code 1 (some (.array (.object "java/lang/Object"))) :: ws) ({ frames := 2, cells := 1, slots := 10, locals := 29 } : Room)) (fun aa U0 => aa = #[(.ref a)] ∧ Z.Warmed39 U0.vm ∧ U0.heap = h0) (fun _ _ _ _ _ => True) (fun _ U0 o0 U1 => ∃ v0 L0, o0 = .returned v0 ∧ own_grow0_Q Z a aD kD fD md h0 n0 v0 U1.heap L0 ∧ FrameEnd U0 o0 U1 L0 ({ frames := 2, cells := 1, slots := 10, locals := 29 } : Room).cells ({ frames := 2, cells := 1, slots := 10, locals := 29 } : Room).slots) := by
  refine MetFree.of_bodySF (plainFor_of_name own_pn2) hisR ?_
  intro p e s m args below meth c s₁ Bd hml0 hP hK
  obtain ⟨rfl, hZ, hh⟩ := hP
  have hx := Bd.exec
  have hby := Bd.bytes
  have hml : c.maxLocals = 1 := hml0
  have hown : s.vm.findClass "java/util/ArrayList" = some m.cls := findClass_of_methodNamed Bd.named
  have hnm := (name_of_methodNamed Bd.named Bd.method).1
  have X0 : Stand p l e ({ frames := 2, cells := 1, slots := 10, locals := 29 } : Room) s m #[(.ref a)] below meth c s₁ [] 0 0 := Stand.of_body Bd
  have e0 : s₁.heap = h0 := by rw [← hh, Bd.state]; rfl
  have N0 := Fr.nil n0
  show own_Go p e below s (own_grow0_Q Z a aD kD fD md h0 n0) 1 10 s₁ (entryFrame m #[(.ref a)] 1)
  rw [show entryFrame m #[(.ref a)] 1 = mkF m 0 #[.val (.ref a)] [] from by first | (simp [entryFrame, mkF, argsToLocals, Value.category]; done) | rfl]
  have Kp := Keep.refl h0 [a]
  refine own_st (T' := s₁) (g' := (mkF m 1 #[.val (.ref a)] [(.ref a)])) (fun _ k => XS.aloadN X0.here hx rfl (hb hby d7_0) rfl rfl k) ?_
  refine own_st (T' := s₁) (g' := (mkF m 2 #[.val (.ref a)] [(.ref a), (.ref a)])) (fun _ k => XS.aloadN X0.here hx rfl (hb hby d7_1) rfl rfl k) ?_
  obtain ⟨T13, X13, e13, st13⟩ := getF X0 hx hZ hown (host := "") (Or.inl (hw _ (List.mem_of_getElem? (i := 34) rfl))) Via.refl e0 Fs (g := (mkF m 2 #[.val (.ref a)] [(.ref a), (.ref a)])) rfl rfl (hb hby d7_2)
  refine own_st (T' := T13) (g' := (mkF m 5 #[.val (.ref a)] [(.int (0 : Int32)), (.ref a)])) st13 ?_
  refine own_st (T' := T13) (g' := (mkF m 6 #[.val (.ref a)] [(.int (1 : Int32)), (.int (0 : Int32)), (.ref a)])) (fun _ k => XS.iconst X13.here hx rfl (hb hby d7_5) k) ?_
  refine own_st (T' := T13) (g' := (mkF m 7 #[.val (.ref a)] [(.int ((0 : Int32) + (1 : Int32))), (.ref a)])) (fun _ k => XS.iadd X13.here hx rfl (hb hby d7_6) rfl k) ?_
  rw [show ((0 : Int32) + (1 : Int32)) = (1 : Int32) from rfl]
  have lt_a := Fm.lt
  have lt_aD := VD.lt
  obtain ⟨cq14, q14, q14'⟩ := Ea.cell
  obtain ⟨_, _, ⟨T14, L14, k14, n14⟩, -, X14, ⟨Lc14, hQ14, l14, y14, z14⟩, st14⟩ := X13.privateBack hx (y := (⟨"java/util/ArrayList", "grow", "(I)[Ljava/lang/Object;"⟩ : MethodName)) hown (mvT hZ (hw _ (List.mem_of_getElem? (i := 46) rfl))) (mvT hZ (hw _ (List.mem_of_getElem? (i := 47) rfl))) (own_selP hZ (hw _ (List.mem_of_getElem? (i := 2) rfl)) (hw _ (List.mem_of_getElem? (i := 48) rfl)) (hw _ (List.mem_of_getElem? (i := 47) rfl)) (by decide)) (Cond.privateMethod_at (mvP hZ (hw _ (List.mem_of_getElem? (i := 48) rfl)) (args := #[]))) (mvT hZ (hw _ (List.mem_of_getElem? (i := 50) rfl))) (by decide) (backOf (W := 0) (own_grow1 l Z a0 hw [] a aD kD fD md h0 n0 Z0 Fm Fe Fs Ea ga VD nD SD) hZ (hw _ (List.mem_of_getElem? (i := 50) rfl)) (hw _ (List.mem_of_getElem? (i := 3) rfl)) (by decide) (by decide)) (g := (mkF m 7 #[.val (.ref a)] [(.int (1 : Int32)), (.ref a)])) rfl (by rw [hml]; rfl) (Steps.refl _) (a := a) (by first | exact q14 | (rw [e13]; exact q14)) q14' (argsL := [(.int (1 : Int32))]) (rest := []) (lenOf own_pd2 rfl) rfl (by show 2 * 0 + _ ≤ _; exact Nat.le_of_eq rfl) (hb hby d7_7) (fun _ _ => ⟨rfl, e13, (by decide : 0 + 1 ≤ _), (by decide : 0 + 10 ≤ _)⟩)
  dsimp only [Pt.U, Pt.locs, Pt.cells, Pt.slots] at X14 l14 y14 z14 st14 hQ14
  subst l14 y14 z14
  obtain ⟨t, kt, rfl, N14q, K14, gt, Vt, Ot, Fm, Fe, Fs⟩ := hQ14
  have N0' := Fr.app N0 N14q
  have ne_a_t : a ≠ t := own_ne2 lt_a gt
  have ne_aD_t : aD ≠ t := own_ne2 lt_aD gt
  have ge_t : n0 ≤ t := Nat.le_trans Z0 gt
  have sz_t : h0.size ≤ t := Nat.le_trans Kp.1 gt
  have Ea := Ea.keep K14
  have VD := VD.keep K14 (ninS nD nin0)
  have Z0' := Nat.le_trans Z0 K14.1
  have Kp := Kp.trans K14 (allS (P := fun x => x ∈ [a] ∨ h0.size ≤ x) (Or.inl (List.mem_of_getElem? (i := 0) rfl)) all0)
  refine own_tr (T' := T14) (g' := (mkF m 10 #[.val (.ref a)] [(.ref t)])) st14 ?_
  exact own_retR X14 hx Bd.returns Bd.notSynchronized rfl rfl rfl (hb hby d7_10) ⟨t, kt, rfl, N0', Kp, sz_t, Vt, Ot, Fm, Fe, Fs⟩ (by decide) (by decide)
theorem own_pd3 : parseMethodDescriptor "()[Ljava/lang/Object;" = some ⟨[], some (.array (.object "java/lang/Object"))⟩ := by decide +kernel
theorem d6_0 : decode jdk_38_method_24_code 0 = .ok (.iload_n 3, 1) := by decide +kernel
theorem d6_1 : decode jdk_38_method_24_code 1 = .ok (.aload_n 2, 1) := by decide +kernel
theorem d6_2 : decode jdk_38_method_24_code 2 = .ok (.arraylength, 1) := by decide +kernel
theorem d6_3 : decode jdk_38_method_24_code 3 = .ok (.if_icmp .ne 8, 3) := by decide +kernel
theorem d6_6 : decode jdk_38_method_24_code 6 = .ok (.aload_n 0, 1) := by decide +kernel
theorem d6_7 : decode jdk_38_method_24_code 7 = .ok (.invokevirtual 129, 3) := by decide +kernel
theorem d6_10 : decode jdk_38_method_24_code 10 = .ok (.astore_n 2, 1) := by decide +kernel
theorem d6_11 : decode jdk_38_method_24_code 11 = .ok (.aload_n 2, 1) := by decide +kernel
theorem d6_12 : decode jdk_38_method_24_code 12 = .ok (.iload_n 3, 1) := by decide +kernel
theorem d6_13 : decode jdk_38_method_24_code 13 = .ok (.aload_n 1, 1) := by decide +kernel
theorem d6_14 : decode jdk_38_method_24_code 14 = .ok (.aastore, 1) := by decide +kernel
theorem d6_15 : decode jdk_38_method_24_code 15 = .ok (.aload_n 0, 1) := by decide +kernel
theorem d6_16 : decode jdk_38_method_24_code 16 = .ok (.iload_n 3, 1) := by decide +kernel
theorem d6_17 : decode jdk_38_method_24_code 17 = .ok (.iconst 1, 1) := by decide +kernel
theorem d6_18 : decode jdk_38_method_24_code 18 = .ok (.iadd, 1) := by decide +kernel
theorem d6_19 : decode jdk_38_method_24_code 19 = .ok (.putfield 48, 3) := by decide +kernel
theorem d6_22 : decode jdk_38_method_24_code 22 = .ok (.return_, 1) := by decide +kernel
def own_add3_Q (Z : State) (a : Addr) (aD : Addr) (kD : ClassId) (fD : Nat → Value) (md : Int32) (x : Addr) (h0 : Heap) (n0 : Nat) (v : Option Value) (h : Heap) (L : List Loc) : Prop := v = none ∧ Fr n0 L ∧ Keep h0 h [a] ∧ ∃ t k, h0.size ≤ t ∧ own_Av Z h t k (.object "java/lang/Object") 10 (fun q => if q = 0 then (.ref x) else .null) ∧ Fld Z h a "java/util/AbstractList" "modCount" "I" (.int md) ∧ Fld Z h a "java/util/ArrayList" "elementData" "[Ljava/lang/Object;" (.ref t) ∧ Fld Z h a "java/util/ArrayList" "size" "I" (.int (1 : Int32))
set_option maxRecDepth 65536 in
set_option maxHeartbeats 40000000 in
theorem own_add3 (l : Launch) (Z : State) (a0 : Array Value) (hw : ∀ d ∈ tables_1, d.before a0 Z = true) (ws : List Jvm.Cond) (a : Addr) (aD : Addr) (kD : ClassId) (fD : Nat → Value) (md : Int32) (x : Addr) (h0 : Heap) (n0 : Nat) (Z0 : n0 ≤ h0.size) (Fm : Fld Z h0 a "java/util/AbstractList" "modCount" "I" (.int md)) (Fe : Fld Z h0 a "java/util/ArrayList" "elementData" "[Ljava/lang/Object;" (.ref aD)) (Fs : Fld Z h0 a "java/util/ArrayList" "size" "I" (.int (0 : Int32))) (Ea : Exa Z h0 a "java/util/ArrayList") (ga : n0 ≤ a) (VD : own_Av Z h0 aD kD (.object "java/lang/Object") 0 fD) (nD : aD ≠ a) (SD : Sta Z h0 "java/util/ArrayList" "DEFAULTCAPACITY_EMPTY_ELEMENTDATA" "[Ljava/lang/Object;" (.ref aD)) (Ix : Ins Z h0 x "java/lang/Object" true) :
    MetFree l (⟨"java/util/ArrayList", "add", "(Ljava/lang/Object;[Ljava/lang/Object;I)V"⟩ : MethodName) (head1 (Jvm.Cond.code (⟨"java/util/ArrayList", "add", "(Ljava/lang/Object;[Ljava/lang/Object;I)V"⟩ : MethodName) jdk_38_method_24_code 4 none :: ws) ({ frames := 3, cells := 1, slots := 10, locals := 41 } : Room)) (fun aa U0 => aa = #[(.ref a), (.ref x), (.ref aD), (.int (0 : Int32))] ∧ Z.Warmed39 U0.vm ∧ U0.heap = h0) (fun _ _ _ _ _ => True) (fun _ U0 o0 U1 => ∃ v0 L0, o0 = .returned v0 ∧ own_add3_Q Z a aD kD fD md x h0 n0 v0 U1.heap L0 ∧ FrameEnd U0 o0 U1 L0 ({ frames := 3, cells := 1, slots := 10, locals := 41 } : Room).cells ({ frames := 3, cells := 1, slots := 10, locals := 41 } : Room).slots) := by
  refine MetFree.of_bodySF (plainFor_of_name own_pn2) hisR ?_
  intro p e s m args below meth c s₁ Bd hml0 hP hK
  obtain ⟨rfl, hZ, hh⟩ := hP
  have hx := Bd.exec
  have hby := Bd.bytes
  have hml : c.maxLocals = 4 := hml0
  have hown : s.vm.findClass "java/util/ArrayList" = some m.cls := findClass_of_methodNamed Bd.named
  have hnm := (name_of_methodNamed Bd.named Bd.method).1
  have X0 : Stand p l e ({ frames := 3, cells := 1, slots := 10, locals := 41 } : Room) s m #[(.ref a), (.ref x), (.ref aD), (.int (0 : Int32))] below meth c s₁ [] 0 0 := Stand.of_body Bd
  have e0 : s₁.heap = h0 := by rw [← hh, Bd.state]; rfl
  have N0 := Fr.nil n0
  show own_Go p e below s (own_add3_Q Z a aD kD fD md x h0 n0) 1 10 s₁ (entryFrame m #[(.ref a), (.ref x), (.ref aD), (.int (0 : Int32))] 4)
  rw [show entryFrame m #[(.ref a), (.ref x), (.ref aD), (.int (0 : Int32))] 4 = mkF m 0 #[.val (.ref a), .val (.ref x), .val (.ref aD), .val (.int (0 : Int32))] [] from by first | (simp [entryFrame, mkF, argsToLocals, Value.category]; done) | rfl]
  have Kp := Keep.refl h0 [a]
  refine own_st (T' := s₁) (g' := (mkF m 1 #[.val (.ref a), .val (.ref x), .val (.ref aD), .val (.int (0 : Int32))] [(.int (0 : Int32))])) (fun _ k => XS.iloadN X0.here hx rfl (hb hby d6_0) rfl k) ?_
  refine own_st (T' := s₁) (g' := (mkF m 2 #[.val (.ref a), .val (.ref x), .val (.ref aD), .val (.int (0 : Int32))] [(.ref aD), (.int (0 : Int32))])) (fun _ k => XS.aloadN X0.here hx rfl (hb hby d6_1) rfl rfl k) ?_
  refine own_st (T' := s₁) (g' := (mkF m 3 #[.val (.ref a), .val (.ref x), .val (.ref aD), .val (.int (0 : Int32))] [(.int (0 : Int32)), (.int (0 : Int32))])) (own_len X0 hx hZ e0 VD (z := (0 : Int32)) rfl (g := (mkF m 2 #[.val (.ref a), .val (.ref x), .val (.ref aD), .val (.int (0 : Int32))] [(.ref aD), (.int (0 : Int32))])) rfl rfl (hb hby d6_2)) ?_
  refine own_st (T' := s₁) (g' := (mkF m 6 #[.val (.ref a), .val (.ref x), .val (.ref aD), .val (.int (0 : Int32))] [])) (fun _ k => XS.icmpNo X0.here hx rfl (hb hby d6_3) rfl (Jvm.Free.XT.ii_ne_f rfl) k) ?_
  refine own_st (T' := s₁) (g' := (mkF m 7 #[.val (.ref a), .val (.ref x), .val (.ref aD), .val (.int (0 : Int32))] [(.ref a)])) (fun _ k => XS.aloadN X0.here hx rfl (hb hby d6_6) rfl rfl k) ?_
  have lt_a := Fm.lt
  have lt_aD := VD.lt
  obtain ⟨cq15, q15, q15'⟩ := Ea.cell
  obtain ⟨_, _, ⟨T15, L15, k15, n15⟩, -, X15, ⟨Lc15, hQ15, l15, y15, z15⟩, st15⟩ := X0.privateBack hx (y := (⟨"java/util/ArrayList", "grow", "()[Ljava/lang/Object;"⟩ : MethodName)) hown (mvT hZ (hw _ (List.mem_of_getElem? (i := 41) rfl))) (mvT hZ (hw _ (List.mem_of_getElem? (i := 42) rfl))) (own_selP hZ (hw _ (List.mem_of_getElem? (i := 2) rfl)) (hw _ (List.mem_of_getElem? (i := 43) rfl)) (hw _ (List.mem_of_getElem? (i := 42) rfl)) (by decide)) (Cond.privateMethod_at (mvP hZ (hw _ (List.mem_of_getElem? (i := 43) rfl)) (args := #[]))) (mvT hZ (hw _ (List.mem_of_getElem? (i := 45) rfl))) (by decide) (backOf (W := 0) (own_grow0 l Z a0 hw [] a aD kD fD md h0 n0 Z0 Fm Fe Fs Ea ga VD nD SD) hZ (hw _ (List.mem_of_getElem? (i := 45) rfl)) (hw _ (List.mem_of_getElem? (i := 3) rfl)) (by decide) (by decide)) (g := (mkF m 7 #[.val (.ref a), .val (.ref x), .val (.ref aD), .val (.int (0 : Int32))] [(.ref a)])) rfl (by rw [hml]; rfl) (Steps.refl _) (a := a) (by first | exact q15 | (rw [e0]; exact q15)) q15' (argsL := []) (rest := []) (lenOf own_pd3 rfl) rfl (by show 2 * 0 + _ ≤ _; exact Nat.le_of_eq rfl) (hb hby d6_7) (fun _ _ => ⟨rfl, e0, (by decide : 0 + 1 ≤ _), (by decide : 0 + 10 ≤ _)⟩)
  dsimp only [Pt.U, Pt.locs, Pt.cells, Pt.slots] at X15 l15 y15 z15 st15 hQ15
  subst l15 y15 z15
  obtain ⟨t, kt, rfl, N15q, K15, gt, Vt, Ot, Fm, Fe, Fs⟩ := hQ15
  have N0' := Fr.app N0 N15q
  have ne_a_t : a ≠ t := own_ne2 lt_a gt
  have ne_aD_t : aD ≠ t := own_ne2 lt_aD gt
  have ge_t : n0 ≤ t := Nat.le_trans Z0 gt
  have sz_t : h0.size ≤ t := Nat.le_trans Kp.1 gt
  have Ea := Ea.keep K15
  have VD := VD.keep K15 (ninS nD nin0)
  have Z0' := Nat.le_trans Z0 K15.1
  have Kp := Kp.trans K15 (allS (P := fun x => x ∈ [a] ∨ h0.size ≤ x) (Or.inl (List.mem_of_getElem? (i := 0) rfl)) all0)
  have Ix := own_insK Ix K15
  refine own_tr (T' := T15) (g' := (mkF m 10 #[.val (.ref a), .val (.ref x), .val (.ref aD), .val (.int (0 : Int32))] [(.ref t)])) st15 ?_
  refine own_st (T' := T15) (g' := (mkF m 11 #[.val (.ref a), .val (.ref x), .val (.ref t), .val (.int (0 : Int32))] [])) (fun _ k => XS.astoreN X15.here hx rfl (hb hby d6_10) rfl rfl (l' := #[.val (.ref a), .val (.ref x), .val (.ref t), .val (.int (0 : Int32))]) rfl k) ?_
  refine own_st (T' := T15) (g' := (mkF m 12 #[.val (.ref a), .val (.ref x), .val (.ref t), .val (.int (0 : Int32))] [(.ref t)])) (fun _ k => XS.aloadN X15.here hx rfl (hb hby d6_11) rfl rfl k) ?_
  refine own_st (T' := T15) (g' := (mkF m 13 #[.val (.ref a), .val (.ref x), .val (.ref t), .val (.int (0 : Int32))] [(.int (0 : Int32)), (.ref t)])) (fun _ k => XS.iloadN X15.here hx rfl (hb hby d6_12) rfl k) ?_
  refine own_st (T' := T15) (g' := (mkF m 14 #[.val (.ref a), .val (.ref x), .val (.ref t), .val (.int (0 : Int32))] [(.ref x), (.int (0 : Int32)), (.ref t)])) (fun _ k => XS.aloadN X15.here hx rfl (hb hby d6_13) rfl rfl k) ?_
  obtain ⟨T16, h16, X16, e16, W16, V16, st16⟩ := own_stR X15 hx hZ rfl Vt Ot (Or.inr ⟨_, rfl, Ix⟩) (i := 0) (by decide) (by decide) (g := (mkF m 14 #[.val (.ref a), .val (.ref x), .val (.ref t), .val (.int (0 : Int32))] [(.ref x), (.int (0 : Int32)), (.ref t)])) rfl rfl (hb hby d6_14)
  have Ea := Ea.wr W16
  have VD := VD.other W16 ne_aD_t
  have Fm := Fm.other W16 (Or.inl ne_a_t)
  have Fe := Fe.other W16 (Or.inl ne_a_t)
  have Fs := Fs.other W16 (Or.inl ne_a_t)
  have Ix := Ix.wr W16
  have Z0'' := Nat.le_trans Z0' (Keep.of_wr W16).1
  have Kp := Kp.wr W16 (Or.inr sz_t)
  have N0'' := Fr.snoc X16 N0' ge_t
  have Vt := V16
  refine own_st (T' := T16) (g' := (mkF m 15 #[.val (.ref a), .val (.ref x), .val (.ref t), .val (.int (0 : Int32))] [])) st16 ?_
  refine own_st (T' := T16) (g' := (mkF m 16 #[.val (.ref a), .val (.ref x), .val (.ref t), .val (.int (0 : Int32))] [(.ref a)])) (fun _ k => XS.aloadN X16.here hx rfl (hb hby d6_15) rfl rfl k) ?_
  refine own_st (T' := T16) (g' := (mkF m 17 #[.val (.ref a), .val (.ref x), .val (.ref t), .val (.int (0 : Int32))] [(.int (0 : Int32)), (.ref a)])) (fun _ k => XS.iloadN X16.here hx rfl (hb hby d6_16) rfl k) ?_
  refine own_st (T' := T16) (g' := (mkF m 18 #[.val (.ref a), .val (.ref x), .val (.ref t), .val (.int (0 : Int32))] [(.int (1 : Int32)), (.int (0 : Int32)), (.ref a)])) (fun _ k => XS.iconst X16.here hx rfl (hb hby d6_17) k) ?_
  refine own_st (T' := T16) (g' := (mkF m 19 #[.val (.ref a), .val (.ref x), .val (.ref t), .val (.int (0 : Int32))] [(.int ((0 : Int32) + (1 : Int32))), (.ref a)])) (fun _ k => XS.iadd X16.here hx rfl (hb hby d6_18) rfl k) ?_
  rw [show ((0 : Int32) + (1 : Int32)) = (1 : Int32) from rfl]
  obtain ⟨T17, h17, X17, e17, W17, st17⟩ := putF X16 hx hZ hown (host := "") (Or.inl (hw _ (List.mem_of_getElem? (i := 34) rfl))) Via.refl e16 Fs Ea (Or.inl (hw _ (List.mem_of_getElem? (i := 35) rfl))) (hw _ (List.mem_of_getElem? (i := 2) rfl)) (ty := .int) (by decide) rfl rfl (g := (mkF m 19 #[.val (.ref a), .val (.ref x), .val (.ref t), .val (.int (0 : Int32))] [(.int (1 : Int32)), (.ref a)])) rfl rfl (hb hby d6_19)
  have Ea := Ea.wr W17
  have VD := VD.other W17 nD
  have Fm := Fm.other W17 (Or.inr (slot_ne (Or.inl (hw _ (List.mem_of_getElem? (i := 23) rfl))) (Or.inl (hw _ (List.mem_of_getElem? (i := 35) rfl))) (by decide) (t := .int) (t' := .int) (by decide) (by decide)))
  have Fe := Fe.other W17 (Or.inr (slot_ne (Or.inl (hw _ (List.mem_of_getElem? (i := 26) rfl))) (Or.inl (hw _ (List.mem_of_getElem? (i := 35) rfl))) (by decide) (t := (.array (.object "java/lang/Object"))) (t' := .int) (by decide) (by decide)))
  have Vt := Vt.other W17 (Ne.symm ne_a_t)
  have Ix := Ix.wr W17
  have Z0''' := Nat.le_trans Z0'' (Keep.of_wr W17).1
  have Kp := Kp.wr W17 (Or.inl (List.mem_of_getElem? (i := 0) rfl))
  have N0''' := Fr.snoc X17 N0'' ga
  have Fs := Fs.same W17
  refine own_st (T' := T17) (g' := (mkF m 22 #[.val (.ref a), .val (.ref x), .val (.ref t), .val (.int (0 : Int32))] [])) st17 ?_
  exact own_ret0 X17 hx Bd.returns Bd.notSynchronized e17 (hb hby d6_22) ⟨rfl, N0''', Kp, t, kt, sz_t, Vt, Fm, Fe, Fs⟩ (by decide) (by decide)
theorem own_pd4 : parseMethodDescriptor "(Ljava/lang/Object;[Ljava/lang/Object;I)V" = some ⟨[(.object "java/lang/Object"), (.array (.object "java/lang/Object")), .int], none⟩ := by decide +kernel
theorem d5_0 : decode jdk_38_method_25_code 0 = .ok (.aload_n 0, 1) := by decide +kernel
theorem d5_1 : decode jdk_38_method_25_code 1 = .ok (.dup, 1) := by decide +kernel
theorem d5_2 : decode jdk_38_method_25_code 2 = .ok (.getfield 63, 3) := by decide +kernel
theorem d5_5 : decode jdk_38_method_25_code 5 = .ok (.iconst 1, 1) := by decide +kernel
theorem d5_6 : decode jdk_38_method_25_code 6 = .ok (.iadd, 1) := by decide +kernel
theorem d5_7 : decode jdk_38_method_25_code 7 = .ok (.putfield 63, 3) := by decide +kernel
theorem d5_10 : decode jdk_38_method_25_code 10 = .ok (.aload_n 0, 1) := by decide +kernel
theorem d5_11 : decode jdk_38_method_25_code 11 = .ok (.aload_n 1, 1) := by decide +kernel
theorem d5_12 : decode jdk_38_method_25_code 12 = .ok (.aload_n 0, 1) := by decide +kernel
theorem d5_13 : decode jdk_38_method_25_code 13 = .ok (.getfield 9, 3) := by decide +kernel
theorem d5_16 : decode jdk_38_method_25_code 16 = .ok (.aload_n 0, 1) := by decide +kernel
theorem d5_17 : decode jdk_38_method_25_code 17 = .ok (.getfield 48, 3) := by decide +kernel
theorem d5_20 : decode jdk_38_method_25_code 20 = .ok (.invokevirtual 131, 3) := by decide +kernel
theorem d5_23 : decode jdk_38_method_25_code 23 = .ok (.iconst 1, 1) := by decide +kernel
theorem d5_24 : decode jdk_38_method_25_code 24 = .ok (.ireturn, 1) := by decide +kernel
def own_alAdd_Q (Z : State) (a : Addr) (aD : Addr) (kD : ClassId) (fD : Nat → Value) (md : Int32) (x : Addr) (h0 : Heap) (n0 : Nat) (v : Option Value) (h : Heap) (L : List Loc) : Prop := v = some (.int 1) ∧ Fr n0 L ∧ Keep h0 h [a] ∧ ∃ t k, h0.size ≤ t ∧ own_Av Z h t k (.object "java/lang/Object") 10 (fun q => if q = 0 then (.ref x) else .null) ∧ Fld Z h a "java/util/ArrayList" "elementData" "[Ljava/lang/Object;" (.ref t) ∧ Fld Z h a "java/util/ArrayList" "size" "I" (.int (1 : Int32))
set_option maxRecDepth 65536 in
set_option maxHeartbeats 40000000 in
theorem own_alAdd (l : Launch) (Z : State) (a0 : Array Value) (hw : ∀ d ∈ tables_1, d.before a0 Z = true) (ws : List Jvm.Cond) (a : Addr) (aD : Addr) (kD : ClassId) (fD : Nat → Value) (md : Int32) (x : Addr) (h0 : Heap) (n0 : Nat) (Z0 : n0 ≤ h0.size) (Fm : Fld Z h0 a "java/util/AbstractList" "modCount" "I" (.int md)) (Fe : Fld Z h0 a "java/util/ArrayList" "elementData" "[Ljava/lang/Object;" (.ref aD)) (Fs : Fld Z h0 a "java/util/ArrayList" "size" "I" (.int (0 : Int32))) (Ea : Exa Z h0 a "java/util/ArrayList") (ga : n0 ≤ a) (VD : own_Av Z h0 aD kD (.object "java/lang/Object") 0 fD) (nD : aD ≠ a) (SD : Sta Z h0 "java/util/ArrayList" "DEFAULTCAPACITY_EMPTY_ELEMENTDATA" "[Ljava/lang/Object;" (.ref aD)) (Ix : Ins Z h0 x "java/lang/Object" true) :
    MetFree l (⟨"java/util/ArrayList", "add", "(Ljava/lang/Object;)Z"⟩ : MethodName) (head1 (Jvm.Cond.code (⟨"java/util/ArrayList", "add", "(Ljava/lang/Object;)Z"⟩ : MethodName) jdk_38_method_25_code 2 (some .boolean) :: ws) ({ frames := 4, cells := 1, slots := 10, locals := 56 } : Room)) (fun aa U0 => aa = #[(.ref a), (.ref x)] ∧ Z.Warmed39 U0.vm ∧ U0.heap = h0) (fun _ _ _ _ _ => True) (fun _ U0 o0 U1 => ∃ v0 L0, o0 = .returned v0 ∧ own_alAdd_Q Z a aD kD fD md x h0 n0 v0 U1.heap L0 ∧ FrameEnd U0 o0 U1 L0 ({ frames := 4, cells := 1, slots := 10, locals := 56 } : Room).cells ({ frames := 4, cells := 1, slots := 10, locals := 56 } : Room).slots) := by
  refine MetFree.of_bodySF (plainFor_of_name own_pn2) hisR ?_
  intro p e s m args below meth c s₁ Bd hml0 hP hK
  obtain ⟨rfl, hZ, hh⟩ := hP
  have hx := Bd.exec
  have hby := Bd.bytes
  have hml : c.maxLocals = 2 := hml0
  have hown : s.vm.findClass "java/util/ArrayList" = some m.cls := findClass_of_methodNamed Bd.named
  have hnm := (name_of_methodNamed Bd.named Bd.method).1
  have X0 : Stand p l e ({ frames := 4, cells := 1, slots := 10, locals := 56 } : Room) s m #[(.ref a), (.ref x)] below meth c s₁ [] 0 0 := Stand.of_body Bd
  have e0 : s₁.heap = h0 := by rw [← hh, Bd.state]; rfl
  have N0 := Fr.nil n0
  show own_Go p e below s (own_alAdd_Q Z a aD kD fD md x h0 n0) 1 10 s₁ (entryFrame m #[(.ref a), (.ref x)] 2)
  rw [show entryFrame m #[(.ref a), (.ref x)] 2 = mkF m 0 #[.val (.ref a), .val (.ref x)] [] from by first | (simp [entryFrame, mkF, argsToLocals, Value.category]; done) | rfl]
  have Kp := Keep.refl h0 [a]
  refine own_st (T' := s₁) (g' := (mkF m 1 #[.val (.ref a), .val (.ref x)] [(.ref a)])) (fun _ k => XS.aloadN X0.here hx rfl (hb hby d5_0) rfl rfl k) ?_
  refine own_st (T' := s₁) (g' := (mkF m 2 #[.val (.ref a), .val (.ref x)] [(.ref a), (.ref a)])) (fun _ k => XS.dup X0.here hx rfl (hb hby d5_1) rfl rfl k) ?_
  obtain ⟨T18, X18, e18, st18⟩ := getF X0 hx hZ hown (host := "") (Or.inl (hw _ (List.mem_of_getElem? (i := 32) rfl))) (Via.of (hw _ (List.mem_of_getElem? (i := 33) rfl))) e0 Fm (g := (mkF m 2 #[.val (.ref a), .val (.ref x)] [(.ref a), (.ref a)])) rfl rfl (hb hby d5_2)
  refine own_st (T' := T18) (g' := (mkF m 5 #[.val (.ref a), .val (.ref x)] [(.int md), (.ref a)])) st18 ?_
  refine own_st (T' := T18) (g' := (mkF m 6 #[.val (.ref a), .val (.ref x)] [(.int (1 : Int32)), (.int md), (.ref a)])) (fun _ k => XS.iconst X18.here hx rfl (hb hby d5_5) k) ?_
  refine own_st (T' := T18) (g' := (mkF m 7 #[.val (.ref a), .val (.ref x)] [(.int (md + (1 : Int32))), (.ref a)])) (fun _ k => XS.iadd X18.here hx rfl (hb hby d5_6) rfl k) ?_
  obtain ⟨T19, h19, X19, e19, W19, st19⟩ := putF X18 hx hZ hown (host := "") (Or.inl (hw _ (List.mem_of_getElem? (i := 32) rfl))) (Via.of (hw _ (List.mem_of_getElem? (i := 33) rfl))) e18 Fm Ea (Or.inl (hw _ (List.mem_of_getElem? (i := 23) rfl))) (hw _ (List.mem_of_getElem? (i := 2) rfl)) (ty := .int) (by decide) rfl rfl (g := (mkF m 7 #[.val (.ref a), .val (.ref x)] [(.int (md + (1 : Int32))), (.ref a)])) rfl rfl (hb hby d5_7)
  have Fe := Fe.other W19 (Or.inr (slot_ne (Or.inl (hw _ (List.mem_of_getElem? (i := 26) rfl))) (Or.inl (hw _ (List.mem_of_getElem? (i := 23) rfl))) (by decide) (t := (.array (.object "java/lang/Object"))) (t' := .int) (by decide) (by decide)))
  have Fs := Fs.other W19 (Or.inr (slot_ne (Or.inl (hw _ (List.mem_of_getElem? (i := 35) rfl))) (Or.inl (hw _ (List.mem_of_getElem? (i := 23) rfl))) (by decide) (t := .int) (t' := .int) (by decide) (by decide)))
  have Ea := Ea.wr W19
  have VD := VD.other W19 nD
  have SD := SD.wr W19
  have Ix := Ix.wr W19
  have Z0' := Nat.le_trans Z0 (Keep.of_wr W19).1
  have Kp := Kp.wr W19 (Or.inl (List.mem_of_getElem? (i := 0) rfl))
  have N0' := Fr.snoc X19 N0 ga
  have Fm := Fm.same W19
  refine own_st (T' := T19) (g' := (mkF m 10 #[.val (.ref a), .val (.ref x)] [])) st19 ?_
  refine own_st (T' := T19) (g' := (mkF m 11 #[.val (.ref a), .val (.ref x)] [(.ref a)])) (fun _ k => XS.aloadN X19.here hx rfl (hb hby d5_10) rfl rfl k) ?_
  refine own_st (T' := T19) (g' := (mkF m 12 #[.val (.ref a), .val (.ref x)] [(.ref x), (.ref a)])) (fun _ k => XS.aloadN X19.here hx rfl (hb hby d5_11) rfl rfl k) ?_
  refine own_st (T' := T19) (g' := (mkF m 13 #[.val (.ref a), .val (.ref x)] [(.ref a), (.ref x), (.ref a)])) (fun _ k => XS.aloadN X19.here hx rfl (hb hby d5_12) rfl rfl k) ?_
  obtain ⟨T20, X20, e20, st20⟩ := getF X19 hx hZ hown (host := "") (Or.inl (hw _ (List.mem_of_getElem? (i := 25) rfl))) Via.refl e19 Fe (g := (mkF m 13 #[.val (.ref a), .val (.ref x)] [(.ref a), (.ref x), (.ref a)])) rfl rfl (hb hby d5_13)
  refine own_st (T' := T20) (g' := (mkF m 16 #[.val (.ref a), .val (.ref x)] [(.ref aD), (.ref x), (.ref a)])) st20 ?_
  refine own_st (T' := T20) (g' := (mkF m 17 #[.val (.ref a), .val (.ref x)] [(.ref a), (.ref aD), (.ref x), (.ref a)])) (fun _ k => XS.aloadN X20.here hx rfl (hb hby d5_16) rfl rfl k) ?_
  obtain ⟨T21, X21, e21, st21⟩ := getF X20 hx hZ hown (host := "") (Or.inl (hw _ (List.mem_of_getElem? (i := 34) rfl))) Via.refl e20 Fs (g := (mkF m 17 #[.val (.ref a), .val (.ref x)] [(.ref a), (.ref aD), (.ref x), (.ref a)])) rfl rfl (hb hby d5_17)
  refine own_st (T' := T21) (g' := (mkF m 20 #[.val (.ref a), .val (.ref x)] [(.int (0 : Int32)), (.ref aD), (.ref x), (.ref a)])) st21 ?_
  have lt_a := Fm.lt
  have lt_aD := VD.lt
  obtain ⟨cq22, q22, q22'⟩ := Ea.cell
  obtain ⟨_, _, ⟨T22, L22, k22, n22⟩, -, X22, ⟨Lc22, hQ22, l22, y22, z22⟩, st22⟩ := X21.privateBack hx (y := (⟨"java/util/ArrayList", "add", "(Ljava/lang/Object;[Ljava/lang/Object;I)V"⟩ : MethodName)) hown (mvT hZ (hw _ (List.mem_of_getElem? (i := 36) rfl))) (mvT hZ (hw _ (List.mem_of_getElem? (i := 37) rfl))) (own_selP hZ (hw _ (List.mem_of_getElem? (i := 2) rfl)) (hw _ (List.mem_of_getElem? (i := 38) rfl)) (hw _ (List.mem_of_getElem? (i := 37) rfl)) (by decide)) (Cond.privateMethod_at (mvP hZ (hw _ (List.mem_of_getElem? (i := 38) rfl)) (args := #[]))) (mvT hZ (hw _ (List.mem_of_getElem? (i := 40) rfl))) (by decide) (backOf (W := 0) (own_add3 l Z a0 hw [] a aD kD fD (md + (1 : Int32)) x h19 n0 Z0' Fm Fe Fs Ea ga VD nD SD Ix) hZ (hw _ (List.mem_of_getElem? (i := 40) rfl)) (hw _ (List.mem_of_getElem? (i := 3) rfl)) (by decide) (by decide)) (g := (mkF m 20 #[.val (.ref a), .val (.ref x)] [(.int (0 : Int32)), (.ref aD), (.ref x), (.ref a)])) rfl (by rw [hml]; rfl) (Steps.refl _) (a := a) (by first | exact q22 | (rw [e21]; exact q22)) q22' (argsL := [(.ref x), (.ref aD), (.int (0 : Int32))]) (rest := []) (lenOf own_pd4 rfl) rfl (by show 2 * 0 + _ ≤ _; exact Nat.le_of_eq rfl) (hb hby d5_20) (fun _ _ => ⟨rfl, e21, (by decide : 0 + 1 ≤ _), (by decide : 0 + 10 ≤ _)⟩)
  dsimp only [Pt.U, Pt.locs, Pt.cells, Pt.slots] at X22 l22 y22 z22 st22 hQ22
  subst l22 y22 z22
  obtain ⟨rfl, N22q, K22, t, kt, gt, Vt, Fm, Fe, Fs⟩ := hQ22
  have N0'' := Fr.app N0' N22q
  have ne_a_t : a ≠ t := own_ne2 lt_a gt
  have ne_aD_t : aD ≠ t := own_ne2 lt_aD gt
  have ge_t : n0 ≤ t := Nat.le_trans Z0' gt
  have sz_t : h0.size ≤ t := Nat.le_trans Kp.1 gt
  have Ea := Ea.keep K22
  have VD := VD.keep K22 (ninS nD nin0)
  have Z0'' := Nat.le_trans Z0' K22.1
  have Kp := Kp.trans K22 (allS (P := fun x => x ∈ [a] ∨ h0.size ≤ x) (Or.inl (List.mem_of_getElem? (i := 0) rfl)) all0)
  refine own_tr (T' := T22) (g' := (mkF m 23 #[.val (.ref a), .val (.ref x)] [])) st22 ?_
  refine own_st (T' := T22) (g' := (mkF m 24 #[.val (.ref a), .val (.ref x)] [(.int (1 : Int32))])) (fun _ k => XS.iconst X22.here hx rfl (hb hby d5_23) k) ?_
  exact own_retN X22 hx Bd.returns Bd.notSynchronized rfl (by simp) (hb hby d5_24) ⟨rfl, N0'', Kp, t, kt, sz_t, Vt, Fe, Fs⟩ (by decide) (by decide)
theorem d16_0 : decode jdk_47_method_1_code 0 = .ok (.aload_n 0, 1) := by decide +kernel
theorem d16_1 : decode jdk_47_method_1_code 1 = .ok (.invokespecial 1, 3) := by decide +kernel
theorem d16_4 : decode jdk_47_method_1_code 4 = .ok (.return_, 1) := by decide +kernel
theorem own_pn3 : plainName "java/util/ImmutableCollections$AbstractImmutableCollection" = true := by first | (simp [plainName, overriddenIn]; done) | decide +kernel
def own_aic_Q (Z : State) (a : Addr) (h0 : Heap) (n0 : Nat) (v : Option Value) (h : Heap) (L : List Loc) : Prop := v = none ∧ Fr n0 L ∧ h = h0
set_option maxRecDepth 65536 in
set_option maxHeartbeats 40000000 in
theorem own_aic (l : Launch) (Z : State) (a0 : Array Value) (hw : ∀ d ∈ tables_1, d.before a0 Z = true) (ws : List Jvm.Cond) (a : Addr) (h0 : Heap) (n0 : Nat) (Z0 : n0 ≤ h0.size) :
    MetFree l (⟨"java/util/ImmutableCollections$AbstractImmutableCollection", "<init>", "()V"⟩ : MethodName) (head1 (Jvm.Cond.code (⟨"java/util/ImmutableCollections$AbstractImmutableCollection", "<init>", "()V"⟩ : MethodName) jdk_47_method_1_code 1 none :: ws) ({ frames := 2, cells := 0, slots := 0, locals := 24 } : Room)) (fun aa U0 => aa = #[(.ref a)] ∧ Z.Warmed39 U0.vm ∧ U0.heap = h0) (fun _ _ _ _ _ => True) (fun _ U0 o0 U1 => ∃ v0 L0, o0 = .returned v0 ∧ own_aic_Q Z a h0 n0 v0 U1.heap L0 ∧ FrameEnd U0 o0 U1 L0 ({ frames := 2, cells := 0, slots := 0, locals := 24 } : Room).cells ({ frames := 2, cells := 0, slots := 0, locals := 24 } : Room).slots) := by
  refine MetFree.of_bodySF (plainFor_of_name own_pn3) hisR ?_
  intro p e s m args below meth c s₁ Bd hml0 hP hK
  obtain ⟨rfl, hZ, hh⟩ := hP
  have hx := Bd.exec
  have hby := Bd.bytes
  have hml : c.maxLocals = 1 := hml0
  have hown : s.vm.findClass "java/util/ImmutableCollections$AbstractImmutableCollection" = some m.cls := findClass_of_methodNamed Bd.named
  have hnm := (name_of_methodNamed Bd.named Bd.method).1
  have X0 : Stand p l e ({ frames := 2, cells := 0, slots := 0, locals := 24 } : Room) s m #[(.ref a)] below meth c s₁ [] 0 0 := Stand.of_body Bd
  have e0 : s₁.heap = h0 := by rw [← hh, Bd.state]; rfl
  have N0 := Fr.nil n0
  show own_Go p e below s (own_aic_Q Z a h0 n0) 0 0 s₁ (entryFrame m #[(.ref a)] 1)
  rw [show entryFrame m #[(.ref a)] 1 = mkF m 0 #[.val (.ref a)] [] from by first | (simp [entryFrame, mkF, argsToLocals, Value.category]; done) | rfl]
  refine own_st (T' := s₁) (g' := (mkF m 1 #[.val (.ref a)] [(.ref a)])) (fun _ k => XS.aloadN X0.here hx rfl (hb hby d16_0) rfl rfl k) ?_
  obtain ⟨_, _, ⟨T23, L23, k23, n23⟩, -, X23, ⟨Lc23, hQ23, l23, y23, z23⟩, st23⟩ := X0.specialBack hx (y := (⟨"java/util/AbstractCollection", "<init>", "()V"⟩ : MethodName)) rfl hown (mvT hZ (hw _ (List.mem_of_getElem? (i := 100) rfl))) (mvT hZ (hw _ (List.mem_of_getElem? (i := 14) rfl))) (mvT hZ (hw _ (List.mem_of_getElem? (i := 18) rfl))) (by decide) (backOf (W := 0) (own_aci l Z a0 hw [] a h0 n0 Z0 ) hZ (hw _ (List.mem_of_getElem? (i := 18) rfl)) (hw _ (List.mem_of_getElem? (i := 17) rfl)) (by decide) (by decide)) (g := (mkF m 1 #[.val (.ref a)] [(.ref a)])) rfl (by rw [hml]; rfl) (Steps.refl _) (a := a) (argsL := []) (rest := []) (lenOf own_pd0 rfl) rfl (by show 2 * 0 + _ ≤ _; exact Nat.le_of_eq rfl) (hb hby d16_1) (fun _ _ => ⟨rfl, e0, (by decide : 0 + 0 ≤ _), (by decide : 0 + 0 ≤ _)⟩)
  dsimp only [Pt.U, Pt.locs, Pt.cells, Pt.slots] at X23 l23 y23 z23 st23 hQ23
  subst l23 y23 z23
  obtain ⟨rfl, N23q, e23⟩ := hQ23
  have N0' := Fr.app N0 N23q
  refine own_tr (T' := T23) (g' := (mkF m 4 #[.val (.ref a)] [])) st23 ?_
  exact own_ret0 X23 hx Bd.returns Bd.notSynchronized e23 (hb hby d16_4) ⟨rfl, N0', rfl⟩ (by decide) (by decide)
theorem d15_0 : decode jdk_46_method_1_code 0 = .ok (.aload_n 0, 1) := by decide +kernel
theorem d15_1 : decode jdk_46_method_1_code 1 = .ok (.invokespecial 1, 3) := by decide +kernel
theorem d15_4 : decode jdk_46_method_1_code 4 = .ok (.return_, 1) := by decide +kernel
theorem own_pn4 : plainName "java/util/ImmutableCollections$AbstractImmutableList" = true := by first | (simp [plainName, overriddenIn]; done) | decide +kernel
def own_ail_Q (Z : State) (a : Addr) (h0 : Heap) (n0 : Nat) (v : Option Value) (h : Heap) (L : List Loc) : Prop := v = none ∧ Fr n0 L ∧ h = h0
set_option maxRecDepth 65536 in
set_option maxHeartbeats 40000000 in
theorem own_ail (l : Launch) (Z : State) (a0 : Array Value) (hw : ∀ d ∈ tables_1, d.before a0 Z = true) (ws : List Jvm.Cond) (a : Addr) (h0 : Heap) (n0 : Nat) (Z0 : n0 ≤ h0.size) :
    MetFree l (⟨"java/util/ImmutableCollections$AbstractImmutableList", "<init>", "()V"⟩ : MethodName) (head1 (Jvm.Cond.code (⟨"java/util/ImmutableCollections$AbstractImmutableList", "<init>", "()V"⟩ : MethodName) jdk_46_method_1_code 1 none :: ws) ({ frames := 3, cells := 0, slots := 0, locals := 36 } : Room)) (fun aa U0 => aa = #[(.ref a)] ∧ Z.Warmed39 U0.vm ∧ U0.heap = h0) (fun _ _ _ _ _ => True) (fun _ U0 o0 U1 => ∃ v0 L0, o0 = .returned v0 ∧ own_ail_Q Z a h0 n0 v0 U1.heap L0 ∧ FrameEnd U0 o0 U1 L0 ({ frames := 3, cells := 0, slots := 0, locals := 36 } : Room).cells ({ frames := 3, cells := 0, slots := 0, locals := 36 } : Room).slots) := by
  refine MetFree.of_bodySF (plainFor_of_name own_pn4) hisR ?_
  intro p e s m args below meth c s₁ Bd hml0 hP hK
  obtain ⟨rfl, hZ, hh⟩ := hP
  have hx := Bd.exec
  have hby := Bd.bytes
  have hml : c.maxLocals = 1 := hml0
  have hown : s.vm.findClass "java/util/ImmutableCollections$AbstractImmutableList" = some m.cls := findClass_of_methodNamed Bd.named
  have hnm := (name_of_methodNamed Bd.named Bd.method).1
  have X0 : Stand p l e ({ frames := 3, cells := 0, slots := 0, locals := 36 } : Room) s m #[(.ref a)] below meth c s₁ [] 0 0 := Stand.of_body Bd
  have e0 : s₁.heap = h0 := by rw [← hh, Bd.state]; rfl
  have N0 := Fr.nil n0
  show own_Go p e below s (own_ail_Q Z a h0 n0) 0 0 s₁ (entryFrame m #[(.ref a)] 1)
  rw [show entryFrame m #[(.ref a)] 1 = mkF m 0 #[.val (.ref a)] [] from by first | (simp [entryFrame, mkF, argsToLocals, Value.category]; done) | rfl]
  refine own_st (T' := s₁) (g' := (mkF m 1 #[.val (.ref a)] [(.ref a)])) (fun _ k => XS.aloadN X0.here hx rfl (hb hby d15_0) rfl rfl k) ?_
  obtain ⟨_, _, ⟨T24, L24, k24, n24⟩, -, X24, ⟨Lc24, hQ24, l24, y24, z24⟩, st24⟩ := X0.specialBack hx (y := (⟨"java/util/ImmutableCollections$AbstractImmutableCollection", "<init>", "()V"⟩ : MethodName)) rfl hown (mvT hZ (hw _ (List.mem_of_getElem? (i := 94) rfl))) (mvT hZ (hw _ (List.mem_of_getElem? (i := 95) rfl))) (mvT hZ (hw _ (List.mem_of_getElem? (i := 99) rfl))) (by decide) (backOf (W := 0) (own_aic l Z a0 hw [] a h0 n0 Z0 ) hZ (hw _ (List.mem_of_getElem? (i := 99) rfl)) (hw _ (List.mem_of_getElem? (i := 98) rfl)) (by decide) (by decide)) (g := (mkF m 1 #[.val (.ref a)] [(.ref a)])) rfl (by rw [hml]; rfl) (Steps.refl _) (a := a) (argsL := []) (rest := []) (lenOf own_pd0 rfl) rfl (by show 2 * 0 + _ ≤ _; exact Nat.le_of_eq rfl) (hb hby d15_1) (fun _ _ => ⟨rfl, e0, (by decide : 0 + 0 ≤ _), (by decide : 0 + 0 ≤ _)⟩)
  dsimp only [Pt.U, Pt.locs, Pt.cells, Pt.slots] at X24 l24 y24 z24 st24 hQ24
  subst l24 y24 z24
  obtain ⟨rfl, N24q, e24⟩ := hQ24
  have N0' := Fr.app N0 N24q
  refine own_tr (T' := T24) (g' := (mkF m 4 #[.val (.ref a)] [])) st24 ?_
  exact own_ret0 X24 hx Bd.returns Bd.notSynchronized e24 (hb hby d15_4) ⟨rfl, N0', rfl⟩ (by decide) (by decide)
theorem d17_0 : decode jdk_31_method_10_code 0 = .ok (.aload_n 0, 1) := by decide +kernel
theorem d17_1 : decode jdk_31_method_10_code 1 = .ok (.ifnonnull 11, 3) := by decide +kernel
theorem d17_12 : decode jdk_31_method_10_code 12 = .ok (.aload_n 0, 1) := by decide +kernel
theorem d17_13 : decode jdk_31_method_10_code 13 = .ok (.areturn, 1) := by decide +kernel
theorem own_pn5 : plainName "java/util/Objects" = true := by first | (simp [plainName, overriddenIn]; done) | decide +kernel
def own_rnn_Q (Z : State) (a : Addr) (h0 : Heap) (n0 : Nat) (v : Option Value) (h : Heap) (L : List Loc) : Prop := v = some (.ref a) ∧ Fr n0 L ∧ h = h0
set_option maxRecDepth 65536 in
set_option maxHeartbeats 40000000 in
theorem own_rnn (l : Launch) (Z : State) (a0 : Array Value) (hw : ∀ d ∈ tables_1, d.before a0 Z = true) (ws : List Jvm.Cond) (a : Addr) (h0 : Heap) (n0 : Nat) (Z0 : n0 ≤ h0.size) :
    MetFree l (⟨"java/util/Objects", "requireNonNull", "(Ljava/lang/Object;)Ljava/lang/Object;"⟩ : MethodName) (head1 (Jvm.Cond.code (⟨"java/util/Objects", "requireNonNull", "(Ljava/lang/Object;)Ljava/lang/Object;"⟩ : MethodName) jdk_31_method_10_code 1 (some (.object "java/lang/Object")) :: ws) ({ frames := 0, cells := 0, slots := 0, locals := 0 } : Room)) (fun aa U0 => aa = #[(.ref a)] ∧ Z.Warmed39 U0.vm ∧ U0.heap = h0) (fun _ _ _ _ _ => True) (fun _ U0 o0 U1 => ∃ v0 L0, o0 = .returned v0 ∧ own_rnn_Q Z a h0 n0 v0 U1.heap L0 ∧ FrameEnd U0 o0 U1 L0 ({ frames := 0, cells := 0, slots := 0, locals := 0 } : Room).cells ({ frames := 0, cells := 0, slots := 0, locals := 0 } : Room).slots) := by
  refine MetFree.of_bodySF (plainFor_of_name own_pn5) hisR ?_
  intro p e s m args below meth c s₁ Bd hml0 hP hK
  obtain ⟨rfl, hZ, hh⟩ := hP
  have hx := Bd.exec
  have hby := Bd.bytes
  have hml : c.maxLocals = 1 := hml0
  have hown : s.vm.findClass "java/util/Objects" = some m.cls := findClass_of_methodNamed Bd.named
  have hnm := (name_of_methodNamed Bd.named Bd.method).1
  have X0 : Stand p l e ({ frames := 0, cells := 0, slots := 0, locals := 0 } : Room) s m #[(.ref a)] below meth c s₁ [] 0 0 := Stand.of_body Bd
  have e0 : s₁.heap = h0 := by rw [← hh, Bd.state]; rfl
  have N0 := Fr.nil n0
  show own_Go p e below s (own_rnn_Q Z a h0 n0) 0 0 s₁ (entryFrame m #[(.ref a)] 1)
  rw [show entryFrame m #[(.ref a)] 1 = mkF m 0 #[.val (.ref a)] [] from by first | (simp [entryFrame, mkF, argsToLocals, Value.category]; done) | rfl]
  refine own_st (T' := s₁) (g' := (mkF m 1 #[.val (.ref a)] [(.ref a)])) (fun _ k => XS.aloadN X0.here hx rfl (hb hby d17_0) rfl rfl k) ?_
  refine own_st (T' := s₁) (g' := (mkF m 12 #[.val (.ref a)] [])) (fun _ k => Jvm.Free.XT.nonnullYes X0.here hx rfl (pc0 := 1) (pc' := 12) rfl (hb hby d17_1) rfl rfl (by simp) (by decide) (by decide) k) ?_
  refine own_st (T' := s₁) (g' := (mkF m 13 #[.val (.ref a)] [(.ref a)])) (fun _ k => XS.aloadN X0.here hx rfl (hb hby d17_12) rfl rfl k) ?_
  exact own_retR X0 hx Bd.returns Bd.notSynchronized e0 rfl rfl (hb hby d17_13) ⟨rfl, N0, rfl⟩ (by decide) (by decide)
theorem own_pd5 : parseMethodDescriptor "(Ljava/lang/Object;)Ljava/lang/Object;" = some ⟨[(.object "java/lang/Object")], some (.object "java/lang/Object")⟩ := by decide +kernel
theorem d14_0 : decode jdk_44_method_1_code 0 = .ok (.aload_n 0, 1) := by decide +kernel
theorem d14_1 : decode jdk_44_method_1_code 1 = .ok (.invokespecial 1, 3) := by decide +kernel
theorem d14_4 : decode jdk_44_method_1_code 4 = .ok (.aload_n 0, 1) := by decide +kernel
theorem d14_5 : decode jdk_44_method_1_code 5 = .ok (.aload_n 1, 1) := by decide +kernel
theorem d14_6 : decode jdk_44_method_1_code 6 = .ok (.invokestatic 7, 3) := by decide +kernel
theorem d14_9 : decode jdk_44_method_1_code 9 = .ok (.putfield 13, 3) := by decide +kernel
theorem d14_12 : decode jdk_44_method_1_code 12 = .ok (.aload_n 0, 1) := by decide +kernel
theorem d14_13 : decode jdk_44_method_1_code 13 = .ok (.getstatic 19, 3) := by decide +kernel
theorem d14_16 : decode jdk_44_method_1_code 16 = .ok (.putfield 24, 3) := by decide +kernel
theorem d14_19 : decode jdk_44_method_1_code 19 = .ok (.return_, 1) := by decide +kernel
theorem own_pn6 : plainName "java/util/ImmutableCollections$List12" = true := by first | (simp [plainName, overriddenIn]; done) | decide +kernel
def own_l1_Q (Z : State) (a : Addr) (x : Addr) (aM : Addr) (h0 : Heap) (n0 : Nat) (v : Option Value) (h : Heap) (L : List Loc) : Prop := v = none ∧ Fr n0 L ∧ Keep h0 h [a] ∧ Exa Z h a "java/util/ImmutableCollections$List12" ∧ Fld Z h a "java/util/ImmutableCollections$List12" "e0" "Ljava/lang/Object;" (.ref x) ∧ Fld Z h a "java/util/ImmutableCollections$List12" "e1" "Ljava/lang/Object;" (.ref aM)
set_option maxRecDepth 65536 in
set_option maxHeartbeats 40000000 in
theorem own_l1 (l : Launch) (Z : State) (a0 : Array Value) (hw : ∀ d ∈ tables_1, d.before a0 Z = true) (ws : List Jvm.Cond) (a : Addr) (x : Addr) (aM : Addr) (h0 : Heap) (n0 : Nat) (Z0 : n0 ≤ h0.size) (F0 : Fld Z h0 a "java/util/ImmutableCollections$List12" "e0" "Ljava/lang/Object;" .null) (F1 : Fld Z h0 a "java/util/ImmutableCollections$List12" "e1" "Ljava/lang/Object;" .null) (Ea : Exa Z h0 a "java/util/ImmutableCollections$List12") (ga : n0 ≤ a) (SE : Sta Z h0 "java/util/ImmutableCollections" "EMPTY" "Ljava/lang/Object;" (.ref aM)) :
    MetFree l (⟨"java/util/ImmutableCollections$List12", "<init>", "(Ljava/lang/Object;)V"⟩ : MethodName) (head1 (Jvm.Cond.code (⟨"java/util/ImmutableCollections$List12", "<init>", "(Ljava/lang/Object;)V"⟩ : MethodName) jdk_44_method_1_code 2 none :: ws) ({ frames := 4, cells := 0, slots := 0, locals := 48 } : Room)) (fun aa U0 => aa = #[(.ref a), (.ref x)] ∧ Z.Warmed39 U0.vm ∧ U0.heap = h0) (fun _ _ _ _ _ => True) (fun _ U0 o0 U1 => ∃ v0 L0, o0 = .returned v0 ∧ own_l1_Q Z a x aM h0 n0 v0 U1.heap L0 ∧ FrameEnd U0 o0 U1 L0 ({ frames := 4, cells := 0, slots := 0, locals := 48 } : Room).cells ({ frames := 4, cells := 0, slots := 0, locals := 48 } : Room).slots) := by
  refine MetFree.of_bodySF (plainFor_of_name own_pn6) hisR ?_
  intro p e s m args below meth c s₁ Bd hml0 hP hK
  obtain ⟨rfl, hZ, hh⟩ := hP
  have hx := Bd.exec
  have hby := Bd.bytes
  have hml : c.maxLocals = 2 := hml0
  have hown : s.vm.findClass "java/util/ImmutableCollections$List12" = some m.cls := findClass_of_methodNamed Bd.named
  have hnm := (name_of_methodNamed Bd.named Bd.method).1
  have X0 : Stand p l e ({ frames := 4, cells := 0, slots := 0, locals := 48 } : Room) s m #[(.ref a), (.ref x)] below meth c s₁ [] 0 0 := Stand.of_body Bd
  have e0 : s₁.heap = h0 := by rw [← hh, Bd.state]; rfl
  have N0 := Fr.nil n0
  show own_Go p e below s (own_l1_Q Z a x aM h0 n0) 0 0 s₁ (entryFrame m #[(.ref a), (.ref x)] 2)
  rw [show entryFrame m #[(.ref a), (.ref x)] 2 = mkF m 0 #[.val (.ref a), .val (.ref x)] [] from by first | (simp [entryFrame, mkF, argsToLocals, Value.category]; done) | rfl]
  have Kp := Keep.refl h0 [a]
  refine own_st (T' := s₁) (g' := (mkF m 1 #[.val (.ref a), .val (.ref x)] [(.ref a)])) (fun _ k => XS.aloadN X0.here hx rfl (hb hby d14_0) rfl rfl k) ?_
  obtain ⟨_, _, ⟨T25, L25, k25, n25⟩, -, X25, ⟨Lc25, hQ25, l25, y25, z25⟩, st25⟩ := X0.specialBack hx (y := (⟨"java/util/ImmutableCollections$AbstractImmutableList", "<init>", "()V"⟩ : MethodName)) rfl hown (mvT hZ (hw _ (List.mem_of_getElem? (i := 88) rfl))) (mvT hZ (hw _ (List.mem_of_getElem? (i := 89) rfl))) (mvT hZ (hw _ (List.mem_of_getElem? (i := 93) rfl))) (by decide) (backOf (W := 0) (own_ail l Z a0 hw [] a h0 n0 Z0 ) hZ (hw _ (List.mem_of_getElem? (i := 93) rfl)) (hw _ (List.mem_of_getElem? (i := 92) rfl)) (by decide) (by decide)) (g := (mkF m 1 #[.val (.ref a), .val (.ref x)] [(.ref a)])) rfl (by rw [hml]; rfl) (Steps.refl _) (a := a) (argsL := []) (rest := []) (lenOf own_pd0 rfl) rfl (by show 2 * 0 + _ ≤ _; exact Nat.le_of_eq rfl) (hb hby d14_1) (fun _ _ => ⟨rfl, e0, (by decide : 0 + 0 ≤ _), (by decide : 0 + 0 ≤ _)⟩)
  dsimp only [Pt.U, Pt.locs, Pt.cells, Pt.slots] at X25 l25 y25 z25 st25 hQ25
  subst l25 y25 z25
  obtain ⟨rfl, N25q, e25⟩ := hQ25
  have N0' := Fr.app N0 N25q
  refine own_tr (T' := T25) (g' := (mkF m 4 #[.val (.ref a), .val (.ref x)] [])) st25 ?_
  refine own_st (T' := T25) (g' := (mkF m 5 #[.val (.ref a), .val (.ref x)] [(.ref a)])) (fun _ k => XS.aloadN X25.here hx rfl (hb hby d14_4) rfl rfl k) ?_
  refine own_st (T' := T25) (g' := (mkF m 6 #[.val (.ref a), .val (.ref x)] [(.ref x), (.ref a)])) (fun _ k => XS.aloadN X25.here hx rfl (hb hby d14_5) rfl rfl k) ?_
  obtain ⟨_, _, ⟨T26, L26, k26, n26⟩, -, X26, ⟨Lc26, hQ26, l26, y26, z26⟩, st26⟩ := Jvm.LawKit.callS X25 hx (y := (⟨"java/util/Objects", "requireNonNull", "(Ljava/lang/Object;)Ljava/lang/Object;"⟩ : MethodName)) hown (mvT hZ (hw _ (List.mem_of_getElem? (i := 102) rfl))) (mvT hZ (hw _ (List.mem_of_getElem? (i := 103) rfl))) (mvT hZ (hw _ (List.mem_of_getElem? (i := 104) rfl))) (mvT hZ (hw _ (List.mem_of_getElem? (i := 105) rfl))) (by decide) (backOf (W := 1) (own_rnn l Z a0 hw [] x h0 n0 Z0 ) hZ (hw _ (List.mem_of_getElem? (i := 105) rfl)) (hw _ (List.mem_of_getElem? (i := 104) rfl)) (by decide) (by decide)) (g := (mkF m 6 #[.val (.ref a), .val (.ref x)] [(.ref x), (.ref a)])) rfl (by rw [hml]; rfl) (argsL := [(.ref x)]) (rest := [(.ref a)]) (lenOf own_pd5 rfl) rfl (by show 2 * 0 + _ ≤ _; exact Nat.le_of_eq rfl) (hb hby d14_6) (fun _ _ => ⟨rfl, e25, (by decide : (0 + 0) + 0 ≤ _), (by decide : (0 + 0) + 0 ≤ _)⟩)
  dsimp only [Pt.U, Pt.locs, Pt.cells, Pt.slots] at X26 l26 y26 z26 st26 hQ26
  subst l26 y26 z26
  obtain ⟨rfl, N26q, e26⟩ := hQ26
  have N0'' := Fr.app N0' N26q
  refine own_st (T' := T26) (g' := (mkF m 9 #[.val (.ref a), .val (.ref x)] [(.ref x), (.ref a)])) st26 ?_
  obtain ⟨T27, h27, X27, e27, W27, st27⟩ := putF X26 hx hZ hown (host := "") (Or.inl (hw _ (List.mem_of_getElem? (i := 106) rfl))) Via.refl e26 F0 Ea (Or.inr ⟨(hw _ (List.mem_of_getElem? (i := 107) rfl)), rfl, hnm⟩) (hw _ (List.mem_of_getElem? (i := 82) rfl)) (ty := (.object "java/lang/Object")) (by decide) rfl rfl (g := (mkF m 9 #[.val (.ref a), .val (.ref x)] [(.ref x), (.ref a)])) rfl rfl (hb hby d14_9)
  have F1 := F1.other W27 (Or.inr (slot_ne (Or.inr (hw _ (List.mem_of_getElem? (i := 111) rfl))) (Or.inr (hw _ (List.mem_of_getElem? (i := 107) rfl))) (by decide) (t := (.object "java/lang/Object")) (t' := (.object "java/lang/Object")) (by decide) (by decide)))
  have Ea := Ea.wr W27
  have SE := SE.wr W27
  have Z0' := Nat.le_trans Z0 (Keep.of_wr W27).1
  have Kp := Kp.wr W27 (Or.inl (List.mem_of_getElem? (i := 0) rfl))
  have N0''' := Fr.snoc X27 N0'' ga
  have F0 := F0.same W27
  refine own_st (T' := T27) (g' := (mkF m 12 #[.val (.ref a), .val (.ref x)] [])) st27 ?_
  refine own_st (T' := T27) (g' := (mkF m 13 #[.val (.ref a), .val (.ref x)] [(.ref a)])) (fun _ k => XS.aloadN X27.here hx rfl (hb hby d14_12) rfl rfl k) ?_
  obtain ⟨T28, X28, e28, st28⟩ := getS2 X27 hx hZ hown (Or.inr (hw _ (List.mem_of_getElem? (i := 108) rfl))) Via.refl e27 SE (g := (mkF m 13 #[.val (.ref a), .val (.ref x)] [(.ref a)])) rfl (hb hby d14_13)
  refine own_st (T' := T28) (g' := (mkF m 16 #[.val (.ref a), .val (.ref x)] [(.ref aM), (.ref a)])) st28 ?_
  obtain ⟨T29, h29, X29, e29, W29, st29⟩ := putF X28 hx hZ hown (host := "") (Or.inl (hw _ (List.mem_of_getElem? (i := 110) rfl))) Via.refl e28 F1 Ea (Or.inr ⟨(hw _ (List.mem_of_getElem? (i := 111) rfl)), rfl, hnm⟩) (hw _ (List.mem_of_getElem? (i := 82) rfl)) (ty := (.object "java/lang/Object")) (by decide) rfl rfl (g := (mkF m 16 #[.val (.ref a), .val (.ref x)] [(.ref aM), (.ref a)])) rfl rfl (hb hby d14_16)
  have F0 := F0.other W29 (Or.inr (slot_ne (Or.inr (hw _ (List.mem_of_getElem? (i := 107) rfl))) (Or.inr (hw _ (List.mem_of_getElem? (i := 111) rfl))) (by decide) (t := (.object "java/lang/Object")) (t' := (.object "java/lang/Object")) (by decide) (by decide)))
  have Ea := Ea.wr W29
  have SE := SE.wr W29
  have Z0'' := Nat.le_trans Z0' (Keep.of_wr W29).1
  have Kp := Kp.wr W29 (Or.inl (List.mem_of_getElem? (i := 0) rfl))
  have N0'''' := Fr.snoc X29 N0''' ga
  have F1 := F1.same W29
  refine own_st (T' := T29) (g' := (mkF m 19 #[.val (.ref a), .val (.ref x)] [])) st29 ?_
  exact own_ret0 X29 hx Bd.returns Bd.notSynchronized e29 (hb hby d14_19) ⟨rfl, N0'''', Kp, Ea, F0, F1⟩ (by decide) (by decide)
theorem d23_0 : decode jdk_44_method_2_code 0 = .ok (.aload_n 0, 1) := by decide +kernel
theorem d23_1 : decode jdk_44_method_2_code 1 = .ok (.invokespecial 1, 3) := by decide +kernel
theorem d23_4 : decode jdk_44_method_2_code 4 = .ok (.aload_n 0, 1) := by decide +kernel
theorem d23_5 : decode jdk_44_method_2_code 5 = .ok (.aload_n 1, 1) := by decide +kernel
theorem d23_6 : decode jdk_44_method_2_code 6 = .ok (.invokestatic 7, 3) := by decide +kernel
theorem d23_9 : decode jdk_44_method_2_code 9 = .ok (.putfield 13, 3) := by decide +kernel
theorem d23_12 : decode jdk_44_method_2_code 12 = .ok (.aload_n 0, 1) := by decide +kernel
theorem d23_13 : decode jdk_44_method_2_code 13 = .ok (.aload_n 2, 1) := by decide +kernel
theorem d23_14 : decode jdk_44_method_2_code 14 = .ok (.invokestatic 7, 3) := by decide +kernel
theorem d23_17 : decode jdk_44_method_2_code 17 = .ok (.putfield 24, 3) := by decide +kernel
theorem d23_20 : decode jdk_44_method_2_code 20 = .ok (.return_, 1) := by decide +kernel
def own_l2_Q (Z : State) (a : Addr) (x : Addr) (y : Addr) (h0 : Heap) (n0 : Nat) (v : Option Value) (h : Heap) (L : List Loc) : Prop := v = none ∧ Fr n0 L ∧ Keep h0 h [a] ∧ Exa Z h a "java/util/ImmutableCollections$List12" ∧ Fld Z h a "java/util/ImmutableCollections$List12" "e0" "Ljava/lang/Object;" (.ref x) ∧ Fld Z h a "java/util/ImmutableCollections$List12" "e1" "Ljava/lang/Object;" (.ref y)
set_option maxRecDepth 65536 in
set_option maxHeartbeats 40000000 in
theorem own_l2 (l : Launch) (Z : State) (a0 : Array Value) (hw : ∀ d ∈ tables_1, d.before a0 Z = true) (ws : List Jvm.Cond) (a : Addr) (x : Addr) (y : Addr) (h0 : Heap) (n0 : Nat) (Z0 : n0 ≤ h0.size) (F0 : Fld Z h0 a "java/util/ImmutableCollections$List12" "e0" "Ljava/lang/Object;" .null) (F1 : Fld Z h0 a "java/util/ImmutableCollections$List12" "e1" "Ljava/lang/Object;" .null) (Ea : Exa Z h0 a "java/util/ImmutableCollections$List12") (ga : n0 ≤ a) :
    MetFree l (⟨"java/util/ImmutableCollections$List12", "<init>", "(Ljava/lang/Object;Ljava/lang/Object;)V"⟩ : MethodName) (head1 (Jvm.Cond.code (⟨"java/util/ImmutableCollections$List12", "<init>", "(Ljava/lang/Object;Ljava/lang/Object;)V"⟩ : MethodName) jdk_44_method_2_code 3 none :: ws) ({ frames := 4, cells := 0, slots := 0, locals := 48 } : Room)) (fun aa U0 => aa = #[(.ref a), (.ref x), (.ref y)] ∧ Z.Warmed39 U0.vm ∧ U0.heap = h0) (fun _ _ _ _ _ => True) (fun _ U0 o0 U1 => ∃ v0 L0, o0 = .returned v0 ∧ own_l2_Q Z a x y h0 n0 v0 U1.heap L0 ∧ FrameEnd U0 o0 U1 L0 ({ frames := 4, cells := 0, slots := 0, locals := 48 } : Room).cells ({ frames := 4, cells := 0, slots := 0, locals := 48 } : Room).slots) := by
  refine MetFree.of_bodySF (plainFor_of_name own_pn6) hisR ?_
  intro p e s m args below meth c s₁ Bd hml0 hP hK
  obtain ⟨rfl, hZ, hh⟩ := hP
  have hx := Bd.exec
  have hby := Bd.bytes
  have hml : c.maxLocals = 3 := hml0
  have hown : s.vm.findClass "java/util/ImmutableCollections$List12" = some m.cls := findClass_of_methodNamed Bd.named
  have hnm := (name_of_methodNamed Bd.named Bd.method).1
  have X0 : Stand p l e ({ frames := 4, cells := 0, slots := 0, locals := 48 } : Room) s m #[(.ref a), (.ref x), (.ref y)] below meth c s₁ [] 0 0 := Stand.of_body Bd
  have e0 : s₁.heap = h0 := by rw [← hh, Bd.state]; rfl
  have N0 := Fr.nil n0
  show own_Go p e below s (own_l2_Q Z a x y h0 n0) 0 0 s₁ (entryFrame m #[(.ref a), (.ref x), (.ref y)] 3)
  rw [show entryFrame m #[(.ref a), (.ref x), (.ref y)] 3 = mkF m 0 #[.val (.ref a), .val (.ref x), .val (.ref y)] [] from by first | (simp [entryFrame, mkF, argsToLocals, Value.category]; done) | rfl]
  have Kp := Keep.refl h0 [a]
  refine own_st (T' := s₁) (g' := (mkF m 1 #[.val (.ref a), .val (.ref x), .val (.ref y)] [(.ref a)])) (fun _ k => XS.aloadN X0.here hx rfl (hb hby d23_0) rfl rfl k) ?_
  obtain ⟨_, _, ⟨T30, L30, k30, n30⟩, -, X30, ⟨Lc30, hQ30, l30, y30, z30⟩, st30⟩ := X0.specialBack hx (y := (⟨"java/util/ImmutableCollections$AbstractImmutableList", "<init>", "()V"⟩ : MethodName)) rfl hown (mvT hZ (hw _ (List.mem_of_getElem? (i := 88) rfl))) (mvT hZ (hw _ (List.mem_of_getElem? (i := 89) rfl))) (mvT hZ (hw _ (List.mem_of_getElem? (i := 93) rfl))) (by decide) (backOf (W := 0) (own_ail l Z a0 hw [] a h0 n0 Z0 ) hZ (hw _ (List.mem_of_getElem? (i := 93) rfl)) (hw _ (List.mem_of_getElem? (i := 92) rfl)) (by decide) (by decide)) (g := (mkF m 1 #[.val (.ref a), .val (.ref x), .val (.ref y)] [(.ref a)])) rfl (by rw [hml]; rfl) (Steps.refl _) (a := a) (argsL := []) (rest := []) (lenOf own_pd0 rfl) rfl (by show 2 * 0 + _ ≤ _; exact Nat.le_of_eq rfl) (hb hby d23_1) (fun _ _ => ⟨rfl, e0, (by decide : 0 + 0 ≤ _), (by decide : 0 + 0 ≤ _)⟩)
  dsimp only [Pt.U, Pt.locs, Pt.cells, Pt.slots] at X30 l30 y30 z30 st30 hQ30
  subst l30 y30 z30
  obtain ⟨rfl, N30q, e30⟩ := hQ30
  have N0' := Fr.app N0 N30q
  refine own_tr (T' := T30) (g' := (mkF m 4 #[.val (.ref a), .val (.ref x), .val (.ref y)] [])) st30 ?_
  refine own_st (T' := T30) (g' := (mkF m 5 #[.val (.ref a), .val (.ref x), .val (.ref y)] [(.ref a)])) (fun _ k => XS.aloadN X30.here hx rfl (hb hby d23_4) rfl rfl k) ?_
  refine own_st (T' := T30) (g' := (mkF m 6 #[.val (.ref a), .val (.ref x), .val (.ref y)] [(.ref x), (.ref a)])) (fun _ k => XS.aloadN X30.here hx rfl (hb hby d23_5) rfl rfl k) ?_
  obtain ⟨_, _, ⟨T31, L31, k31, n31⟩, -, X31, ⟨Lc31, hQ31, l31, y31, z31⟩, st31⟩ := Jvm.LawKit.callS X30 hx (y := (⟨"java/util/Objects", "requireNonNull", "(Ljava/lang/Object;)Ljava/lang/Object;"⟩ : MethodName)) hown (mvT hZ (hw _ (List.mem_of_getElem? (i := 102) rfl))) (mvT hZ (hw _ (List.mem_of_getElem? (i := 103) rfl))) (mvT hZ (hw _ (List.mem_of_getElem? (i := 104) rfl))) (mvT hZ (hw _ (List.mem_of_getElem? (i := 105) rfl))) (by decide) (backOf (W := 1) (own_rnn l Z a0 hw [] x h0 n0 Z0 ) hZ (hw _ (List.mem_of_getElem? (i := 105) rfl)) (hw _ (List.mem_of_getElem? (i := 104) rfl)) (by decide) (by decide)) (g := (mkF m 6 #[.val (.ref a), .val (.ref x), .val (.ref y)] [(.ref x), (.ref a)])) rfl (by rw [hml]; rfl) (argsL := [(.ref x)]) (rest := [(.ref a)]) (lenOf own_pd5 rfl) rfl (by show 2 * 0 + _ ≤ _; exact Nat.le_of_eq rfl) (hb hby d23_6) (fun _ _ => ⟨rfl, e30, (by decide : (0 + 0) + 0 ≤ _), (by decide : (0 + 0) + 0 ≤ _)⟩)
  dsimp only [Pt.U, Pt.locs, Pt.cells, Pt.slots] at X31 l31 y31 z31 st31 hQ31
  subst l31 y31 z31
  obtain ⟨rfl, N31q, e31⟩ := hQ31
  have N0'' := Fr.app N0' N31q
  refine own_st (T' := T31) (g' := (mkF m 9 #[.val (.ref a), .val (.ref x), .val (.ref y)] [(.ref x), (.ref a)])) st31 ?_
  obtain ⟨T32, h32, X32, e32, W32, st32⟩ := putF X31 hx hZ hown (host := "") (Or.inl (hw _ (List.mem_of_getElem? (i := 106) rfl))) Via.refl e31 F0 Ea (Or.inr ⟨(hw _ (List.mem_of_getElem? (i := 107) rfl)), rfl, hnm⟩) (hw _ (List.mem_of_getElem? (i := 82) rfl)) (ty := (.object "java/lang/Object")) (by decide) rfl rfl (g := (mkF m 9 #[.val (.ref a), .val (.ref x), .val (.ref y)] [(.ref x), (.ref a)])) rfl rfl (hb hby d23_9)
  have F1 := F1.other W32 (Or.inr (slot_ne (Or.inr (hw _ (List.mem_of_getElem? (i := 111) rfl))) (Or.inr (hw _ (List.mem_of_getElem? (i := 107) rfl))) (by decide) (t := (.object "java/lang/Object")) (t' := (.object "java/lang/Object")) (by decide) (by decide)))
  have Ea := Ea.wr W32
  have Z0' := Nat.le_trans Z0 (Keep.of_wr W32).1
  have Kp := Kp.wr W32 (Or.inl (List.mem_of_getElem? (i := 0) rfl))
  have N0''' := Fr.snoc X32 N0'' ga
  have F0 := F0.same W32
  refine own_st (T' := T32) (g' := (mkF m 12 #[.val (.ref a), .val (.ref x), .val (.ref y)] [])) st32 ?_
  refine own_st (T' := T32) (g' := (mkF m 13 #[.val (.ref a), .val (.ref x), .val (.ref y)] [(.ref a)])) (fun _ k => XS.aloadN X32.here hx rfl (hb hby d23_12) rfl rfl k) ?_
  refine own_st (T' := T32) (g' := (mkF m 14 #[.val (.ref a), .val (.ref x), .val (.ref y)] [(.ref y), (.ref a)])) (fun _ k => XS.aloadN X32.here hx rfl (hb hby d23_13) rfl rfl k) ?_
  obtain ⟨_, _, ⟨T33, L33, k33, n33⟩, -, X33, ⟨Lc33, hQ33, l33, y33, z33⟩, st33⟩ := Jvm.LawKit.callS X32 hx (y := (⟨"java/util/Objects", "requireNonNull", "(Ljava/lang/Object;)Ljava/lang/Object;"⟩ : MethodName)) hown (mvT hZ (hw _ (List.mem_of_getElem? (i := 102) rfl))) (mvT hZ (hw _ (List.mem_of_getElem? (i := 103) rfl))) (mvT hZ (hw _ (List.mem_of_getElem? (i := 104) rfl))) (mvT hZ (hw _ (List.mem_of_getElem? (i := 105) rfl))) (by decide) (backOf (W := 1) (own_rnn l Z a0 hw [] y h32 n0 Z0' ) hZ (hw _ (List.mem_of_getElem? (i := 105) rfl)) (hw _ (List.mem_of_getElem? (i := 104) rfl)) (by decide) (by decide)) (g := (mkF m 14 #[.val (.ref a), .val (.ref x), .val (.ref y)] [(.ref y), (.ref a)])) rfl (by rw [hml]; rfl) (argsL := [(.ref y)]) (rest := [(.ref a)]) (lenOf own_pd5 rfl) rfl (by show 2 * 0 + _ ≤ _; exact Nat.le_of_eq rfl) (hb hby d23_14) (fun _ _ => ⟨rfl, e32, (by decide : ((0 + 0) + 0) + 0 ≤ _), (by decide : ((0 + 0) + 0) + 0 ≤ _)⟩)
  dsimp only [Pt.U, Pt.locs, Pt.cells, Pt.slots] at X33 l33 y33 z33 st33 hQ33
  subst l33 y33 z33
  obtain ⟨rfl, N33q, e33⟩ := hQ33
  have N0'''' := Fr.app N0''' N33q
  refine own_st (T' := T33) (g' := (mkF m 17 #[.val (.ref a), .val (.ref x), .val (.ref y)] [(.ref y), (.ref a)])) st33 ?_
  obtain ⟨T34, h34, X34, e34, W34, st34⟩ := putF X33 hx hZ hown (host := "") (Or.inl (hw _ (List.mem_of_getElem? (i := 110) rfl))) Via.refl e33 F1 Ea (Or.inr ⟨(hw _ (List.mem_of_getElem? (i := 111) rfl)), rfl, hnm⟩) (hw _ (List.mem_of_getElem? (i := 82) rfl)) (ty := (.object "java/lang/Object")) (by decide) rfl rfl (g := (mkF m 17 #[.val (.ref a), .val (.ref x), .val (.ref y)] [(.ref y), (.ref a)])) rfl rfl (hb hby d23_17)
  have F0 := F0.other W34 (Or.inr (slot_ne (Or.inr (hw _ (List.mem_of_getElem? (i := 107) rfl))) (Or.inr (hw _ (List.mem_of_getElem? (i := 111) rfl))) (by decide) (t := (.object "java/lang/Object")) (t' := (.object "java/lang/Object")) (by decide) (by decide)))
  have Ea := Ea.wr W34
  have Z0'' := Nat.le_trans Z0' (Keep.of_wr W34).1
  have Kp := Kp.wr W34 (Or.inl (List.mem_of_getElem? (i := 0) rfl))
  have N0''''' := Fr.snoc X34 N0'''' ga
  have F1 := F1.same W34
  refine own_st (T' := T34) (g' := (mkF m 20 #[.val (.ref a), .val (.ref x), .val (.ref y)] [])) st34 ?_
  exact own_ret0 X34 hx Bd.returns Bd.notSynchronized e34 (hb hby d23_20) ⟨rfl, N0''''', Kp, Ea, F0, F1⟩ (by decide) (by decide)
theorem own_pd6 : parseMethodDescriptor "(Ljava/lang/Object;)V" = some ⟨[(.object "java/lang/Object")], none⟩ := by decide +kernel
theorem d13_0 : decode jdk_40_method_47_code 0 = .ok (.aload_n 0, 1) := by decide +kernel
theorem d13_1 : decode jdk_40_method_47_code 1 = .ok (.arraylength, 1) := by decide +kernel
theorem d13_2 : decode jdk_40_method_47_code 2 = .ok (.tableswitch 57 0 2 #[26, 32, 43], 26) := by decide +kernel
theorem d13_34 : decode jdk_40_method_47_code 34 = .ok (.new 96, 3) := by decide +kernel
theorem d13_37 : decode jdk_40_method_47_code 37 = .ok (.dup, 1) := by decide +kernel
theorem d13_38 : decode jdk_40_method_47_code 38 = .ok (.aload_n 0, 1) := by decide +kernel
theorem d13_39 : decode jdk_40_method_47_code 39 = .ok (.iconst 0, 1) := by decide +kernel
theorem d13_40 : decode jdk_40_method_47_code 40 = .ok (.aaload, 1) := by decide +kernel
theorem d13_41 : decode jdk_40_method_47_code 41 = .ok (.invokespecial 98, 3) := by decide +kernel
theorem d13_44 : decode jdk_40_method_47_code 44 = .ok (.areturn, 1) := by decide +kernel
theorem own_pn7 : plainName "java/util/List" = true := by first | (simp [plainName, overriddenIn]; done) | decide +kernel
def own_of1_Q (Z : State) (ar : Addr) (k : ClassId) (f : Nat → Value) (x : Addr) (aM : Addr) (h0 : Heap) (n0 : Nat) (v : Option Value) (h : Heap) (L : List Loc) : Prop := ∃ u, v = some (.ref u) ∧ Fr n0 L ∧ Keep h0 h [] ∧ h0.size ≤ u ∧ Exa Z h u "java/util/ImmutableCollections$List12" ∧ Fld Z h u "java/util/ImmutableCollections$List12" "e0" "Ljava/lang/Object;" (.ref x) ∧ Fld Z h u "java/util/ImmutableCollections$List12" "e1" "Ljava/lang/Object;" (.ref aM)
set_option maxRecDepth 65536 in
set_option maxHeartbeats 40000000 in
theorem own_of1 (l : Launch) (Z : State) (a0 : Array Value) (hw : ∀ d ∈ tables_1, d.before a0 Z = true) (ws : List Jvm.Cond) (ar : Addr) (k : ClassId) (f : Nat → Value) (x : Addr) (aM : Addr) (h0 : Heap) (n0 : Nat) (Z0 : n0 ≤ h0.size) (Va : own_Av Z h0 ar k (.array .byte) 1 f) (hf0 : f 0 = .ref x) (SE : Sta Z h0 "java/util/ImmutableCollections" "EMPTY" "Ljava/lang/Object;" (.ref aM)) :
    MetFree l (⟨"java/util/List", "of", "([Ljava/lang/Object;)Ljava/util/List;"⟩ : MethodName) (head1 (Jvm.Cond.code (⟨"java/util/List", "of", "([Ljava/lang/Object;)Ljava/util/List;"⟩ : MethodName) jdk_40_method_47_code 2 (some (.object "java/util/List")) :: ws) ({ frames := 5, cells := 1, slots := 2, locals := 62 } : Room)) (fun aa U0 => aa = #[(.ref ar)] ∧ Z.Warmed39 U0.vm ∧ U0.heap = h0) (fun _ _ _ _ _ => True) (fun _ U0 o0 U1 => ∃ v0 L0, o0 = .returned v0 ∧ own_of1_Q Z ar k f x aM h0 n0 v0 U1.heap L0 ∧ FrameEnd U0 o0 U1 L0 ({ frames := 5, cells := 1, slots := 2, locals := 62 } : Room).cells ({ frames := 5, cells := 1, slots := 2, locals := 62 } : Room).slots) := by
  refine MetFree.of_bodySF (plainFor_of_name own_pn7) hisR ?_
  intro p e s m args below meth c s₁ Bd hml0 hP hK
  obtain ⟨rfl, hZ, hh⟩ := hP
  have hx := Bd.exec
  have hby := Bd.bytes
  have hml : c.maxLocals = 2 := hml0
  have hown : s.vm.findClass "java/util/List" = some m.cls := findClass_of_methodNamed Bd.named
  have hnm := (name_of_methodNamed Bd.named Bd.method).1
  have X0 : Stand p l e ({ frames := 5, cells := 1, slots := 2, locals := 62 } : Room) s m #[(.ref ar)] below meth c s₁ [] 0 0 := Stand.of_body Bd
  have e0 : s₁.heap = h0 := by rw [← hh, Bd.state]; rfl
  have N0 := Fr.nil n0
  show own_Go p e below s (own_of1_Q Z ar k f x aM h0 n0) 1 2 s₁ (entryFrame m #[(.ref ar)] 2)
  rw [show entryFrame m #[(.ref ar)] 2 = mkF m 0 #[.val (.ref ar), .unset] [] from by first | (simp [entryFrame, mkF, argsToLocals, Value.category]; done) | rfl]
  have Kp := Keep.refl h0 []
  refine own_st (T' := s₁) (g' := (mkF m 1 #[.val (.ref ar), .unset] [(.ref ar)])) (fun _ k => XS.aloadN X0.here hx rfl (hb hby d13_0) rfl rfl k) ?_
  refine own_st (T' := s₁) (g' := (mkF m 2 #[.val (.ref ar), .unset] [(.int (1 : Int32))])) (own_len X0 hx hZ e0 Va (z := (1 : Int32)) rfl (g := (mkF m 1 #[.val (.ref ar), .unset] [(.ref ar)])) rfl rfl (hb hby d13_1)) ?_
  refine own_st (T' := s₁) (g' := (mkF m 34 #[.val (.ref ar), .unset] [])) (fun _ k => XS.tswIn X0.here hx rfl (pc0 := 2) (pc' := 34) (o := 32) rfl (hb hby d13_2) rfl (by decide) (by decide) (by decide) (by decide) k) ?_
  obtain ⟨T35, h35, X35, e35, E35, A35, D35, -, st35⟩ := newO X0 hx hZ hown (hw _ (List.mem_of_getElem? (i := 81) rfl)) (hw _ (List.mem_of_getElem? (i := 82) rfl)) (hw _ (List.mem_of_getElem? (i := 83) rfl)) e0 (g := (mkF m 34 #[.val (.ref ar), .unset] [])) rfl (hb hby d13_34) (by decide) (by decide)
  obtain ⟨u, gu⟩ : ∃ z, z = h0.size := ⟨_, rfl⟩
  rw [← gu] at A35 D35 st35
  have ne_ar_u : ar ≠ u := own_ne Va.lt gu
  have ge_u : n0 ≤ u := own_ge Z0 gu
  have sz_u : h0.size ≤ u := own_ge Kp.1 gu
  have Va := Va.ext E35
  have SE := SE.ext E35
  have Z0' := Nat.le_trans Z0 E35.1
  have Kp := Kp.ext E35
  have E_u := A35
  have F_e0_u : Fld Z h35 u "java/util/ImmutableCollections$List12" "e0" "Ljava/lang/Object;" .null := D35 (Or.inr (hw _ (List.mem_of_getElem? (i := 107) rfl))) (ty := (.object "java/lang/Object")) (by decide)
  have F_e1_u : Fld Z h35 u "java/util/ImmutableCollections$List12" "e1" "Ljava/lang/Object;" .null := D35 (Or.inr (hw _ (List.mem_of_getElem? (i := 111) rfl))) (ty := (.object "java/lang/Object")) (by decide)
  refine own_st (T' := T35) (g' := (mkF m 37 #[.val (.ref ar), .unset] [(.ref u)])) st35 ?_
  refine own_st (T' := T35) (g' := (mkF m 38 #[.val (.ref ar), .unset] [(.ref u), (.ref u)])) (fun _ k => XS.dup X35.here hx rfl (hb hby d13_37) rfl rfl k) ?_
  refine own_st (T' := T35) (g' := (mkF m 39 #[.val (.ref ar), .unset] [(.ref ar), (.ref u), (.ref u)])) (fun _ k => XS.aloadN X35.here hx rfl (hb hby d13_38) rfl rfl k) ?_
  refine own_st (T' := T35) (g' := (mkF m 40 #[.val (.ref ar), .unset] [(.int (0 : Int32)), (.ref ar), (.ref u), (.ref u)])) (fun _ k => XS.iconst X35.here hx rfl (hb hby d13_39) k) ?_
  refine own_st (T' := T35) (g' := (mkF m 41 #[.val (.ref ar), .unset] [(.ref x), (.ref u), (.ref u)])) (own_ldR X35 hx hZ e35 Va rfl (i := 0) (by decide) (by decide) (v := (.ref x)) hf0 (g := (mkF m 40 #[.val (.ref ar), .unset] [(.int (0 : Int32)), (.ref ar), (.ref u), (.ref u)])) rfl rfl (hb hby d13_40)) ?_
  obtain ⟨_, _, ⟨T36, L36, k36, n36⟩, -, X36, ⟨Lc36, hQ36, l36, y36, z36⟩, st36⟩ := X35.specialBack hx (y := (⟨"java/util/ImmutableCollections$List12", "<init>", "(Ljava/lang/Object;)V"⟩ : MethodName)) rfl hown (mvT hZ (hw _ (List.mem_of_getElem? (i := 84) rfl))) (mvT hZ (hw _ (List.mem_of_getElem? (i := 85) rfl))) (mvT hZ (hw _ (List.mem_of_getElem? (i := 87) rfl))) (by decide) (backOf (W := 1) (own_l1 l Z a0 hw [] u x aM h35 n0 Z0' F_e0_u F_e1_u E_u ge_u SE) hZ (hw _ (List.mem_of_getElem? (i := 87) rfl)) (hw _ (List.mem_of_getElem? (i := 83) rfl)) (by decide) (by decide)) (g := (mkF m 41 #[.val (.ref ar), .unset] [(.ref x), (.ref u), (.ref u)])) rfl (by rw [hml]; rfl) (Steps.refl _) (a := u) (argsL := [(.ref x)]) (rest := [(.ref u)]) (lenOf own_pd6 rfl) rfl (by show 2 * 0 + _ ≤ _; exact Nat.le_of_eq rfl) (hb hby d13_41) (fun _ _ => ⟨rfl, e35, (by decide : (0 + 1) + 0 ≤ _), (by decide : (0 + 2) + 0 ≤ _)⟩)
  dsimp only [Pt.U, Pt.locs, Pt.cells, Pt.slots] at X36 l36 y36 z36 st36 hQ36
  subst l36 y36 z36
  obtain ⟨rfl, N36q, K36, -, F0, F1⟩ := hQ36
  have N0' := Fr.app N0 N36q
  have Va := Va.keep K36 (ninS ne_ar_u nin0)
  have E_u := E_u.keep K36
  have Z0'' := Nat.le_trans Z0' K36.1
  have Kp := Kp.trans K36 (allS (P := fun x => x ∈ [] ∨ h0.size ≤ x) (Or.inr sz_u) all0)
  refine own_tr (T' := T36) (g' := (mkF m 44 #[.val (.ref ar), .unset] [(.ref u)])) st36 ?_
  exact own_retR X36 hx Bd.returns Bd.notSynchronized rfl rfl rfl (hb hby d13_44) ⟨u, rfl, N0', Kp, sz_u, E_u, F0, F1⟩ (by decide) (by decide)
theorem own_pd7 : parseMethodDescriptor "(Ljava/lang/Object;Ljava/lang/Object;)V" = some ⟨[(.object "java/lang/Object"), (.object "java/lang/Object")], none⟩ := by decide +kernel
theorem d13_45 : decode jdk_40_method_47_code 45 = .ok (.new 96, 3) := by decide +kernel
theorem d13_48 : decode jdk_40_method_47_code 48 = .ok (.dup, 1) := by decide +kernel
theorem d13_49 : decode jdk_40_method_47_code 49 = .ok (.aload_n 0, 1) := by decide +kernel
theorem d13_50 : decode jdk_40_method_47_code 50 = .ok (.iconst 0, 1) := by decide +kernel
theorem d13_51 : decode jdk_40_method_47_code 51 = .ok (.aaload, 1) := by decide +kernel
theorem d13_52 : decode jdk_40_method_47_code 52 = .ok (.aload_n 0, 1) := by decide +kernel
theorem d13_53 : decode jdk_40_method_47_code 53 = .ok (.iconst 1, 1) := by decide +kernel
theorem d13_54 : decode jdk_40_method_47_code 54 = .ok (.aaload, 1) := by decide +kernel
theorem d13_55 : decode jdk_40_method_47_code 55 = .ok (.invokespecial 100, 3) := by decide +kernel
theorem d13_58 : decode jdk_40_method_47_code 58 = .ok (.areturn, 1) := by decide +kernel
def own_of2_Q (Z : State) (ar : Addr) (k : ClassId) (f : Nat → Value) (x : Addr) (y : Addr) (h0 : Heap) (n0 : Nat) (v : Option Value) (h : Heap) (L : List Loc) : Prop := ∃ u, v = some (.ref u) ∧ Fr n0 L ∧ Keep h0 h [] ∧ h0.size ≤ u ∧ Exa Z h u "java/util/ImmutableCollections$List12" ∧ Fld Z h u "java/util/ImmutableCollections$List12" "e0" "Ljava/lang/Object;" (.ref x) ∧ Fld Z h u "java/util/ImmutableCollections$List12" "e1" "Ljava/lang/Object;" (.ref y)
set_option maxRecDepth 65536 in
set_option maxHeartbeats 40000000 in
theorem own_of2 (l : Launch) (Z : State) (a0 : Array Value) (hw : ∀ d ∈ tables_1, d.before a0 Z = true) (ws : List Jvm.Cond) (ar : Addr) (k : ClassId) (f : Nat → Value) (x : Addr) (y : Addr) (h0 : Heap) (n0 : Nat) (Z0 : n0 ≤ h0.size) (Va : own_Av Z h0 ar k (.array .byte) 2 f) (hf0 : f 0 = .ref x) (hf1 : f 1 = .ref y) :
    MetFree l (⟨"java/util/List", "of", "([Ljava/lang/Object;)Ljava/util/List;"⟩ : MethodName) (head1 (Jvm.Cond.code (⟨"java/util/List", "of", "([Ljava/lang/Object;)Ljava/util/List;"⟩ : MethodName) jdk_40_method_47_code 2 (some (.object "java/util/List")) :: ws) ({ frames := 5, cells := 1, slots := 2, locals := 63 } : Room)) (fun aa U0 => aa = #[(.ref ar)] ∧ Z.Warmed39 U0.vm ∧ U0.heap = h0) (fun _ _ _ _ _ => True) (fun _ U0 o0 U1 => ∃ v0 L0, o0 = .returned v0 ∧ own_of2_Q Z ar k f x y h0 n0 v0 U1.heap L0 ∧ FrameEnd U0 o0 U1 L0 ({ frames := 5, cells := 1, slots := 2, locals := 63 } : Room).cells ({ frames := 5, cells := 1, slots := 2, locals := 63 } : Room).slots) := by
  refine MetFree.of_bodySF (plainFor_of_name own_pn7) hisR ?_
  intro p e s m args below meth c s₁ Bd hml0 hP hK
  obtain ⟨rfl, hZ, hh⟩ := hP
  have hx := Bd.exec
  have hby := Bd.bytes
  have hml : c.maxLocals = 2 := hml0
  have hown : s.vm.findClass "java/util/List" = some m.cls := findClass_of_methodNamed Bd.named
  have hnm := (name_of_methodNamed Bd.named Bd.method).1
  have X0 : Stand p l e ({ frames := 5, cells := 1, slots := 2, locals := 63 } : Room) s m #[(.ref ar)] below meth c s₁ [] 0 0 := Stand.of_body Bd
  have e0 : s₁.heap = h0 := by rw [← hh, Bd.state]; rfl
  have N0 := Fr.nil n0
  show own_Go p e below s (own_of2_Q Z ar k f x y h0 n0) 1 2 s₁ (entryFrame m #[(.ref ar)] 2)
  rw [show entryFrame m #[(.ref ar)] 2 = mkF m 0 #[.val (.ref ar), .unset] [] from by first | (simp [entryFrame, mkF, argsToLocals, Value.category]; done) | rfl]
  have Kp := Keep.refl h0 []
  refine own_st (T' := s₁) (g' := (mkF m 1 #[.val (.ref ar), .unset] [(.ref ar)])) (fun _ k => XS.aloadN X0.here hx rfl (hb hby d13_0) rfl rfl k) ?_
  refine own_st (T' := s₁) (g' := (mkF m 2 #[.val (.ref ar), .unset] [(.int (2 : Int32))])) (own_len X0 hx hZ e0 Va (z := (2 : Int32)) rfl (g := (mkF m 1 #[.val (.ref ar), .unset] [(.ref ar)])) rfl rfl (hb hby d13_1)) ?_
  refine own_st (T' := s₁) (g' := (mkF m 45 #[.val (.ref ar), .unset] [])) (fun _ k => XS.tswIn X0.here hx rfl (pc0 := 2) (pc' := 45) (o := 43) rfl (hb hby d13_2) rfl (by decide) (by decide) (by decide) (by decide) k) ?_
  obtain ⟨T37, h37, X37, e37, E37, A37, D37, -, st37⟩ := newO X0 hx hZ hown (hw _ (List.mem_of_getElem? (i := 81) rfl)) (hw _ (List.mem_of_getElem? (i := 82) rfl)) (hw _ (List.mem_of_getElem? (i := 83) rfl)) e0 (g := (mkF m 45 #[.val (.ref ar), .unset] [])) rfl (hb hby d13_45) (by decide) (by decide)
  obtain ⟨u, gu⟩ : ∃ z, z = h0.size := ⟨_, rfl⟩
  rw [← gu] at A37 D37 st37
  have ne_ar_u : ar ≠ u := own_ne Va.lt gu
  have ge_u : n0 ≤ u := own_ge Z0 gu
  have sz_u : h0.size ≤ u := own_ge Kp.1 gu
  have Va := Va.ext E37
  have Z0' := Nat.le_trans Z0 E37.1
  have Kp := Kp.ext E37
  have E_u := A37
  have F_e0_u : Fld Z h37 u "java/util/ImmutableCollections$List12" "e0" "Ljava/lang/Object;" .null := D37 (Or.inr (hw _ (List.mem_of_getElem? (i := 107) rfl))) (ty := (.object "java/lang/Object")) (by decide)
  have F_e1_u : Fld Z h37 u "java/util/ImmutableCollections$List12" "e1" "Ljava/lang/Object;" .null := D37 (Or.inr (hw _ (List.mem_of_getElem? (i := 111) rfl))) (ty := (.object "java/lang/Object")) (by decide)
  refine own_st (T' := T37) (g' := (mkF m 48 #[.val (.ref ar), .unset] [(.ref u)])) st37 ?_
  refine own_st (T' := T37) (g' := (mkF m 49 #[.val (.ref ar), .unset] [(.ref u), (.ref u)])) (fun _ k => XS.dup X37.here hx rfl (hb hby d13_48) rfl rfl k) ?_
  refine own_st (T' := T37) (g' := (mkF m 50 #[.val (.ref ar), .unset] [(.ref ar), (.ref u), (.ref u)])) (fun _ k => XS.aloadN X37.here hx rfl (hb hby d13_49) rfl rfl k) ?_
  refine own_st (T' := T37) (g' := (mkF m 51 #[.val (.ref ar), .unset] [(.int (0 : Int32)), (.ref ar), (.ref u), (.ref u)])) (fun _ k => XS.iconst X37.here hx rfl (hb hby d13_50) k) ?_
  refine own_st (T' := T37) (g' := (mkF m 52 #[.val (.ref ar), .unset] [(.ref x), (.ref u), (.ref u)])) (own_ldR X37 hx hZ e37 Va rfl (i := 0) (by decide) (by decide) (v := (.ref x)) hf0 (g := (mkF m 51 #[.val (.ref ar), .unset] [(.int (0 : Int32)), (.ref ar), (.ref u), (.ref u)])) rfl rfl (hb hby d13_51)) ?_
  refine own_st (T' := T37) (g' := (mkF m 53 #[.val (.ref ar), .unset] [(.ref ar), (.ref x), (.ref u), (.ref u)])) (fun _ k => XS.aloadN X37.here hx rfl (hb hby d13_52) rfl rfl k) ?_
  refine own_st (T' := T37) (g' := (mkF m 54 #[.val (.ref ar), .unset] [(.int (1 : Int32)), (.ref ar), (.ref x), (.ref u), (.ref u)])) (fun _ k => XS.iconst X37.here hx rfl (hb hby d13_53) k) ?_
  refine own_st (T' := T37) (g' := (mkF m 55 #[.val (.ref ar), .unset] [(.ref y), (.ref x), (.ref u), (.ref u)])) (own_ldR X37 hx hZ e37 Va rfl (i := 1) (by decide) (by decide) (v := (.ref y)) hf1 (g := (mkF m 54 #[.val (.ref ar), .unset] [(.int (1 : Int32)), (.ref ar), (.ref x), (.ref u), (.ref u)])) rfl rfl (hb hby d13_54)) ?_
  obtain ⟨_, _, ⟨T38, L38, k38, n38⟩, -, X38, ⟨Lc38, hQ38, l38, y38, z38⟩, st38⟩ := X37.specialBack hx (y := (⟨"java/util/ImmutableCollections$List12", "<init>", "(Ljava/lang/Object;Ljava/lang/Object;)V"⟩ : MethodName)) rfl hown (mvT hZ (hw _ (List.mem_of_getElem? (i := 146) rfl))) (mvT hZ (hw _ (List.mem_of_getElem? (i := 147) rfl))) (mvT hZ (hw _ (List.mem_of_getElem? (i := 148) rfl))) (by decide) (backOf (W := 1) (own_l2 l Z a0 hw [] u x y h37 n0 Z0' F_e0_u F_e1_u E_u ge_u) hZ (hw _ (List.mem_of_getElem? (i := 148) rfl)) (hw _ (List.mem_of_getElem? (i := 83) rfl)) (by decide) (by decide)) (g := (mkF m 55 #[.val (.ref ar), .unset] [(.ref y), (.ref x), (.ref u), (.ref u)])) rfl (by rw [hml]; rfl) (Steps.refl _) (a := u) (argsL := [(.ref x), (.ref y)]) (rest := [(.ref u)]) (lenOf own_pd7 rfl) rfl (by show 2 * 0 + _ ≤ _; exact Nat.le_of_eq rfl) (hb hby d13_55) (fun _ _ => ⟨rfl, e37, (by decide : (0 + 1) + 0 ≤ _), (by decide : (0 + 2) + 0 ≤ _)⟩)
  dsimp only [Pt.U, Pt.locs, Pt.cells, Pt.slots] at X38 l38 y38 z38 st38 hQ38
  subst l38 y38 z38
  obtain ⟨rfl, N38q, K38, -, F0, F1⟩ := hQ38
  have N0' := Fr.app N0 N38q
  have Va := Va.keep K38 (ninS ne_ar_u nin0)
  have E_u := E_u.keep K38
  have Z0'' := Nat.le_trans Z0' K38.1
  have Kp := Kp.trans K38 (allS (P := fun x => x ∈ [] ∨ h0.size ≤ x) (Or.inr sz_u) all0)
  refine own_tr (T' := T38) (g' := (mkF m 58 #[.val (.ref ar), .unset] [(.ref u)])) st38 ?_
  exact own_retR X38 hx Bd.returns Bd.notSynchronized rfl rfl rfl (hb hby d13_58) ⟨u, rfl, N0', Kp, sz_u, E_u, F0, F1⟩ (by decide) (by decide)
theorem d10_0 : decode prog_4_method_1_code 0 = .ok (.aload_n 0, 1) := by decide +kernel
theorem d10_1 : decode prog_4_method_1_code 1 = .ok (.invokespecial 1, 3) := by decide +kernel
theorem d10_4 : decode prog_4_method_1_code 4 = .ok (.return_, 1) := by decide +kernel
theorem own_pn8 : plainName "com/example/ovrdue/ovrdue/command/Rewrite" = true := by first | (simp [plainName, overriddenIn]; done) | decide +kernel
def own_rwi_Q (Z : State) (a : Addr) (h0 : Heap) (n0 : Nat) (v : Option Value) (h : Heap) (L : List Loc) : Prop := v = none ∧ Fr n0 L ∧ h = h0
set_option maxRecDepth 65536 in
set_option maxHeartbeats 40000000 in
theorem own_rwi (l : Launch) (Z : State) (a0 : Array Value) (hw : ∀ d ∈ tables_1, d.before a0 Z = true) (ws : List Jvm.Cond) (a : Addr) (h0 : Heap) (n0 : Nat) (Z0 : n0 ≤ h0.size) :
    MetFree l (⟨"com/example/ovrdue/ovrdue/command/Rewrite", "<init>", "()V"⟩ : MethodName) (head1 (Jvm.Cond.code (⟨"com/example/ovrdue/ovrdue/command/Rewrite", "<init>", "()V"⟩ : MethodName) prog_4_method_1_code 1 none :: ws) ({ frames := 1, cells := 0, slots := 0, locals := 12 } : Room)) (fun aa U0 => aa = #[(.ref a)] ∧ Z.Warmed39 U0.vm ∧ U0.heap = h0) (fun _ _ _ _ _ => True) (fun _ U0 o0 U1 => ∃ v0 L0, o0 = .returned v0 ∧ own_rwi_Q Z a h0 n0 v0 U1.heap L0 ∧ FrameEnd U0 o0 U1 L0 ({ frames := 1, cells := 0, slots := 0, locals := 12 } : Room).cells ({ frames := 1, cells := 0, slots := 0, locals := 12 } : Room).slots) := by
  refine MetFree.of_bodySF (plainFor_of_name own_pn8) hisR ?_
  intro p e s m args below meth c s₁ Bd hml0 hP hK
  obtain ⟨rfl, hZ, hh⟩ := hP
  have hx := Bd.exec
  have hby := Bd.bytes
  have hml : c.maxLocals = 1 := hml0
  have hown : s.vm.findClass "com/example/ovrdue/ovrdue/command/Rewrite" = some m.cls := findClass_of_methodNamed Bd.named
  have hnm := (name_of_methodNamed Bd.named Bd.method).1
  have X0 : Stand p l e ({ frames := 1, cells := 0, slots := 0, locals := 12 } : Room) s m #[(.ref a)] below meth c s₁ [] 0 0 := Stand.of_body Bd
  have e0 : s₁.heap = h0 := by rw [← hh, Bd.state]; rfl
  have N0 := Fr.nil n0
  show own_Go p e below s (own_rwi_Q Z a h0 n0) 0 0 s₁ (entryFrame m #[(.ref a)] 1)
  rw [show entryFrame m #[(.ref a)] 1 = mkF m 0 #[.val (.ref a)] [] from by first | (simp [entryFrame, mkF, argsToLocals, Value.category]; done) | rfl]
  refine own_st (T' := s₁) (g' := (mkF m 1 #[.val (.ref a)] [(.ref a)])) (fun _ k => XS.aloadN X0.here hx rfl (hb hby d10_0) rfl rfl k) ?_
  obtain ⟨T39, X39, e39, st39⟩ := initO X0 hx hZ hown (hw _ (List.mem_of_getElem? (i := 64) rfl)) (hw _ (List.mem_of_getElem? (i := 20) rfl)) (hw _ (List.mem_of_getElem? (i := 21) rfl)) e0 (g := (mkF m 1 #[.val (.ref a)] [(.ref a)])) rfl (by rw [hml]; rfl) rfl (hb hby d10_1) (by decide) (W := 0) (by show 2 * 0 + _ ≤ _; exact Nat.le_of_eq rfl) (by decide)
  refine own_st (T' := T39) (g' := (mkF m 4 #[.val (.ref a)] [])) st39 ?_
  exact own_ret0 X39 hx Bd.returns Bd.notSynchronized e39 (hb hby d10_4) ⟨rfl, N0, rfl⟩ (by decide) (by decide)
theorem own_pd8 : parseMethodDescriptor "([Ljava/lang/Object;)Ljava/util/List;" = some ⟨[(.array (.object "java/lang/Object"))], some (.object "java/util/List")⟩ := by decide +kernel
theorem d12_0 : decode prog_4_method_2_code 0 = .ok (.aload_n 0, 1) := by decide +kernel
theorem d12_1 : decode prog_4_method_2_code 1 = .ok (.aload_n 1, 1) := by decide +kernel
theorem d12_2 : decode prog_4_method_2_code 2 = .ok (.invokestatic 7, 3) := by decide +kernel
theorem d12_5 : decode prog_4_method_2_code 5 = .ok (.putfield 13, 3) := by decide +kernel
theorem d12_8 : decode prog_4_method_2_code 8 = .ok (.aload_n 0, 1) := by decide +kernel
theorem d12_9 : decode prog_4_method_2_code 9 = .ok (.iconst 1, 1) := by decide +kernel
theorem d12_10 : decode prog_4_method_2_code 10 = .ok (.putfield 19, 3) := by decide +kernel
theorem d12_13 : decode prog_4_method_2_code 13 = .ok (.return_, 1) := by decide +kernel
def own_as1_Q (Z : State) (r : Addr) (ar : Addr) (k : ClassId) (f : Nat → Value) (x : Addr) (aM : Addr) (rc : Value) (nm : Int32) (h0 : Heap) (n0 : Nat) (v : Option Value) (h : Heap) (L : List Loc) : Prop := v = none ∧ Fr n0 L ∧ Keep h0 h [r] ∧ Fld Z h r "com/example/ovrdue/ovrdue/command/Rewrite" "named" "Z" (.int (1 : Int32)) ∧ ∃ u, u ≠ r ∧ Fld Z h r "com/example/ovrdue/ovrdue/command/Rewrite" "record" "Ljava/util/List;" (.ref u) ∧ Exa Z h u "java/util/ImmutableCollections$List12" ∧ Fld Z h u "java/util/ImmutableCollections$List12" "e0" "Ljava/lang/Object;" (.ref x) ∧ Fld Z h u "java/util/ImmutableCollections$List12" "e1" "Ljava/lang/Object;" (.ref aM)
set_option maxRecDepth 65536 in
set_option maxHeartbeats 40000000 in
theorem own_as1 (l : Launch) (Z : State) (a0 : Array Value) (hw : ∀ d ∈ tables_1, d.before a0 Z = true) (ws : List Jvm.Cond) (r : Addr) (ar : Addr) (k : ClassId) (f : Nat → Value) (x : Addr) (aM : Addr) (rc : Value) (nm : Int32) (h0 : Heap) (n0 : Nat) (Z0 : n0 ≤ h0.size) (Frc : Fld Z h0 r "com/example/ovrdue/ovrdue/command/Rewrite" "record" "Ljava/util/List;" rc) (Fn : Fld Z h0 r "com/example/ovrdue/ovrdue/command/Rewrite" "named" "Z" (.int nm)) (Er : Exa Z h0 r "com/example/ovrdue/ovrdue/command/Rewrite") (gr : n0 ≤ r) (Va : own_Av Z h0 ar k (.array .byte) 1 f) (nar_ : ar ≠ r) (hf0 : f 0 = .ref x) (SE : Sta Z h0 "java/util/ImmutableCollections" "EMPTY" "Ljava/lang/Object;" (.ref aM)) :
    MetFree l (⟨"com/example/ovrdue/ovrdue/command/Rewrite", "as", "([[B)V"⟩ : MethodName) (head1 (Jvm.Cond.code (⟨"com/example/ovrdue/ovrdue/command/Rewrite", "as", "([[B)V"⟩ : MethodName) prog_4_method_2_code 2 none :: ws) ({ frames := 6, cells := 1, slots := 2, locals := 76 } : Room)) (fun aa U0 => aa = #[(.ref r), (.ref ar)] ∧ Z.Warmed39 U0.vm ∧ U0.heap = h0) (fun _ _ _ _ _ => True) (fun _ U0 o0 U1 => ∃ v0 L0, o0 = .returned v0 ∧ own_as1_Q Z r ar k f x aM rc nm h0 n0 v0 U1.heap L0 ∧ FrameEnd U0 o0 U1 L0 ({ frames := 6, cells := 1, slots := 2, locals := 76 } : Room).cells ({ frames := 6, cells := 1, slots := 2, locals := 76 } : Room).slots) := by
  refine MetFree.of_bodySF (plainFor_of_name own_pn8) hisR ?_
  intro p e s m args below meth c s₁ Bd hml0 hP hK
  obtain ⟨rfl, hZ, hh⟩ := hP
  have hx := Bd.exec
  have hby := Bd.bytes
  have hml : c.maxLocals = 2 := hml0
  have hown : s.vm.findClass "com/example/ovrdue/ovrdue/command/Rewrite" = some m.cls := findClass_of_methodNamed Bd.named
  have hnm := (name_of_methodNamed Bd.named Bd.method).1
  have X0 : Stand p l e ({ frames := 6, cells := 1, slots := 2, locals := 76 } : Room) s m #[(.ref r), (.ref ar)] below meth c s₁ [] 0 0 := Stand.of_body Bd
  have e0 : s₁.heap = h0 := by rw [← hh, Bd.state]; rfl
  have N0 := Fr.nil n0
  show own_Go p e below s (own_as1_Q Z r ar k f x aM rc nm h0 n0) 1 2 s₁ (entryFrame m #[(.ref r), (.ref ar)] 2)
  rw [show entryFrame m #[(.ref r), (.ref ar)] 2 = mkF m 0 #[.val (.ref r), .val (.ref ar)] [] from by first | (simp [entryFrame, mkF, argsToLocals, Value.category]; done) | rfl]
  have Kp := Keep.refl h0 [r]
  refine own_st (T' := s₁) (g' := (mkF m 1 #[.val (.ref r), .val (.ref ar)] [(.ref r)])) (fun _ k => XS.aloadN X0.here hx rfl (hb hby d12_0) rfl rfl k) ?_
  refine own_st (T' := s₁) (g' := (mkF m 2 #[.val (.ref r), .val (.ref ar)] [(.ref ar), (.ref r)])) (fun _ k => XS.aloadN X0.here hx rfl (hb hby d12_1) rfl rfl k) ?_
  have lt_r := Frc.lt
  have lt_ar := Va.lt
  obtain ⟨_, _, ⟨T40, L40, k40, n40⟩, -, X40, ⟨Lc40, hQ40, l40, y40, z40⟩, st40⟩ := Jvm.LawKit.callS X0 hx (y := (⟨"java/util/List", "of", "([Ljava/lang/Object;)Ljava/util/List;"⟩ : MethodName)) hown (mvT hZ (hw _ (List.mem_of_getElem? (i := 77) rfl))) (mvT hZ (hw _ (List.mem_of_getElem? (i := 78) rfl))) (mvT hZ (hw _ (List.mem_of_getElem? (i := 79) rfl))) (mvT hZ (hw _ (List.mem_of_getElem? (i := 80) rfl))) (by decide) (backOf (W := 1) (own_of1 l Z a0 hw [] ar k f x aM h0 n0 Z0 Va hf0 SE) hZ (hw _ (List.mem_of_getElem? (i := 80) rfl)) (hw _ (List.mem_of_getElem? (i := 79) rfl)) (by decide) (by decide)) (g := (mkF m 2 #[.val (.ref r), .val (.ref ar)] [(.ref ar), (.ref r)])) rfl (by rw [hml]; rfl) (argsL := [(.ref ar)]) (rest := [(.ref r)]) (lenOf own_pd8 rfl) rfl (by show 2 * 0 + _ ≤ _; exact Nat.le_of_eq rfl) (hb hby d12_2) (fun _ _ => ⟨rfl, e0, (by decide : 0 + 1 ≤ _), (by decide : 0 + 2 ≤ _)⟩)
  dsimp only [Pt.U, Pt.locs, Pt.cells, Pt.slots] at X40 l40 y40 z40 st40 hQ40
  subst l40 y40 z40
  obtain ⟨u, rfl, N40q, K40, gu, Eu, F0, F1⟩ := hQ40
  have N0' := Fr.app N0 N40q
  have ne_r_u : r ≠ u := own_ne2 lt_r gu
  have ne_ar_u : ar ≠ u := own_ne2 lt_ar gu
  have ge_u : n0 ≤ u := Nat.le_trans Z0 gu
  have sz_u : h0.size ≤ u := Nat.le_trans Kp.1 gu
  have Frc := Frc.keep K40 nin0
  have Fn := Fn.keep K40 nin0
  have Er := Er.keep K40
  have Va := Va.keep K40 nin0
  have Z0' := Nat.le_trans Z0 K40.1
  have Kp := Kp.trans K40 all0
  refine own_st (T' := T40) (g' := (mkF m 5 #[.val (.ref r), .val (.ref ar)] [(.ref u), (.ref r)])) st40 ?_
  obtain ⟨T41, h41, X41, e41, W41, st41⟩ := putF X40 hx hZ hown (host := "") (Or.inl (hw _ (List.mem_of_getElem? (i := 112) rfl))) Via.refl rfl Frc Er (Or.inl (hw _ (List.mem_of_getElem? (i := 113) rfl))) (hw _ (List.mem_of_getElem? (i := 59) rfl)) (ty := (.object "java/util/List")) (by decide) rfl rfl (g := (mkF m 5 #[.val (.ref r), .val (.ref ar)] [(.ref u), (.ref r)])) rfl rfl (hb hby d12_5)
  have Fn := Fn.other W41 (Or.inr (slot_ne (Or.inl (hw _ (List.mem_of_getElem? (i := 115) rfl))) (Or.inl (hw _ (List.mem_of_getElem? (i := 113) rfl))) (by decide) (t := .boolean) (t' := (.object "java/util/List")) (by decide) (by decide)))
  have Er := Er.wr W41
  have Va := Va.other W41 nar_
  have Eu := Eu.wr W41
  have F0 := F0.other W41 (Or.inl (Ne.symm ne_r_u))
  have F1 := F1.other W41 (Or.inl (Ne.symm ne_r_u))
  have Z0'' := Nat.le_trans Z0' (Keep.of_wr W41).1
  have Kp := Kp.wr W41 (Or.inl (List.mem_of_getElem? (i := 0) rfl))
  have N0'' := Fr.snoc X41 N0' gr
  have Frc := Frc.same W41
  refine own_st (T' := T41) (g' := (mkF m 8 #[.val (.ref r), .val (.ref ar)] [])) st41 ?_
  refine own_st (T' := T41) (g' := (mkF m 9 #[.val (.ref r), .val (.ref ar)] [(.ref r)])) (fun _ k => XS.aloadN X41.here hx rfl (hb hby d12_8) rfl rfl k) ?_
  refine own_st (T' := T41) (g' := (mkF m 10 #[.val (.ref r), .val (.ref ar)] [(.int (1 : Int32)), (.ref r)])) (fun _ k => XS.iconst X41.here hx rfl (hb hby d12_9) k) ?_
  obtain ⟨T42, h42, X42, e42, W42, st42⟩ := putFN X41 hx hZ hown (hw _ (List.mem_of_getElem? (i := 114) rfl)) Via.refl e41 Fn Er (Or.inl (hw _ (List.mem_of_getElem? (i := 115) rfl))) (hw _ (List.mem_of_getElem? (i := 59) rfl)) (ty := .boolean) (v' := (.int (1 : Int32))) (by decide) rfl rfl (g := (mkF m 10 #[.val (.ref r), .val (.ref ar)] [(.int (1 : Int32)), (.ref r)])) rfl rfl (hb hby d12_10)
  have Frc := Frc.other W42 (Or.inr (slot_ne (Or.inl (hw _ (List.mem_of_getElem? (i := 113) rfl))) (Or.inl (hw _ (List.mem_of_getElem? (i := 115) rfl))) (by decide) (t := (.object "java/util/List")) (t' := .boolean) (by decide) (by decide)))
  have Er := Er.wr W42
  have Va := Va.other W42 nar_
  have Eu := Eu.wr W42
  have F0 := F0.other W42 (Or.inl (Ne.symm ne_r_u))
  have F1 := F1.other W42 (Or.inl (Ne.symm ne_r_u))
  have Z0''' := Nat.le_trans Z0'' (Keep.of_wr W42).1
  have Kp := Kp.wr W42 (Or.inl (List.mem_of_getElem? (i := 0) rfl))
  have N0''' := Fr.snoc X42 N0'' gr
  have Fn := Fn.same W42
  refine own_st (T' := T42) (g' := (mkF m 13 #[.val (.ref r), .val (.ref ar)] [])) st42 ?_
  exact own_ret0 X42 hx Bd.returns Bd.notSynchronized e42 (hb hby d12_13) ⟨rfl, N0''', Kp, Fn, u, Ne.symm ne_r_u, Frc, Eu, F0, F1⟩ (by decide) (by decide)
def own_as2_Q (Z : State) (r : Addr) (ar : Addr) (k : ClassId) (f : Nat → Value) (x : Addr) (y : Addr) (rc : Value) (nm : Int32) (h0 : Heap) (n0 : Nat) (v : Option Value) (h : Heap) (L : List Loc) : Prop := v = none ∧ Fr n0 L ∧ Keep h0 h [r] ∧ Fld Z h r "com/example/ovrdue/ovrdue/command/Rewrite" "named" "Z" (.int (1 : Int32)) ∧ ∃ u, u ≠ r ∧ Fld Z h r "com/example/ovrdue/ovrdue/command/Rewrite" "record" "Ljava/util/List;" (.ref u) ∧ Exa Z h u "java/util/ImmutableCollections$List12" ∧ Fld Z h u "java/util/ImmutableCollections$List12" "e0" "Ljava/lang/Object;" (.ref x) ∧ Fld Z h u "java/util/ImmutableCollections$List12" "e1" "Ljava/lang/Object;" (.ref y)
set_option maxRecDepth 65536 in
set_option maxHeartbeats 40000000 in
theorem own_as2 (l : Launch) (Z : State) (a0 : Array Value) (hw : ∀ d ∈ tables_1, d.before a0 Z = true) (ws : List Jvm.Cond) (r : Addr) (ar : Addr) (k : ClassId) (f : Nat → Value) (x : Addr) (y : Addr) (rc : Value) (nm : Int32) (h0 : Heap) (n0 : Nat) (Z0 : n0 ≤ h0.size) (Frc : Fld Z h0 r "com/example/ovrdue/ovrdue/command/Rewrite" "record" "Ljava/util/List;" rc) (Fn : Fld Z h0 r "com/example/ovrdue/ovrdue/command/Rewrite" "named" "Z" (.int nm)) (Er : Exa Z h0 r "com/example/ovrdue/ovrdue/command/Rewrite") (gr : n0 ≤ r) (Va : own_Av Z h0 ar k (.array .byte) 2 f) (nar_ : ar ≠ r) (hf0 : f 0 = .ref x) (hf1 : f 1 = .ref y) :
    MetFree l (⟨"com/example/ovrdue/ovrdue/command/Rewrite", "as", "([[B)V"⟩ : MethodName) (head1 (Jvm.Cond.code (⟨"com/example/ovrdue/ovrdue/command/Rewrite", "as", "([[B)V"⟩ : MethodName) prog_4_method_2_code 2 none :: ws) ({ frames := 6, cells := 1, slots := 2, locals := 77 } : Room)) (fun aa U0 => aa = #[(.ref r), (.ref ar)] ∧ Z.Warmed39 U0.vm ∧ U0.heap = h0) (fun _ _ _ _ _ => True) (fun _ U0 o0 U1 => ∃ v0 L0, o0 = .returned v0 ∧ own_as2_Q Z r ar k f x y rc nm h0 n0 v0 U1.heap L0 ∧ FrameEnd U0 o0 U1 L0 ({ frames := 6, cells := 1, slots := 2, locals := 77 } : Room).cells ({ frames := 6, cells := 1, slots := 2, locals := 77 } : Room).slots) := by
  refine MetFree.of_bodySF (plainFor_of_name own_pn8) hisR ?_
  intro p e s m args below meth c s₁ Bd hml0 hP hK
  obtain ⟨rfl, hZ, hh⟩ := hP
  have hx := Bd.exec
  have hby := Bd.bytes
  have hml : c.maxLocals = 2 := hml0
  have hown : s.vm.findClass "com/example/ovrdue/ovrdue/command/Rewrite" = some m.cls := findClass_of_methodNamed Bd.named
  have hnm := (name_of_methodNamed Bd.named Bd.method).1
  have X0 : Stand p l e ({ frames := 6, cells := 1, slots := 2, locals := 77 } : Room) s m #[(.ref r), (.ref ar)] below meth c s₁ [] 0 0 := Stand.of_body Bd
  have e0 : s₁.heap = h0 := by rw [← hh, Bd.state]; rfl
  have N0 := Fr.nil n0
  show own_Go p e below s (own_as2_Q Z r ar k f x y rc nm h0 n0) 1 2 s₁ (entryFrame m #[(.ref r), (.ref ar)] 2)
  rw [show entryFrame m #[(.ref r), (.ref ar)] 2 = mkF m 0 #[.val (.ref r), .val (.ref ar)] [] from by first | (simp [entryFrame, mkF, argsToLocals, Value.category]; done) | rfl]
  have Kp := Keep.refl h0 [r]
  refine own_st (T' := s₁) (g' := (mkF m 1 #[.val (.ref r), .val (.ref ar)] [(.ref r)])) (fun _ k => XS.aloadN X0.here hx rfl (hb hby d12_0) rfl rfl k) ?_
  refine own_st (T' := s₁) (g' := (mkF m 2 #[.val (.ref r), .val (.ref ar)] [(.ref ar), (.ref r)])) (fun _ k => XS.aloadN X0.here hx rfl (hb hby d12_1) rfl rfl k) ?_
  have lt_r := Frc.lt
  have lt_ar := Va.lt
  obtain ⟨_, _, ⟨T43, L43, k43, n43⟩, -, X43, ⟨Lc43, hQ43, l43, y43, z43⟩, st43⟩ := Jvm.LawKit.callS X0 hx (y := (⟨"java/util/List", "of", "([Ljava/lang/Object;)Ljava/util/List;"⟩ : MethodName)) hown (mvT hZ (hw _ (List.mem_of_getElem? (i := 77) rfl))) (mvT hZ (hw _ (List.mem_of_getElem? (i := 78) rfl))) (mvT hZ (hw _ (List.mem_of_getElem? (i := 79) rfl))) (mvT hZ (hw _ (List.mem_of_getElem? (i := 80) rfl))) (by decide) (backOf (W := 1) (own_of2 l Z a0 hw [] ar k f x y h0 n0 Z0 Va hf0 hf1) hZ (hw _ (List.mem_of_getElem? (i := 80) rfl)) (hw _ (List.mem_of_getElem? (i := 79) rfl)) (by decide) (by decide)) (g := (mkF m 2 #[.val (.ref r), .val (.ref ar)] [(.ref ar), (.ref r)])) rfl (by rw [hml]; rfl) (argsL := [(.ref ar)]) (rest := [(.ref r)]) (lenOf own_pd8 rfl) rfl (by show 2 * 0 + _ ≤ _; exact Nat.le_of_eq rfl) (hb hby d12_2) (fun _ _ => ⟨rfl, e0, (by decide : 0 + 1 ≤ _), (by decide : 0 + 2 ≤ _)⟩)
  dsimp only [Pt.U, Pt.locs, Pt.cells, Pt.slots] at X43 l43 y43 z43 st43 hQ43
  subst l43 y43 z43
  obtain ⟨u, rfl, N43q, K43, gu, Eu, F0, F1⟩ := hQ43
  have N0' := Fr.app N0 N43q
  have ne_r_u : r ≠ u := own_ne2 lt_r gu
  have ne_ar_u : ar ≠ u := own_ne2 lt_ar gu
  have ge_u : n0 ≤ u := Nat.le_trans Z0 gu
  have sz_u : h0.size ≤ u := Nat.le_trans Kp.1 gu
  have Frc := Frc.keep K43 nin0
  have Fn := Fn.keep K43 nin0
  have Er := Er.keep K43
  have Va := Va.keep K43 nin0
  have Z0' := Nat.le_trans Z0 K43.1
  have Kp := Kp.trans K43 all0
  refine own_st (T' := T43) (g' := (mkF m 5 #[.val (.ref r), .val (.ref ar)] [(.ref u), (.ref r)])) st43 ?_
  obtain ⟨T44, h44, X44, e44, W44, st44⟩ := putF X43 hx hZ hown (host := "") (Or.inl (hw _ (List.mem_of_getElem? (i := 112) rfl))) Via.refl rfl Frc Er (Or.inl (hw _ (List.mem_of_getElem? (i := 113) rfl))) (hw _ (List.mem_of_getElem? (i := 59) rfl)) (ty := (.object "java/util/List")) (by decide) rfl rfl (g := (mkF m 5 #[.val (.ref r), .val (.ref ar)] [(.ref u), (.ref r)])) rfl rfl (hb hby d12_5)
  have Fn := Fn.other W44 (Or.inr (slot_ne (Or.inl (hw _ (List.mem_of_getElem? (i := 115) rfl))) (Or.inl (hw _ (List.mem_of_getElem? (i := 113) rfl))) (by decide) (t := .boolean) (t' := (.object "java/util/List")) (by decide) (by decide)))
  have Er := Er.wr W44
  have Va := Va.other W44 nar_
  have Eu := Eu.wr W44
  have F0 := F0.other W44 (Or.inl (Ne.symm ne_r_u))
  have F1 := F1.other W44 (Or.inl (Ne.symm ne_r_u))
  have Z0'' := Nat.le_trans Z0' (Keep.of_wr W44).1
  have Kp := Kp.wr W44 (Or.inl (List.mem_of_getElem? (i := 0) rfl))
  have N0'' := Fr.snoc X44 N0' gr
  have Frc := Frc.same W44
  refine own_st (T' := T44) (g' := (mkF m 8 #[.val (.ref r), .val (.ref ar)] [])) st44 ?_
  refine own_st (T' := T44) (g' := (mkF m 9 #[.val (.ref r), .val (.ref ar)] [(.ref r)])) (fun _ k => XS.aloadN X44.here hx rfl (hb hby d12_8) rfl rfl k) ?_
  refine own_st (T' := T44) (g' := (mkF m 10 #[.val (.ref r), .val (.ref ar)] [(.int (1 : Int32)), (.ref r)])) (fun _ k => XS.iconst X44.here hx rfl (hb hby d12_9) k) ?_
  obtain ⟨T45, h45, X45, e45, W45, st45⟩ := putFN X44 hx hZ hown (hw _ (List.mem_of_getElem? (i := 114) rfl)) Via.refl e44 Fn Er (Or.inl (hw _ (List.mem_of_getElem? (i := 115) rfl))) (hw _ (List.mem_of_getElem? (i := 59) rfl)) (ty := .boolean) (v' := (.int (1 : Int32))) (by decide) rfl rfl (g := (mkF m 10 #[.val (.ref r), .val (.ref ar)] [(.int (1 : Int32)), (.ref r)])) rfl rfl (hb hby d12_10)
  have Frc := Frc.other W45 (Or.inr (slot_ne (Or.inl (hw _ (List.mem_of_getElem? (i := 113) rfl))) (Or.inl (hw _ (List.mem_of_getElem? (i := 115) rfl))) (by decide) (t := (.object "java/util/List")) (t' := .boolean) (by decide) (by decide)))
  have Er := Er.wr W45
  have Va := Va.other W45 nar_
  have Eu := Eu.wr W45
  have F0 := F0.other W45 (Or.inl (Ne.symm ne_r_u))
  have F1 := F1.other W45 (Or.inl (Ne.symm ne_r_u))
  have Z0''' := Nat.le_trans Z0'' (Keep.of_wr W45).1
  have Kp := Kp.wr W45 (Or.inl (List.mem_of_getElem? (i := 0) rfl))
  have N0''' := Fr.snoc X45 N0'' gr
  have Fn := Fn.same W45
  refine own_st (T' := T45) (g' := (mkF m 13 #[.val (.ref r), .val (.ref ar)] [])) st45 ?_
  exact own_ret0 X45 hx Bd.returns Bd.notSynchronized e45 (hb hby d12_13) ⟨rfl, N0''', Kp, Fn, u, Ne.symm ne_r_u, Frc, Eu, F0, F1⟩ (by decide) (by decide)
theorem d22_0 : decode prog_4_method_3_code 0 = .ok (.aload_n 0, 1) := by decide +kernel
theorem d22_1 : decode prog_4_method_3_code 1 = .ok (.aconst_null, 1) := by decide +kernel
theorem d22_2 : decode prog_4_method_3_code 2 = .ok (.putfield 13, 3) := by decide +kernel
theorem d22_5 : decode prog_4_method_3_code 5 = .ok (.aload_n 0, 1) := by decide +kernel
theorem d22_6 : decode prog_4_method_3_code 6 = .ok (.iconst 1, 1) := by decide +kernel
theorem d22_7 : decode prog_4_method_3_code 7 = .ok (.putfield 19, 3) := by decide +kernel
theorem d22_10 : decode prog_4_method_3_code 10 = .ok (.return_, 1) := by decide +kernel
def own_asn_Q (Z : State) (r : Addr) (rc : Value) (nm : Int32) (h0 : Heap) (n0 : Nat) (v : Option Value) (h : Heap) (L : List Loc) : Prop := v = none ∧ Fr n0 L ∧ Keep h0 h [r] ∧ Fld Z h r "com/example/ovrdue/ovrdue/command/Rewrite" "named" "Z" (.int (1 : Int32)) ∧ Fld Z h r "com/example/ovrdue/ovrdue/command/Rewrite" "record" "Ljava/util/List;" .null
set_option maxRecDepth 65536 in
set_option maxHeartbeats 40000000 in
theorem own_asn (l : Launch) (Z : State) (a0 : Array Value) (hw : ∀ d ∈ tables_1, d.before a0 Z = true) (ws : List Jvm.Cond) (r : Addr) (rc : Value) (nm : Int32) (h0 : Heap) (n0 : Nat) (Z0 : n0 ≤ h0.size) (Frc : Fld Z h0 r "com/example/ovrdue/ovrdue/command/Rewrite" "record" "Ljava/util/List;" rc) (Fn : Fld Z h0 r "com/example/ovrdue/ovrdue/command/Rewrite" "named" "Z" (.int nm)) (Er : Exa Z h0 r "com/example/ovrdue/ovrdue/command/Rewrite") (gr : n0 ≤ r) :
    MetFree l (⟨"com/example/ovrdue/ovrdue/command/Rewrite", "asNothing", "()V"⟩ : MethodName) (head1 (Jvm.Cond.code (⟨"com/example/ovrdue/ovrdue/command/Rewrite", "asNothing", "()V"⟩ : MethodName) prog_4_method_3_code 1 none :: ws) ({ frames := 0, cells := 0, slots := 0, locals := 0 } : Room)) (fun aa U0 => aa = #[(.ref r)] ∧ Z.Warmed39 U0.vm ∧ U0.heap = h0) (fun _ _ _ _ _ => True) (fun _ U0 o0 U1 => ∃ v0 L0, o0 = .returned v0 ∧ own_asn_Q Z r rc nm h0 n0 v0 U1.heap L0 ∧ FrameEnd U0 o0 U1 L0 ({ frames := 0, cells := 0, slots := 0, locals := 0 } : Room).cells ({ frames := 0, cells := 0, slots := 0, locals := 0 } : Room).slots) := by
  refine MetFree.of_bodySF (plainFor_of_name own_pn8) hisR ?_
  intro p e s m args below meth c s₁ Bd hml0 hP hK
  obtain ⟨rfl, hZ, hh⟩ := hP
  have hx := Bd.exec
  have hby := Bd.bytes
  have hml : c.maxLocals = 1 := hml0
  have hown : s.vm.findClass "com/example/ovrdue/ovrdue/command/Rewrite" = some m.cls := findClass_of_methodNamed Bd.named
  have hnm := (name_of_methodNamed Bd.named Bd.method).1
  have X0 : Stand p l e ({ frames := 0, cells := 0, slots := 0, locals := 0 } : Room) s m #[(.ref r)] below meth c s₁ [] 0 0 := Stand.of_body Bd
  have e0 : s₁.heap = h0 := by rw [← hh, Bd.state]; rfl
  have N0 := Fr.nil n0
  show own_Go p e below s (own_asn_Q Z r rc nm h0 n0) 0 0 s₁ (entryFrame m #[(.ref r)] 1)
  rw [show entryFrame m #[(.ref r)] 1 = mkF m 0 #[.val (.ref r)] [] from by first | (simp [entryFrame, mkF, argsToLocals, Value.category]; done) | rfl]
  have Kp := Keep.refl h0 [r]
  refine own_st (T' := s₁) (g' := (mkF m 1 #[.val (.ref r)] [(.ref r)])) (fun _ k => XS.aloadN X0.here hx rfl (hb hby d22_0) rfl rfl k) ?_
  refine own_st (T' := s₁) (g' := (mkF m 2 #[.val (.ref r)] [.null, (.ref r)])) (fun _ k => XS.aconstNull X0.here hx rfl (hb hby d22_1) k) ?_
  obtain ⟨T46, h46, X46, e46, W46, st46⟩ := putF X0 hx hZ hown (host := "") (Or.inl (hw _ (List.mem_of_getElem? (i := 112) rfl))) Via.refl e0 Frc Er (Or.inl (hw _ (List.mem_of_getElem? (i := 113) rfl))) (hw _ (List.mem_of_getElem? (i := 59) rfl)) (ty := (.object "java/util/List")) (by decide) rfl rfl (g := (mkF m 2 #[.val (.ref r)] [.null, (.ref r)])) rfl rfl (hb hby d22_2)
  have Fn := Fn.other W46 (Or.inr (slot_ne (Or.inl (hw _ (List.mem_of_getElem? (i := 115) rfl))) (Or.inl (hw _ (List.mem_of_getElem? (i := 113) rfl))) (by decide) (t := .boolean) (t' := (.object "java/util/List")) (by decide) (by decide)))
  have Er := Er.wr W46
  have Z0' := Nat.le_trans Z0 (Keep.of_wr W46).1
  have Kp := Kp.wr W46 (Or.inl (List.mem_of_getElem? (i := 0) rfl))
  have N0' := Fr.snoc X46 N0 gr
  have Frc := Frc.same W46
  refine own_st (T' := T46) (g' := (mkF m 5 #[.val (.ref r)] [])) st46 ?_
  refine own_st (T' := T46) (g' := (mkF m 6 #[.val (.ref r)] [(.ref r)])) (fun _ k => XS.aloadN X46.here hx rfl (hb hby d22_5) rfl rfl k) ?_
  refine own_st (T' := T46) (g' := (mkF m 7 #[.val (.ref r)] [(.int (1 : Int32)), (.ref r)])) (fun _ k => XS.iconst X46.here hx rfl (hb hby d22_6) k) ?_
  obtain ⟨T47, h47, X47, e47, W47, st47⟩ := putFN X46 hx hZ hown (hw _ (List.mem_of_getElem? (i := 114) rfl)) Via.refl e46 Fn Er (Or.inl (hw _ (List.mem_of_getElem? (i := 115) rfl))) (hw _ (List.mem_of_getElem? (i := 59) rfl)) (ty := .boolean) (v' := (.int (1 : Int32))) (by decide) rfl rfl (g := (mkF m 7 #[.val (.ref r)] [(.int (1 : Int32)), (.ref r)])) rfl rfl (hb hby d22_7)
  have Frc := Frc.other W47 (Or.inr (slot_ne (Or.inl (hw _ (List.mem_of_getElem? (i := 113) rfl))) (Or.inl (hw _ (List.mem_of_getElem? (i := 115) rfl))) (by decide) (t := (.object "java/util/List")) (t' := .boolean) (by decide) (by decide)))
  have Er := Er.wr W47
  have Z0'' := Nat.le_trans Z0' (Keep.of_wr W47).1
  have Kp := Kp.wr W47 (Or.inl (List.mem_of_getElem? (i := 0) rfl))
  have N0'' := Fr.snoc X47 N0' gr
  have Fn := Fn.same W47
  refine own_st (T' := T47) (g' := (mkF m 10 #[.val (.ref r)] [])) st47 ?_
  exact own_ret0 X47 hx Bd.returns Bd.notSynchronized e47 (hb hby d22_10) ⟨rfl, N0'', Kp, Fn, Frc⟩ (by decide) (by decide)
def own_L (Z : State) (h : Heap) (u : Addr) (x y : Value) : Prop := Exa Z h u "java/util/ImmutableCollections$List12" ∧ Fld Z h u "java/util/ImmutableCollections$List12" "e0" "Ljava/lang/Object;" x ∧ Fld Z h u "java/util/ImmutableCollections$List12" "e1" "Ljava/lang/Object;" y
def own_Rc (Z : State) (h : Heap) (r : Addr) (rc : Value) (k : Int32) (xa xb xc aM : Addr) : Prop :=
  (k = 1 ∧ ∃ u, u ≠ r ∧ rc = .ref u ∧ own_L Z h u (.ref xa) (.ref xb)) ∨ (k = 2 ∧ rc = .null) ∨ (k = 3 ∧ ∃ u, u ≠ r ∧ rc = .ref u ∧ own_L Z h u (.ref xc) (.ref aM))
def own_Rw (Z : State) (h : Heap) (r : Addr) (k : Int32) (xa xb xc aM : Addr) : Prop :=
  ∃ (rc : Value) (nm : Int32), Fld Z h r "com/example/ovrdue/ovrdue/command/Rewrite" "record" "Ljava/util/List;" rc ∧ Fld Z h r "com/example/ovrdue/ovrdue/command/Rewrite" "named" "Z" (.int nm) ∧ ((k = 0 ∧ nm = 0) ∨ (nm = 1 ∧ own_Rc Z h r rc k xa xb xc aM))
theorem own_Rc.ref {Z : State} {h : Heap} {r : Addr} {rc : Value} {k : Int32} {xa xb xc aM : Addr} (q : own_Rc Z h r rc k xa xb xc aM) : rc.isRef = true := by
  rcases q with ⟨-, u, -, rfl, -⟩ | ⟨-, rfl⟩ | ⟨-, u, -, rfl, -⟩ <;> rfl
theorem own_L.keep {Z : State} {h h' : Heap} {r u : Addr} {x y : Value} (q : own_L Z h u x y) (K : Keep h h' [r]) (n : u ≠ r) : own_L Z h' u x y := ⟨q.1.keep K, q.2.1.keep K (ninS n nin0), q.2.2.keep K (ninS n nin0)⟩
theorem own_Rc.keep {Z : State} {h h' : Heap} {r : Addr} {rc : Value} {k : Int32} {xa xb xc aM : Addr} (q : own_Rc Z h r rc k xa xb xc aM) (K : Keep h h' [r]) : own_Rc Z h' r rc k xa xb xc aM := by
  rcases q with ⟨e, u, n, w, L⟩ | q | ⟨e, u, n, w, L⟩
  · exact Or.inl ⟨e, u, n, w, L.keep K n⟩
  · exact Or.inr (Or.inl q)
  · exact Or.inr (Or.inr ⟨e, u, n, w, L.keep K n⟩)
theorem own_and3 (x : Int32) : (x &&& (3 : Int32)) = 0 ∨ (x &&& (3 : Int32)) = 1 ∨ (x &&& (3 : Int32)) = 2 ∨ (x &&& (3 : Int32)) = 3 := by
  have h := c_and x (3 : Int32) (by decide)
  have e3 : (3 : Int32).toInt = 3 := rfl
  rcases (by omega : (x &&& (3 : Int32)).toInt = 0 ∨ (x &&& (3 : Int32)).toInt = 1 ∨ (x &&& (3 : Int32)).toInt = 2 ∨ (x &&& (3 : Int32)).toInt = 3) with q | q | q | q
  · exact Or.inl (Int32.toInt_inj.mp q)
  · exact Or.inr (Or.inl (Int32.toInt_inj.mp q))
  · exact Or.inr (Or.inr (Or.inl (Int32.toInt_inj.mp q)))
  · exact Or.inr (Or.inr (Or.inr (Int32.toInt_inj.mp q)))
theorem own_pd9 : parseMethodDescriptor "([[B)V" = some ⟨[(.array (.array .byte))], none⟩ := by decide +kernel
theorem d11_0 : decode method_2_code 0 = .ok (.iload_n 1, 1) := by decide +kernel
theorem d11_1 : decode method_2_code 1 = .ok (.iconst 1, 1) := by decide +kernel
theorem d11_2 : decode method_2_code 2 = .ok (.if_icmp .ne 22, 3) := by decide +kernel
theorem d11_5 : decode method_2_code 5 = .ok (.aload_n 0, 1) := by decide +kernel
theorem d11_6 : decode method_2_code 6 = .ok (.iconst 2, 1) := by decide +kernel
theorem d11_7 : decode method_2_code 7 = .ok (.anewarray 7, 3) := by decide +kernel
theorem d11_10 : decode method_2_code 10 = .ok (.dup, 1) := by decide +kernel
theorem d11_11 : decode method_2_code 11 = .ok (.iconst 0, 1) := by decide +kernel
theorem d11_12 : decode method_2_code 12 = .ok (.aload_n 2, 1) := by decide +kernel
theorem d11_13 : decode method_2_code 13 = .ok (.aastore, 1) := by decide +kernel
theorem d11_14 : decode method_2_code 14 = .ok (.dup, 1) := by decide +kernel
theorem d11_15 : decode method_2_code 15 = .ok (.iconst 1, 1) := by decide +kernel
theorem d11_16 : decode method_2_code 16 = .ok (.aload_n 3, 1) := by decide +kernel
theorem d11_17 : decode method_2_code 17 = .ok (.aastore, 1) := by decide +kernel
theorem d11_18 : decode method_2_code 18 = .ok (.invokevirtual 9, 3) := by decide +kernel
theorem d11_21 : decode method_2_code 21 = .ok (.goto 33, 3) := by decide +kernel
theorem d11_24 : decode method_2_code 24 = .ok (.iload_n 1, 1) := by decide +kernel
theorem d11_25 : decode method_2_code 25 = .ok (.iconst 2, 1) := by decide +kernel
theorem d11_26 : decode method_2_code 26 = .ok (.if_icmp .ne 10, 3) := by decide +kernel
theorem d11_29 : decode method_2_code 29 = .ok (.aload_n 0, 1) := by decide +kernel
theorem d11_30 : decode method_2_code 30 = .ok (.invokevirtual 15, 3) := by decide +kernel
theorem d11_33 : decode method_2_code 33 = .ok (.goto 21, 3) := by decide +kernel
theorem d11_36 : decode method_2_code 36 = .ok (.iload_n 1, 1) := by decide +kernel
theorem d11_37 : decode method_2_code 37 = .ok (.iconst 3, 1) := by decide +kernel
theorem d11_38 : decode method_2_code 38 = .ok (.if_icmp .ne 16, 3) := by decide +kernel
theorem d11_41 : decode method_2_code 41 = .ok (.aload_n 0, 1) := by decide +kernel
theorem d11_42 : decode method_2_code 42 = .ok (.iconst 1, 1) := by decide +kernel
theorem d11_43 : decode method_2_code 43 = .ok (.anewarray 7, 3) := by decide +kernel
theorem d11_46 : decode method_2_code 46 = .ok (.dup, 1) := by decide +kernel
theorem d11_47 : decode method_2_code 47 = .ok (.iconst 0, 1) := by decide +kernel
theorem d11_48 : decode method_2_code 48 = .ok (.aload 4, 2) := by decide +kernel
theorem d11_50 : decode method_2_code 50 = .ok (.aastore, 1) := by decide +kernel
theorem d11_51 : decode method_2_code 51 = .ok (.invokevirtual 9, 3) := by decide +kernel
theorem d11_54 : decode method_2_code 54 = .ok (.return_, 1) := by decide +kernel
theorem own_pn9 : plainName "com/example/ovrdue/ovrdue/command/RewriteTakePinLaw" = true := by first | (simp [plainName, overriddenIn]; done) | decide +kernel
def own_apply_Q (Z : State) (r : Addr) (op : Int32) (xa : Addr) (xb : Addr) (xc : Addr) (aM : Addr) (kk : Int32) (h0 : Heap) (n0 : Nat) (v : Option Value) (h : Heap) (L : List Loc) : Prop := v = none ∧ Fr n0 L ∧ Keep h0 h [r] ∧ own_Rw Z h r (if op = 0 then kk else op) xa xb xc aM
set_option maxRecDepth 65536 in
set_option maxHeartbeats 40000000 in
theorem own_apply (l : Launch) (Z : State) (a0 : Array Value) (hw : ∀ d ∈ tables_1, d.before a0 Z = true) (ws : List Jvm.Cond) (r : Addr) (op : Int32) (xa : Addr) (xb : Addr) (xc : Addr) (aM : Addr) (kk : Int32) (h0 : Heap) (n0 : Nat) (Z0 : n0 ≤ h0.size) (Rw : own_Rw Z h0 r kk xa xb xc aM) (Er : Exa Z h0 r "com/example/ovrdue/ovrdue/command/Rewrite") (gr : n0 ≤ r) (hop : op = 0 ∨ op = 1 ∨ op = 2 ∨ op = 3) (Ea : Exa Z h0 xa "[B") (Eb : Exa Z h0 xb "[B") (Ec : Exa Z h0 xc "[B") (nxa : xa ≠ r) (nxb : xb ≠ r) (nxc : xc ≠ r) (SE : Sta Z h0 "java/util/ImmutableCollections" "EMPTY" "Ljava/lang/Object;" (.ref aM)) :
    MetFree l (⟨"com/example/ovrdue/ovrdue/command/RewriteTakePinLaw", "apply", "(Lcom/example/ovrdue/ovrdue/command/Rewrite;I[B[B[B)V"⟩ : MethodName) (head1 (Jvm.Cond.code (⟨"com/example/ovrdue/ovrdue/command/RewriteTakePinLaw", "apply", "(Lcom/example/ovrdue/ovrdue/command/Rewrite;I[B[B[B)V"⟩ : MethodName) method_2_code 5 none :: ws) ({ frames := 7, cells := 2, slots := 4, locals := 90 } : Room)) (fun aa U0 => aa = #[(.ref r), (.int op), (.ref xa), (.ref xb), (.ref xc)] ∧ Z.Warmed39 U0.vm ∧ U0.heap = h0) (fun _ _ _ _ _ => True) (fun _ U0 o0 U1 => ∃ v0 L0, o0 = .returned v0 ∧ own_apply_Q Z r op xa xb xc aM kk h0 n0 v0 U1.heap L0 ∧ FrameEnd U0 o0 U1 L0 ({ frames := 7, cells := 2, slots := 4, locals := 90 } : Room).cells ({ frames := 7, cells := 2, slots := 4, locals := 90 } : Room).slots) := by
  refine MetFree.of_bodySF (plainFor_of_name own_pn9) hisR ?_
  intro p e s m args below meth c s₁ Bd hml0 hP hK
  obtain ⟨rfl, hZ, hh⟩ := hP
  have hx := Bd.exec
  have hby := Bd.bytes
  have hml : c.maxLocals = 5 := hml0
  have hown : s.vm.findClass "com/example/ovrdue/ovrdue/command/RewriteTakePinLaw" = some m.cls := findClass_of_methodNamed Bd.named
  have hnm := (name_of_methodNamed Bd.named Bd.method).1
  have X0 : Stand p l e ({ frames := 7, cells := 2, slots := 4, locals := 90 } : Room) s m #[(.ref r), (.int op), (.ref xa), (.ref xb), (.ref xc)] below meth c s₁ [] 0 0 := Stand.of_body Bd
  have e0 : s₁.heap = h0 := by rw [← hh, Bd.state]; rfl
  have N0 := Fr.nil n0
  show own_Go p e below s (own_apply_Q Z r op xa xb xc aM kk h0 n0) 2 4 s₁ (entryFrame m #[(.ref r), (.int op), (.ref xa), (.ref xb), (.ref xc)] 5)
  rw [show entryFrame m #[(.ref r), (.int op), (.ref xa), (.ref xb), (.ref xc)] 5 = mkF m 0 #[.val (.ref r), .val (.int op), .val (.ref xa), .val (.ref xb), .val (.ref xc)] [] from by first | (simp [entryFrame, mkF, argsToLocals, Value.category]; done) | rfl]
  obtain ⟨rc, nm, Frc, Fn, hk⟩ := Rw
  have Kp := Keep.refl h0 [r]
  refine own_st (T' := s₁) (g' := (mkF m 1 #[.val (.ref r), .val (.int op), .val (.ref xa), .val (.ref xb), .val (.ref xc)] [(.int op)])) (fun _ k => XS.iloadN X0.here hx rfl (hb hby d11_0) rfl k) ?_
  refine own_st (T' := s₁) (g' := (mkF m 2 #[.val (.ref r), .val (.int op), .val (.ref xa), .val (.ref xb), .val (.ref xc)] [(.int (1 : Int32)), (.int op)])) (fun _ k => XS.iconst X0.here hx rfl (hb hby d11_1) k) ?_
  by_cases q1 : op = (1 : Int32)
  · refine own_st (T' := s₁) (g' := (mkF m 5 #[.val (.ref r), .val (.int op), .val (.ref xa), .val (.ref xb), .val (.ref xc)] [])) (fun _ k => XS.icmpNo X0.here hx rfl (hb hby d11_2) rfl (Jvm.Free.XT.ii_ne_f q1) k) ?_
    refine own_st (T' := s₁) (g' := (mkF m 6 #[.val (.ref r), .val (.int op), .val (.ref xa), .val (.ref xb), .val (.ref xc)] [(.ref r)])) (fun _ k => XS.aloadN X0.here hx rfl (hb hby d11_5) rfl rfl k) ?_
    refine own_st (T' := s₁) (g' := (mkF m 7 #[.val (.ref r), .val (.int op), .val (.ref xa), .val (.ref xb), .val (.ref xc)] [(.int (2 : Int32)), (.ref r)])) (fun _ k => XS.iconst X0.here hx rfl (hb hby d11_6) k) ?_
    obtain ⟨T48, h48, k48, X48, e48, E48, A48, B48, O48, st48⟩ := newRA X0 hx hZ (ty := .byte) hown (by decide) (hw _ (List.mem_of_getElem? (i := 69) rfl)) (hw _ (List.mem_of_getElem? (i := 70) rfl)) e0 (g := (mkF m 7 #[.val (.ref r), .val (.int op), .val (.ref xa), .val (.ref xb), .val (.ref xc)] [(.int (2 : Int32)), (.ref r)])) rfl (hb hby d11_7) rfl (by decide) (cap := 2) (by decide) (by decide) (by decide) (by decide) (ad := "[[B") (by decide)
    obtain ⟨ar, gar⟩ : ∃ z, z = h0.size := ⟨_, rfl⟩
    rw [← gar] at A48 B48 st48
    have ne_r_ar : r ≠ ar := own_ne Frc.lt gar
    have ne_xa_ar : xa ≠ ar := own_ne Ea.lt gar
    have ne_xb_ar : xb ≠ ar := own_ne Eb.lt gar
    have ne_xc_ar : xc ≠ ar := own_ne Ec.lt gar
    have ge_ar : n0 ≤ ar := own_ge Z0 gar
    have sz_ar : h0.size ≤ ar := own_ge Kp.1 gar
    have Frc := Frc.ext E48
    have Fn := Fn.ext E48
    have Er := Er.ext E48
    have Ea := Ea.ext E48
    have Eb := Eb.ext E48
    have Ec := Ec.ext E48
    have SE := SE.ext E48
    have Z0' := Nat.le_trans Z0 E48.1
    have Kp := Kp.ext E48
    have V_ar := own_Av.new (n := 2) A48 rfl
    refine own_st (T' := T48) (g' := (mkF m 10 #[.val (.ref r), .val (.int op), .val (.ref xa), .val (.ref xb), .val (.ref xc)] [(.ref ar), (.ref r)])) st48 ?_
    refine own_st (T' := T48) (g' := (mkF m 11 #[.val (.ref r), .val (.int op), .val (.ref xa), .val (.ref xb), .val (.ref xc)] [(.ref ar), (.ref ar), (.ref r)])) (fun _ k => XS.dup X48.here hx rfl (hb hby d11_10) rfl rfl k) ?_
    refine own_st (T' := T48) (g' := (mkF m 12 #[.val (.ref r), .val (.int op), .val (.ref xa), .val (.ref xb), .val (.ref xc)] [(.int (0 : Int32)), (.ref ar), (.ref ar), (.ref r)])) (fun _ k => XS.iconst X48.here hx rfl (hb hby d11_11) k) ?_
    refine own_st (T' := T48) (g' := (mkF m 13 #[.val (.ref r), .val (.int op), .val (.ref xa), .val (.ref xb), .val (.ref xc)] [(.ref xa), (.int (0 : Int32)), (.ref ar), (.ref ar), (.ref r)])) (fun _ k => XS.aloadN X48.here hx rfl (hb hby d11_12) rfl rfl k) ?_
    obtain ⟨T49, h49, X49, e49, W49, V49, st49⟩ := own_stS X48 hx hZ e48 V_ar rfl (fun _ A0 q0 => Sto.ofVA A0 q0 O48 (Ins.self Ea)) (i := 0) (by decide) (by decide) (g := (mkF m 13 #[.val (.ref r), .val (.int op), .val (.ref xa), .val (.ref xb), .val (.ref xc)] [(.ref xa), (.int (0 : Int32)), (.ref ar), (.ref ar), (.ref r)])) rfl rfl (hb hby d11_13)
    have Frc := Frc.other W49 (Or.inl ne_r_ar)
    have Fn := Fn.other W49 (Or.inl ne_r_ar)
    have Er := Er.wr W49
    have Ea := Ea.wr W49
    have Eb := Eb.wr W49
    have Ec := Ec.wr W49
    have SE := SE.wr W49
    have Z0'' := Nat.le_trans Z0' (Keep.of_wr W49).1
    have Kp := Kp.wr W49 (Or.inr sz_ar)
    have N0' := Fr.snoc X49 N0 ge_ar
    have V_ar := V49
    refine own_st (T' := T49) (g' := (mkF m 14 #[.val (.ref r), .val (.int op), .val (.ref xa), .val (.ref xb), .val (.ref xc)] [(.ref ar), (.ref r)])) st49 ?_
    refine own_st (T' := T49) (g' := (mkF m 15 #[.val (.ref r), .val (.int op), .val (.ref xa), .val (.ref xb), .val (.ref xc)] [(.ref ar), (.ref ar), (.ref r)])) (fun _ k => XS.dup X49.here hx rfl (hb hby d11_14) rfl rfl k) ?_
    refine own_st (T' := T49) (g' := (mkF m 16 #[.val (.ref r), .val (.int op), .val (.ref xa), .val (.ref xb), .val (.ref xc)] [(.int (1 : Int32)), (.ref ar), (.ref ar), (.ref r)])) (fun _ k => XS.iconst X49.here hx rfl (hb hby d11_15) k) ?_
    refine own_st (T' := T49) (g' := (mkF m 17 #[.val (.ref r), .val (.int op), .val (.ref xa), .val (.ref xb), .val (.ref xc)] [(.ref xb), (.int (1 : Int32)), (.ref ar), (.ref ar), (.ref r)])) (fun _ k => XS.aloadN X49.here hx rfl (hb hby d11_16) rfl rfl k) ?_
    obtain ⟨T50, h50, X50, e50, W50, V50, st50⟩ := own_stS X49 hx hZ e49 V_ar rfl (fun _ A0 q0 => Sto.ofVA A0 q0 O48 (Ins.self Eb)) (i := 1) (by decide) (by decide) (g := (mkF m 17 #[.val (.ref r), .val (.int op), .val (.ref xa), .val (.ref xb), .val (.ref xc)] [(.ref xb), (.int (1 : Int32)), (.ref ar), (.ref ar), (.ref r)])) rfl rfl (hb hby d11_17)
    have Frc := Frc.other W50 (Or.inl ne_r_ar)
    have Fn := Fn.other W50 (Or.inl ne_r_ar)
    have Er := Er.wr W50
    have Ea := Ea.wr W50
    have Eb := Eb.wr W50
    have Ec := Ec.wr W50
    have SE := SE.wr W50
    have Z0''' := Nat.le_trans Z0'' (Keep.of_wr W50).1
    have Kp := Kp.wr W50 (Or.inr sz_ar)
    have N0'' := Fr.snoc X50 N0' ge_ar
    have V_ar := V50
    refine own_st (T' := T50) (g' := (mkF m 18 #[.val (.ref r), .val (.int op), .val (.ref xa), .val (.ref xb), .val (.ref xc)] [(.ref ar), (.ref r)])) st50 ?_
    obtain ⟨cq51, kq51, q51a, q51b, q51c⟩ := isOf hZ e50 Er
    obtain ⟨_, _, ⟨T51, L51, k51, n51⟩, -, X51, ⟨Lc51, hQ51, l51, y51, z51⟩, st51⟩ := X50.virtualBack hx (y := (⟨"com/example/ovrdue/ovrdue/command/Rewrite", "as", "([[B)V"⟩ : MethodName)) (z := (⟨"com/example/ovrdue/ovrdue/command/Rewrite", "as", "([[B)V"⟩ : MethodName)) hown (mvT hZ (hw _ (List.mem_of_getElem? (i := 72) rfl))) (mvT hZ (hw _ (List.mem_of_getElem? (i := 73) rfl))) (notFace_of_selects (args := #[]) (mvT hZ (hw _ (List.mem_of_getElem? (i := 75) rfl)))) (mvT hZ (hw _ (List.mem_of_getElem? (i := 75) rfl))) (mvT hZ (hw _ (List.mem_of_getElem? (i := 74) rfl))) (by decide) (backOf (W := 0) (own_as2 l Z a0 hw [] r ar k48 (fun q => if q = 1 then (.ref xb) else (fun q => if q = 0 then (.ref xa) else (fun _ => defaultValue (.array .byte)) q) q) xa xb rc nm h50 n0 Z0''' Frc Fn Er gr V_ar (Ne.symm ne_r_ar) (by simp) (by simp)) hZ (hw _ (List.mem_of_getElem? (i := 76) rfl)) (hw _ (List.mem_of_getElem? (i := 60) rfl)) (by decide) (by decide)) q51a q51c (g := (mkF m 18 #[.val (.ref r), .val (.int op), .val (.ref xa), .val (.ref xb), .val (.ref xc)] [(.ref ar), (.ref r)])) rfl (by rw [hml]; rfl) (Steps.refl _) (argsL := [(.ref ar)]) (rest := []) (lenOf own_pd9 rfl) rfl (by show 2 * 0 + _ ≤ _; exact Nat.le_of_eq rfl) (hb hby d11_18) (fun _ _ => ⟨rfl, e50, (by decide : (0 + 1) + 1 ≤ _), (by decide : (0 + 2) + 2 ≤ _)⟩)
    dsimp only [Pt.U, Pt.locs, Pt.cells, Pt.slots] at X51 l51 y51 z51 st51 hQ51
    subst l51 y51 z51
    obtain ⟨rfl, N51q, K51, Fn, u, nu, Frc, Eu, F0, F1⟩ := hQ51
    have N0''' := Fr.app N0'' N51q
    have Er := Er.keep K51
    have Ea := Ea.keep K51
    have Eb := Eb.keep K51
    have Ec := Ec.keep K51
    have V_ar := V_ar.keep K51 (ninS (Ne.symm ne_r_ar) nin0)
    have Z0'''' := Nat.le_trans Z0''' K51.1
    have Kp := Kp.trans K51 (allS (P := fun x => x ∈ [r] ∨ h0.size ≤ x) (Or.inl (List.mem_of_getElem? (i := 0) rfl)) all0)
    refine own_tr (T' := T51) (g' := (mkF m 21 #[.val (.ref r), .val (.int op), .val (.ref xa), .val (.ref xb), .val (.ref xc)] [])) st51 ?_
    refine own_st (T' := T51) (g' := (mkF m 54 #[.val (.ref r), .val (.int op), .val (.ref xa), .val (.ref xb), .val (.ref xc)] [])) (fun _ k => XS.goto X51.here hx rfl (pc0 := 21) (pc' := 54) rfl (hb hby d11_21) (by decide) (by decide) k) ?_
    exact own_ret0 X51 hx Bd.returns Bd.notSynchronized rfl (hb hby d11_54) ⟨rfl, N0''', Kp, _, _, Frc, Fn, Or.inr ⟨rfl, Or.inl ⟨by simp [q1], u, nu, rfl, Eu, F0, F1⟩⟩⟩ (by decide) (by decide)
  · refine own_st (T' := s₁) (g' := (mkF m 24 #[.val (.ref r), .val (.int op), .val (.ref xa), .val (.ref xb), .val (.ref xc)] [])) (fun _ k => XS.icmpYes X0.here hx rfl (pc0 := 2) (pc' := 24) rfl (hb hby d11_2) rfl (Jvm.Free.XT.ii_ne_t q1) (by decide) (by decide) k) ?_
    refine own_st (T' := s₁) (g' := (mkF m 25 #[.val (.ref r), .val (.int op), .val (.ref xa), .val (.ref xb), .val (.ref xc)] [(.int op)])) (fun _ k => XS.iloadN X0.here hx rfl (hb hby d11_24) rfl k) ?_
    refine own_st (T' := s₁) (g' := (mkF m 26 #[.val (.ref r), .val (.int op), .val (.ref xa), .val (.ref xb), .val (.ref xc)] [(.int (2 : Int32)), (.int op)])) (fun _ k => XS.iconst X0.here hx rfl (hb hby d11_25) k) ?_
    by_cases q2 : op = (2 : Int32)
    · refine own_st (T' := s₁) (g' := (mkF m 29 #[.val (.ref r), .val (.int op), .val (.ref xa), .val (.ref xb), .val (.ref xc)] [])) (fun _ k => XS.icmpNo X0.here hx rfl (hb hby d11_26) rfl (Jvm.Free.XT.ii_ne_f q2) k) ?_
      refine own_st (T' := s₁) (g' := (mkF m 30 #[.val (.ref r), .val (.int op), .val (.ref xa), .val (.ref xb), .val (.ref xc)] [(.ref r)])) (fun _ k => XS.aloadN X0.here hx rfl (hb hby d11_29) rfl rfl k) ?_
      obtain ⟨cq52, kq52, q52a, q52b, q52c⟩ := isOf hZ e0 Er
      obtain ⟨_, _, ⟨T52, L52, k52, n52⟩, -, X52, ⟨Lc52, hQ52, l52, y52, z52⟩, st52⟩ := X0.virtualBack hx (y := (⟨"com/example/ovrdue/ovrdue/command/Rewrite", "asNothing", "()V"⟩ : MethodName)) (z := (⟨"com/example/ovrdue/ovrdue/command/Rewrite", "asNothing", "()V"⟩ : MethodName)) hown (mvT hZ (hw _ (List.mem_of_getElem? (i := 141) rfl))) (mvT hZ (hw _ (List.mem_of_getElem? (i := 142) rfl))) (notFace_of_selects (args := #[]) (mvT hZ (hw _ (List.mem_of_getElem? (i := 144) rfl)))) (mvT hZ (hw _ (List.mem_of_getElem? (i := 144) rfl))) (mvT hZ (hw _ (List.mem_of_getElem? (i := 143) rfl))) (by decide) (backOf (W := 0) (own_asn l Z a0 hw [] r rc nm h0 n0 Z0 Frc Fn Er gr) hZ (hw _ (List.mem_of_getElem? (i := 145) rfl)) (hw _ (List.mem_of_getElem? (i := 60) rfl)) (by decide) (by decide)) q52a q52c (g := (mkF m 30 #[.val (.ref r), .val (.int op), .val (.ref xa), .val (.ref xb), .val (.ref xc)] [(.ref r)])) rfl (by rw [hml]; rfl) (Steps.refl _) (argsL := []) (rest := []) (lenOf own_pd0 rfl) rfl (by show 2 * 0 + _ ≤ _; exact Nat.le_of_eq rfl) (hb hby d11_30) (fun _ _ => ⟨rfl, e0, (by decide : 0 + 0 ≤ _), (by decide : 0 + 0 ≤ _)⟩)
      dsimp only [Pt.U, Pt.locs, Pt.cells, Pt.slots] at X52 l52 y52 z52 st52 hQ52
      subst l52 y52 z52
      obtain ⟨rfl, N52q, K52, Fn, Frc⟩ := hQ52
      have N0' := Fr.app N0 N52q
      have Er := Er.keep K52
      have Ea := Ea.keep K52
      have Eb := Eb.keep K52
      have Ec := Ec.keep K52
      have Z0' := Nat.le_trans Z0 K52.1
      have Kp := Kp.trans K52 (allS (P := fun x => x ∈ [r] ∨ h0.size ≤ x) (Or.inl (List.mem_of_getElem? (i := 0) rfl)) all0)
      refine own_tr (T' := T52) (g' := (mkF m 33 #[.val (.ref r), .val (.int op), .val (.ref xa), .val (.ref xb), .val (.ref xc)] [])) st52 ?_
      refine own_st (T' := T52) (g' := (mkF m 54 #[.val (.ref r), .val (.int op), .val (.ref xa), .val (.ref xb), .val (.ref xc)] [])) (fun _ k => XS.goto X52.here hx rfl (pc0 := 33) (pc' := 54) rfl (hb hby d11_33) (by decide) (by decide) k) ?_
      exact own_ret0 X52 hx Bd.returns Bd.notSynchronized rfl (hb hby d11_54) ⟨rfl, N0', Kp, _, _, Frc, Fn, Or.inr ⟨rfl, Or.inr (Or.inl ⟨by simp [q2], rfl⟩)⟩⟩ (by decide) (by decide)
    · refine own_st (T' := s₁) (g' := (mkF m 36 #[.val (.ref r), .val (.int op), .val (.ref xa), .val (.ref xb), .val (.ref xc)] [])) (fun _ k => XS.icmpYes X0.here hx rfl (pc0 := 26) (pc' := 36) rfl (hb hby d11_26) rfl (Jvm.Free.XT.ii_ne_t q2) (by decide) (by decide) k) ?_
      refine own_st (T' := s₁) (g' := (mkF m 37 #[.val (.ref r), .val (.int op), .val (.ref xa), .val (.ref xb), .val (.ref xc)] [(.int op)])) (fun _ k => XS.iloadN X0.here hx rfl (hb hby d11_36) rfl k) ?_
      refine own_st (T' := s₁) (g' := (mkF m 38 #[.val (.ref r), .val (.int op), .val (.ref xa), .val (.ref xb), .val (.ref xc)] [(.int (3 : Int32)), (.int op)])) (fun _ k => XS.iconst X0.here hx rfl (hb hby d11_37) k) ?_
      by_cases q3 : op = (3 : Int32)
      · refine own_st (T' := s₁) (g' := (mkF m 41 #[.val (.ref r), .val (.int op), .val (.ref xa), .val (.ref xb), .val (.ref xc)] [])) (fun _ k => XS.icmpNo X0.here hx rfl (hb hby d11_38) rfl (Jvm.Free.XT.ii_ne_f q3) k) ?_
        refine own_st (T' := s₁) (g' := (mkF m 42 #[.val (.ref r), .val (.int op), .val (.ref xa), .val (.ref xb), .val (.ref xc)] [(.ref r)])) (fun _ k => XS.aloadN X0.here hx rfl (hb hby d11_41) rfl rfl k) ?_
        refine own_st (T' := s₁) (g' := (mkF m 43 #[.val (.ref r), .val (.int op), .val (.ref xa), .val (.ref xb), .val (.ref xc)] [(.int (1 : Int32)), (.ref r)])) (fun _ k => XS.iconst X0.here hx rfl (hb hby d11_42) k) ?_
        obtain ⟨T53, h53, k53, X53, e53, E53, A53, B53, O53, st53⟩ := newRA X0 hx hZ (ty := .byte) hown (by decide) (hw _ (List.mem_of_getElem? (i := 69) rfl)) (hw _ (List.mem_of_getElem? (i := 70) rfl)) e0 (g := (mkF m 43 #[.val (.ref r), .val (.int op), .val (.ref xa), .val (.ref xb), .val (.ref xc)] [(.int (1 : Int32)), (.ref r)])) rfl (hb hby d11_43) rfl (by decide) (cap := 1) (by decide) (by decide) (by decide) (by decide) (ad := "[[B") (by decide)
        obtain ⟨ar, gar⟩ : ∃ z, z = h0.size := ⟨_, rfl⟩
        rw [← gar] at A53 B53 st53
        have ne_r_ar : r ≠ ar := own_ne Frc.lt gar
        have ne_xa_ar : xa ≠ ar := own_ne Ea.lt gar
        have ne_xb_ar : xb ≠ ar := own_ne Eb.lt gar
        have ne_xc_ar : xc ≠ ar := own_ne Ec.lt gar
        have ge_ar : n0 ≤ ar := own_ge Z0 gar
        have sz_ar : h0.size ≤ ar := own_ge Kp.1 gar
        have Frc := Frc.ext E53
        have Fn := Fn.ext E53
        have Er := Er.ext E53
        have Ea := Ea.ext E53
        have Eb := Eb.ext E53
        have Ec := Ec.ext E53
        have SE := SE.ext E53
        have Z0' := Nat.le_trans Z0 E53.1
        have Kp := Kp.ext E53
        have V_ar := own_Av.new (n := 1) A53 rfl
        refine own_st (T' := T53) (g' := (mkF m 46 #[.val (.ref r), .val (.int op), .val (.ref xa), .val (.ref xb), .val (.ref xc)] [(.ref ar), (.ref r)])) st53 ?_
        refine own_st (T' := T53) (g' := (mkF m 47 #[.val (.ref r), .val (.int op), .val (.ref xa), .val (.ref xb), .val (.ref xc)] [(.ref ar), (.ref ar), (.ref r)])) (fun _ k => XS.dup X53.here hx rfl (hb hby d11_46) rfl rfl k) ?_
        refine own_st (T' := T53) (g' := (mkF m 48 #[.val (.ref r), .val (.int op), .val (.ref xa), .val (.ref xb), .val (.ref xc)] [(.int (0 : Int32)), (.ref ar), (.ref ar), (.ref r)])) (fun _ k => XS.iconst X53.here hx rfl (hb hby d11_47) k) ?_
        refine own_st (T' := T53) (g' := (mkF m 50 #[.val (.ref r), .val (.int op), .val (.ref xa), .val (.ref xb), .val (.ref xc)] [(.ref xc), (.int (0 : Int32)), (.ref ar), (.ref ar), (.ref r)])) (fun _ k => XS.aload X53.here hx rfl (hb hby d11_48) rfl rfl k) ?_
        obtain ⟨T54, h54, X54, e54, W54, V54, st54⟩ := own_stS X53 hx hZ e53 V_ar rfl (fun _ A0 q0 => Sto.ofVA A0 q0 O53 (Ins.self Ec)) (i := 0) (by decide) (by decide) (g := (mkF m 50 #[.val (.ref r), .val (.int op), .val (.ref xa), .val (.ref xb), .val (.ref xc)] [(.ref xc), (.int (0 : Int32)), (.ref ar), (.ref ar), (.ref r)])) rfl rfl (hb hby d11_50)
        have Frc := Frc.other W54 (Or.inl ne_r_ar)
        have Fn := Fn.other W54 (Or.inl ne_r_ar)
        have Er := Er.wr W54
        have Ea := Ea.wr W54
        have Eb := Eb.wr W54
        have Ec := Ec.wr W54
        have SE := SE.wr W54
        have Z0'' := Nat.le_trans Z0' (Keep.of_wr W54).1
        have Kp := Kp.wr W54 (Or.inr sz_ar)
        have N0' := Fr.snoc X54 N0 ge_ar
        have V_ar := V54
        refine own_st (T' := T54) (g' := (mkF m 51 #[.val (.ref r), .val (.int op), .val (.ref xa), .val (.ref xb), .val (.ref xc)] [(.ref ar), (.ref r)])) st54 ?_
        obtain ⟨cq55, kq55, q55a, q55b, q55c⟩ := isOf hZ e54 Er
        obtain ⟨_, _, ⟨T55, L55, k55, n55⟩, -, X55, ⟨Lc55, hQ55, l55, y55, z55⟩, st55⟩ := X54.virtualBack hx (y := (⟨"com/example/ovrdue/ovrdue/command/Rewrite", "as", "([[B)V"⟩ : MethodName)) (z := (⟨"com/example/ovrdue/ovrdue/command/Rewrite", "as", "([[B)V"⟩ : MethodName)) hown (mvT hZ (hw _ (List.mem_of_getElem? (i := 72) rfl))) (mvT hZ (hw _ (List.mem_of_getElem? (i := 73) rfl))) (notFace_of_selects (args := #[]) (mvT hZ (hw _ (List.mem_of_getElem? (i := 75) rfl)))) (mvT hZ (hw _ (List.mem_of_getElem? (i := 75) rfl))) (mvT hZ (hw _ (List.mem_of_getElem? (i := 74) rfl))) (by decide) (backOf (W := 0) (own_as1 l Z a0 hw [] r ar k53 (fun q => if q = 0 then (.ref xc) else (fun _ => defaultValue (.array .byte)) q) xc aM rc nm h54 n0 Z0'' Frc Fn Er gr V_ar (Ne.symm ne_r_ar) (by simp) SE) hZ (hw _ (List.mem_of_getElem? (i := 76) rfl)) (hw _ (List.mem_of_getElem? (i := 60) rfl)) (by decide) (by decide)) q55a q55c (g := (mkF m 51 #[.val (.ref r), .val (.int op), .val (.ref xa), .val (.ref xb), .val (.ref xc)] [(.ref ar), (.ref r)])) rfl (by rw [hml]; rfl) (Steps.refl _) (argsL := [(.ref ar)]) (rest := []) (lenOf own_pd9 rfl) rfl (by show 2 * 0 + _ ≤ _; exact Nat.le_of_eq rfl) (hb hby d11_51) (fun _ _ => ⟨rfl, e54, (by decide : (0 + 1) + 1 ≤ _), (by decide : (0 + 1) + 2 ≤ _)⟩)
        dsimp only [Pt.U, Pt.locs, Pt.cells, Pt.slots] at X55 l55 y55 z55 st55 hQ55
        subst l55 y55 z55
        obtain ⟨rfl, N55q, K55, Fn, u, nu, Frc, Eu, F0, F1⟩ := hQ55
        have N0'' := Fr.app N0' N55q
        have Er := Er.keep K55
        have Ea := Ea.keep K55
        have Eb := Eb.keep K55
        have Ec := Ec.keep K55
        have V_ar := V_ar.keep K55 (ninS (Ne.symm ne_r_ar) nin0)
        have Z0''' := Nat.le_trans Z0'' K55.1
        have Kp := Kp.trans K55 (allS (P := fun x => x ∈ [r] ∨ h0.size ≤ x) (Or.inl (List.mem_of_getElem? (i := 0) rfl)) all0)
        refine own_tr (T' := T55) (g' := (mkF m 54 #[.val (.ref r), .val (.int op), .val (.ref xa), .val (.ref xb), .val (.ref xc)] [])) st55 ?_
        exact own_ret0 X55 hx Bd.returns Bd.notSynchronized rfl (hb hby d11_54) ⟨rfl, N0'', Kp, _, _, Frc, Fn, Or.inr ⟨rfl, Or.inr (Or.inr ⟨by simp [q3], u, nu, rfl, Eu, F0, F1⟩)⟩⟩ (by decide) (by decide)
      · refine own_st (T' := s₁) (g' := (mkF m 54 #[.val (.ref r), .val (.int op), .val (.ref xa), .val (.ref xb), .val (.ref xc)] [])) (fun _ k => XS.icmpYes X0.here hx rfl (pc0 := 38) (pc' := 54) rfl (hb hby d11_38) rfl (Jvm.Free.XT.ii_ne_t q3) (by decide) (by decide) k) ?_
        exact own_ret0 X0 hx Bd.returns Bd.notSynchronized e0 (hb hby d11_54) ⟨rfl, N0, Kp, rc, nm, Frc, Fn, by rcases hop with u | u | u | u; rw [if_pos u]; exact hk; exact absurd u q1; exact absurd u q2; exact absurd u q3⟩ (by decide) (by decide)
theorem d18_0 : decode prog_4_method_4_code 0 = .ok (.aload_n 0, 1) := by decide +kernel
theorem d18_1 : decode prog_4_method_4_code 1 = .ok (.getfield 19, 3) := by decide +kernel
theorem d18_4 : decode prog_4_method_4_code 4 = .ok (.ifCond .eq 10, 3) := by decide +kernel
theorem d18_7 : decode prog_4_method_4_code 7 = .ok (.aload_n 0, 1) := by decide +kernel
theorem d18_8 : decode prog_4_method_4_code 8 = .ok (.getfield 13, 3) := by decide +kernel
theorem d18_11 : decode prog_4_method_4_code 11 = .ok (.goto 4, 3) := by decide +kernel
theorem d18_14 : decode prog_4_method_4_code 14 = .ok (.aload_n 1, 1) := by decide +kernel
theorem d18_15 : decode prog_4_method_4_code 15 = .ok (.astore_n 2, 1) := by decide +kernel
theorem d18_16 : decode prog_4_method_4_code 16 = .ok (.aload_n 0, 1) := by decide +kernel
theorem d18_17 : decode prog_4_method_4_code 17 = .ok (.aconst_null, 1) := by decide +kernel
theorem d18_18 : decode prog_4_method_4_code 18 = .ok (.putfield 13, 3) := by decide +kernel
theorem d18_21 : decode prog_4_method_4_code 21 = .ok (.aload_n 0, 1) := by decide +kernel
theorem d18_22 : decode prog_4_method_4_code 22 = .ok (.iconst 0, 1) := by decide +kernel
theorem d18_23 : decode prog_4_method_4_code 23 = .ok (.putfield 19, 3) := by decide +kernel
theorem d18_26 : decode prog_4_method_4_code 26 = .ok (.aload_n 2, 1) := by decide +kernel
theorem d18_27 : decode prog_4_method_4_code 27 = .ok (.areturn, 1) := by decide +kernel
def own_take_Q (Z : State) (r : Addr) (q : Addr) (xa : Addr) (xb : Addr) (xc : Addr) (aM : Addr) (kk : Int32) (h0 : Heap) (n0 : Nat) (v : Option Value) (h : Heap) (L : List Loc) : Prop := ∃ w, v = some w ∧ Fr n0 L ∧ Keep h0 h [r] ∧ w.isRef = true ∧ own_Rw Z h r 0 xa xb xc aM ∧ ((kk = 0 ∧ w = .ref q) ∨ own_Rc Z h r w kk xa xb xc aM)
set_option maxRecDepth 65536 in
set_option maxHeartbeats 40000000 in
theorem own_take (l : Launch) (Z : State) (a0 : Array Value) (hw : ∀ d ∈ tables_1, d.before a0 Z = true) (ws : List Jvm.Cond) (r : Addr) (q : Addr) (xa : Addr) (xb : Addr) (xc : Addr) (aM : Addr) (kk : Int32) (h0 : Heap) (n0 : Nat) (Z0 : n0 ≤ h0.size) (Rw : own_Rw Z h0 r kk xa xb xc aM) (Er : Exa Z h0 r "com/example/ovrdue/ovrdue/command/Rewrite") (gr : n0 ≤ r) :
    MetFree l (⟨"com/example/ovrdue/ovrdue/command/Rewrite", "take", "(Ljava/util/List;)Ljava/util/List;"⟩ : MethodName) (head1 (Jvm.Cond.code (⟨"com/example/ovrdue/ovrdue/command/Rewrite", "take", "(Ljava/util/List;)Ljava/util/List;"⟩ : MethodName) prog_4_method_4_code 3 (some (.object "java/util/List")) :: ws) ({ frames := 0, cells := 0, slots := 0, locals := 0 } : Room)) (fun aa U0 => aa = #[(.ref r), (.ref q)] ∧ Z.Warmed39 U0.vm ∧ U0.heap = h0) (fun _ _ _ _ _ => True) (fun _ U0 o0 U1 => ∃ v0 L0, o0 = .returned v0 ∧ own_take_Q Z r q xa xb xc aM kk h0 n0 v0 U1.heap L0 ∧ FrameEnd U0 o0 U1 L0 ({ frames := 0, cells := 0, slots := 0, locals := 0 } : Room).cells ({ frames := 0, cells := 0, slots := 0, locals := 0 } : Room).slots) := by
  refine MetFree.of_bodySF (plainFor_of_name own_pn8) hisR ?_
  intro p e s m args below meth c s₁ Bd hml0 hP hK
  obtain ⟨rfl, hZ, hh⟩ := hP
  have hx := Bd.exec
  have hby := Bd.bytes
  have hml : c.maxLocals = 3 := hml0
  have hown : s.vm.findClass "com/example/ovrdue/ovrdue/command/Rewrite" = some m.cls := findClass_of_methodNamed Bd.named
  have hnm := (name_of_methodNamed Bd.named Bd.method).1
  have X0 : Stand p l e ({ frames := 0, cells := 0, slots := 0, locals := 0 } : Room) s m #[(.ref r), (.ref q)] below meth c s₁ [] 0 0 := Stand.of_body Bd
  have e0 : s₁.heap = h0 := by rw [← hh, Bd.state]; rfl
  have N0 := Fr.nil n0
  show own_Go p e below s (own_take_Q Z r q xa xb xc aM kk h0 n0) 0 0 s₁ (entryFrame m #[(.ref r), (.ref q)] 3)
  rw [show entryFrame m #[(.ref r), (.ref q)] 3 = mkF m 0 #[.val (.ref r), .val (.ref q), .unset] [] from by first | (simp [entryFrame, mkF, argsToLocals, Value.category]; done) | rfl]
  obtain ⟨rc, nm, Frc, Fn, hk⟩ := Rw
  have Kp := Keep.refl h0 [r]
  rcases hk with ⟨hk0, hnm⟩ | ⟨hnm, hk⟩
  · subst hnm
    refine own_st (T' := s₁) (g' := (mkF m 1 #[.val (.ref r), .val (.ref q), .unset] [(.ref r)])) (fun _ k => XS.aloadN X0.here hx rfl (hb hby d18_0) rfl rfl k) ?_
    obtain ⟨T56, X56, e56, st56⟩ := getF X0 hx hZ hown (host := "") (Or.inl (hw _ (List.mem_of_getElem? (i := 114) rfl))) Via.refl e0 Fn (g := (mkF m 1 #[.val (.ref r), .val (.ref q), .unset] [(.ref r)])) rfl rfl (hb hby d18_1)
    refine own_st (T' := T56) (g' := (mkF m 4 #[.val (.ref r), .val (.ref q), .unset] [(.int (0 : Int32))])) st56 ?_
    refine own_st (T' := T56) (g' := (mkF m 14 #[.val (.ref r), .val (.ref q), .unset] [])) (fun _ k => XS.ifYes X56.here hx rfl (pc0 := 4) (pc' := 14) rfl (hb hby d18_4) rfl (Jvm.Free.XT.i0_eq_t (by decide)) (by decide) (by decide) k) ?_
    refine own_st (T' := T56) (g' := (mkF m 15 #[.val (.ref r), .val (.ref q), .unset] [(.ref q)])) (fun _ k => XS.aloadN X56.here hx rfl (hb hby d18_14) rfl rfl k) ?_
    refine own_st (T' := T56) (g' := (mkF m 16 #[.val (.ref r), .val (.ref q), .val (.ref q)] [])) (fun _ k => XS.astoreN X56.here hx rfl (hb hby d18_15) rfl rfl (l' := #[.val (.ref r), .val (.ref q), .val (.ref q)]) rfl k) ?_
    refine own_st (T' := T56) (g' := (mkF m 17 #[.val (.ref r), .val (.ref q), .val (.ref q)] [(.ref r)])) (fun _ k => XS.aloadN X56.here hx rfl (hb hby d18_16) rfl rfl k) ?_
    refine own_st (T' := T56) (g' := (mkF m 18 #[.val (.ref r), .val (.ref q), .val (.ref q)] [.null, (.ref r)])) (fun _ k => XS.aconstNull X56.here hx rfl (hb hby d18_17) k) ?_
    obtain ⟨T57, h57, X57, e57, W57, st57⟩ := putF X56 hx hZ hown (host := "") (Or.inl (hw _ (List.mem_of_getElem? (i := 112) rfl))) Via.refl e56 Frc Er (Or.inl (hw _ (List.mem_of_getElem? (i := 113) rfl))) (hw _ (List.mem_of_getElem? (i := 59) rfl)) (ty := (.object "java/util/List")) (by decide) rfl rfl (g := (mkF m 18 #[.val (.ref r), .val (.ref q), .val (.ref q)] [.null, (.ref r)])) rfl rfl (hb hby d18_18)
    have Fn := Fn.other W57 (Or.inr (slot_ne (Or.inl (hw _ (List.mem_of_getElem? (i := 115) rfl))) (Or.inl (hw _ (List.mem_of_getElem? (i := 113) rfl))) (by decide) (t := .boolean) (t' := (.object "java/util/List")) (by decide) (by decide)))
    have Er := Er.wr W57
    have Z0' := Nat.le_trans Z0 (Keep.of_wr W57).1
    have Kp := Kp.wr W57 (Or.inl (List.mem_of_getElem? (i := 0) rfl))
    have N0' := Fr.snoc X57 N0 gr
    have Frc := Frc.same W57
    refine own_st (T' := T57) (g' := (mkF m 21 #[.val (.ref r), .val (.ref q), .val (.ref q)] [])) st57 ?_
    refine own_st (T' := T57) (g' := (mkF m 22 #[.val (.ref r), .val (.ref q), .val (.ref q)] [(.ref r)])) (fun _ k => XS.aloadN X57.here hx rfl (hb hby d18_21) rfl rfl k) ?_
    refine own_st (T' := T57) (g' := (mkF m 23 #[.val (.ref r), .val (.ref q), .val (.ref q)] [(.int (0 : Int32)), (.ref r)])) (fun _ k => XS.iconst X57.here hx rfl (hb hby d18_22) k) ?_
    obtain ⟨T58, h58, X58, e58, W58, st58⟩ := putFN X57 hx hZ hown (hw _ (List.mem_of_getElem? (i := 114) rfl)) Via.refl e57 Fn Er (Or.inl (hw _ (List.mem_of_getElem? (i := 115) rfl))) (hw _ (List.mem_of_getElem? (i := 59) rfl)) (ty := .boolean) (v' := (.int (0 : Int32))) (by decide) rfl rfl (g := (mkF m 23 #[.val (.ref r), .val (.ref q), .val (.ref q)] [(.int (0 : Int32)), (.ref r)])) rfl rfl (hb hby d18_23)
    have Frc := Frc.other W58 (Or.inr (slot_ne (Or.inl (hw _ (List.mem_of_getElem? (i := 113) rfl))) (Or.inl (hw _ (List.mem_of_getElem? (i := 115) rfl))) (by decide) (t := (.object "java/util/List")) (t' := .boolean) (by decide) (by decide)))
    have Er := Er.wr W58
    have Z0'' := Nat.le_trans Z0' (Keep.of_wr W58).1
    have Kp := Kp.wr W58 (Or.inl (List.mem_of_getElem? (i := 0) rfl))
    have N0'' := Fr.snoc X58 N0' gr
    have Fn := Fn.same W58
    refine own_st (T' := T58) (g' := (mkF m 26 #[.val (.ref r), .val (.ref q), .val (.ref q)] [])) st58 ?_
    refine own_st (T' := T58) (g' := (mkF m 27 #[.val (.ref r), .val (.ref q), .val (.ref q)] [(.ref q)])) (fun _ k => XS.aloadN X58.here hx rfl (hb hby d18_26) rfl rfl k) ?_
    exact own_retR X58 hx Bd.returns Bd.notSynchronized e58 rfl rfl (hb hby d18_27) ⟨_, rfl, N0'', Kp, rfl, ⟨_, _, Frc, Fn, Or.inl ⟨rfl, rfl⟩⟩, Or.inl ⟨hk0, rfl⟩⟩ (by decide) (by decide)
  · subst hnm
    have hrc := hk.ref
    refine own_st (T' := s₁) (g' := (mkF m 1 #[.val (.ref r), .val (.ref q), .unset] [(.ref r)])) (fun _ k => XS.aloadN X0.here hx rfl (hb hby d18_0) rfl rfl k) ?_
    obtain ⟨T59, X59, e59, st59⟩ := getF X0 hx hZ hown (host := "") (Or.inl (hw _ (List.mem_of_getElem? (i := 114) rfl))) Via.refl e0 Fn (g := (mkF m 1 #[.val (.ref r), .val (.ref q), .unset] [(.ref r)])) rfl rfl (hb hby d18_1)
    refine own_st (T' := T59) (g' := (mkF m 4 #[.val (.ref r), .val (.ref q), .unset] [(.int (1 : Int32))])) st59 ?_
    refine own_st (T' := T59) (g' := (mkF m 7 #[.val (.ref r), .val (.ref q), .unset] [])) (fun _ k => XS.ifNo X59.here hx rfl (hb hby d18_4) rfl (Jvm.Free.XT.i0_eq_f (by decide)) k) ?_
    refine own_st (T' := T59) (g' := (mkF m 8 #[.val (.ref r), .val (.ref q), .unset] [(.ref r)])) (fun _ k => XS.aloadN X59.here hx rfl (hb hby d18_7) rfl rfl k) ?_
    obtain ⟨T60, X60, e60, st60⟩ := getF X59 hx hZ hown (host := "") (Or.inl (hw _ (List.mem_of_getElem? (i := 112) rfl))) Via.refl e59 Frc (g := (mkF m 8 #[.val (.ref r), .val (.ref q), .unset] [(.ref r)])) rfl rfl (hb hby d18_8)
    refine own_st (T' := T60) (g' := (mkF m 11 #[.val (.ref r), .val (.ref q), .unset] [rc])) st60 ?_
    refine own_st (T' := T60) (g' := (mkF m 15 #[.val (.ref r), .val (.ref q), .unset] [rc])) (fun _ k => XS.goto X60.here hx rfl (pc0 := 11) (pc' := 15) rfl (hb hby d18_11) (by decide) (by decide) k) ?_
    refine own_st (T' := T60) (g' := (mkF m 16 #[.val (.ref r), .val (.ref q), .val rc] [])) (fun _ k => XS.astoreN X60.here hx rfl (hb hby d18_15) rfl hrc (l' := #[.val (.ref r), .val (.ref q), .val rc]) (own_store1 hrc rfl (Or.inl rfl)) k) ?_
    refine own_st (T' := T60) (g' := (mkF m 17 #[.val (.ref r), .val (.ref q), .val rc] [(.ref r)])) (fun _ k => XS.aloadN X60.here hx rfl (hb hby d18_16) rfl rfl k) ?_
    refine own_st (T' := T60) (g' := (mkF m 18 #[.val (.ref r), .val (.ref q), .val rc] [.null, (.ref r)])) (fun _ k => XS.aconstNull X60.here hx rfl (hb hby d18_17) k) ?_
    obtain ⟨T61, h61, X61, e61, W61, st61⟩ := putF X60 hx hZ hown (host := "") (Or.inl (hw _ (List.mem_of_getElem? (i := 112) rfl))) Via.refl e60 Frc Er (Or.inl (hw _ (List.mem_of_getElem? (i := 113) rfl))) (hw _ (List.mem_of_getElem? (i := 59) rfl)) (ty := (.object "java/util/List")) (by decide) rfl rfl (g := (mkF m 18 #[.val (.ref r), .val (.ref q), .val rc] [.null, (.ref r)])) rfl rfl (hb hby d18_18)
    have Fn := Fn.other W61 (Or.inr (slot_ne (Or.inl (hw _ (List.mem_of_getElem? (i := 115) rfl))) (Or.inl (hw _ (List.mem_of_getElem? (i := 113) rfl))) (by decide) (t := .boolean) (t' := (.object "java/util/List")) (by decide) (by decide)))
    have Er := Er.wr W61
    have Z0' := Nat.le_trans Z0 (Keep.of_wr W61).1
    have Kp := Kp.wr W61 (Or.inl (List.mem_of_getElem? (i := 0) rfl))
    have N0' := Fr.snoc X61 N0 gr
    have Frc := Frc.same W61
    refine own_st (T' := T61) (g' := (mkF m 21 #[.val (.ref r), .val (.ref q), .val rc] [])) st61 ?_
    refine own_st (T' := T61) (g' := (mkF m 22 #[.val (.ref r), .val (.ref q), .val rc] [(.ref r)])) (fun _ k => XS.aloadN X61.here hx rfl (hb hby d18_21) rfl rfl k) ?_
    refine own_st (T' := T61) (g' := (mkF m 23 #[.val (.ref r), .val (.ref q), .val rc] [(.int (0 : Int32)), (.ref r)])) (fun _ k => XS.iconst X61.here hx rfl (hb hby d18_22) k) ?_
    obtain ⟨T62, h62, X62, e62, W62, st62⟩ := putFN X61 hx hZ hown (hw _ (List.mem_of_getElem? (i := 114) rfl)) Via.refl e61 Fn Er (Or.inl (hw _ (List.mem_of_getElem? (i := 115) rfl))) (hw _ (List.mem_of_getElem? (i := 59) rfl)) (ty := .boolean) (v' := (.int (0 : Int32))) (by decide) rfl rfl (g := (mkF m 23 #[.val (.ref r), .val (.ref q), .val rc] [(.int (0 : Int32)), (.ref r)])) rfl rfl (hb hby d18_23)
    have Frc := Frc.other W62 (Or.inr (slot_ne (Or.inl (hw _ (List.mem_of_getElem? (i := 113) rfl))) (Or.inl (hw _ (List.mem_of_getElem? (i := 115) rfl))) (by decide) (t := (.object "java/util/List")) (t' := .boolean) (by decide) (by decide)))
    have Er := Er.wr W62
    have Z0'' := Nat.le_trans Z0' (Keep.of_wr W62).1
    have Kp := Kp.wr W62 (Or.inl (List.mem_of_getElem? (i := 0) rfl))
    have N0'' := Fr.snoc X62 N0' gr
    have Fn := Fn.same W62
    refine own_st (T' := T62) (g' := (mkF m 26 #[.val (.ref r), .val (.ref q), .val rc] [])) st62 ?_
    refine own_st (T' := T62) (g' := (mkF m 27 #[.val (.ref r), .val (.ref q), .val rc] [rc])) (fun _ k => XS.aloadN X62.here hx rfl (hb hby d18_26) rfl hrc k) ?_
    exact own_retR X62 hx Bd.returns Bd.notSynchronized e62 rfl hrc (hb hby d18_27) ⟨_, rfl, N0'', Kp, hrc, ⟨_, _, Frc, Fn, Or.inl ⟨rfl, rfl⟩⟩, Or.inr (hk.keep Kp)⟩ (by decide) (by decide)
theorem d20_0 : decode jdk_44_method_3_code 0 = .ok (.aload_n 0, 1) := by decide +kernel
theorem d20_1 : decode jdk_44_method_3_code 1 = .ok (.getfield 24, 3) := by decide +kernel
theorem d20_4 : decode jdk_44_method_3_code 4 = .ok (.getstatic 19, 3) := by decide +kernel
theorem d20_7 : decode jdk_44_method_3_code 7 = .ok (.if_acmp .eq 7, 3) := by decide +kernel
theorem d20_10 : decode jdk_44_method_3_code 10 = .ok (.iconst 2, 1) := by decide +kernel
theorem d20_11 : decode jdk_44_method_3_code 11 = .ok (.goto 4, 3) := by decide +kernel
theorem d20_14 : decode jdk_44_method_3_code 14 = .ok (.iconst 1, 1) := by decide +kernel
theorem d20_15 : decode jdk_44_method_3_code 15 = .ok (.ireturn, 1) := by decide +kernel
def own_size_Q (Z : State) (u : Addr) (y : Addr) (aM : Addr) (h0 : Heap) (n0 : Nat) (v : Option Value) (h : Heap) (L : List Loc) : Prop := v = some (.int (if y = aM then 1 else 2)) ∧ Fr n0 L ∧ h = h0
set_option maxRecDepth 65536 in
set_option maxHeartbeats 40000000 in
theorem own_size (l : Launch) (Z : State) (a0 : Array Value) (hw : ∀ d ∈ tables_1, d.before a0 Z = true) (ws : List Jvm.Cond) (u : Addr) (y : Addr) (aM : Addr) (h0 : Heap) (n0 : Nat) (Z0 : n0 ≤ h0.size) (F1 : Fld Z h0 u "java/util/ImmutableCollections$List12" "e1" "Ljava/lang/Object;" (.ref y)) (SE : Sta Z h0 "java/util/ImmutableCollections" "EMPTY" "Ljava/lang/Object;" (.ref aM)) :
    MetFree l (⟨"java/util/ImmutableCollections$List12", "size", "()I"⟩ : MethodName) (head1 (Jvm.Cond.code (⟨"java/util/ImmutableCollections$List12", "size", "()I"⟩ : MethodName) jdk_44_method_3_code 1 (some .int) :: ws) ({ frames := 0, cells := 0, slots := 0, locals := 0 } : Room)) (fun aa U0 => aa = #[(.ref u)] ∧ Z.Warmed39 U0.vm ∧ U0.heap = h0) (fun _ _ _ _ _ => True) (fun _ U0 o0 U1 => ∃ v0 L0, o0 = .returned v0 ∧ own_size_Q Z u y aM h0 n0 v0 U1.heap L0 ∧ FrameEnd U0 o0 U1 L0 ({ frames := 0, cells := 0, slots := 0, locals := 0 } : Room).cells ({ frames := 0, cells := 0, slots := 0, locals := 0 } : Room).slots) := by
  refine MetFree.of_bodySF (plainFor_of_name own_pn6) hisR ?_
  intro p e s m args below meth c s₁ Bd hml0 hP hK
  obtain ⟨rfl, hZ, hh⟩ := hP
  have hx := Bd.exec
  have hby := Bd.bytes
  have hml : c.maxLocals = 1 := hml0
  have hown : s.vm.findClass "java/util/ImmutableCollections$List12" = some m.cls := findClass_of_methodNamed Bd.named
  have hnm := (name_of_methodNamed Bd.named Bd.method).1
  have X0 : Stand p l e ({ frames := 0, cells := 0, slots := 0, locals := 0 } : Room) s m #[(.ref u)] below meth c s₁ [] 0 0 := Stand.of_body Bd
  have e0 : s₁.heap = h0 := by rw [← hh, Bd.state]; rfl
  have N0 := Fr.nil n0
  show own_Go p e below s (own_size_Q Z u y aM h0 n0) 0 0 s₁ (entryFrame m #[(.ref u)] 1)
  rw [show entryFrame m #[(.ref u)] 1 = mkF m 0 #[.val (.ref u)] [] from by first | (simp [entryFrame, mkF, argsToLocals, Value.category]; done) | rfl]
  refine own_st (T' := s₁) (g' := (mkF m 1 #[.val (.ref u)] [(.ref u)])) (fun _ k => XS.aloadN X0.here hx rfl (hb hby d20_0) rfl rfl k) ?_
  obtain ⟨T63, X63, e63, st63⟩ := getF X0 hx hZ hown (host := "") (Or.inl (hw _ (List.mem_of_getElem? (i := 110) rfl))) Via.refl e0 F1 (g := (mkF m 1 #[.val (.ref u)] [(.ref u)])) rfl rfl (hb hby d20_1)
  refine own_st (T' := T63) (g' := (mkF m 4 #[.val (.ref u)] [(.ref y)])) st63 ?_
  obtain ⟨T64, X64, e64, st64⟩ := getS2 X63 hx hZ hown (Or.inr (hw _ (List.mem_of_getElem? (i := 108) rfl))) Via.refl e63 SE (g := (mkF m 4 #[.val (.ref u)] [(.ref y)])) rfl (hb hby d20_4)
  refine own_st (T' := T64) (g' := (mkF m 7 #[.val (.ref u)] [(.ref aM), (.ref y)])) st64 ?_
  by_cases q1 : ((.ref y) : Value) = (.ref aM)
  · refine own_st (T' := T64) (g' := (mkF m 14 #[.val (.ref u)] [])) (fun _ k => Jvm.Free.XT.acmpYes X64.here hx rfl (pc0 := 7) (pc' := 14) rfl (hb hby d20_7) rfl rfl rfl (Jvm.Free.XT.aa_eq_t q1) (by decide) (by decide) k) ?_
    refine own_st (T' := T64) (g' := (mkF m 15 #[.val (.ref u)] [(.int (1 : Int32))])) (fun _ k => XS.iconst X64.here hx rfl (hb hby d20_14) k) ?_
    exact own_retI X64 hx Bd.returns Bd.notSynchronized e64 (hb hby d20_15) ⟨by simp at q1; simp [q1], N0, rfl⟩ (by decide) (by decide)
  · refine own_st (T' := T64) (g' := (mkF m 10 #[.val (.ref u)] [])) (fun _ k => Jvm.Free.XT.acmpNo X64.here hx rfl (hb hby d20_7) rfl rfl rfl (Jvm.Free.XT.aa_eq_f q1) k) ?_
    refine own_st (T' := T64) (g' := (mkF m 11 #[.val (.ref u)] [(.int (2 : Int32))])) (fun _ k => XS.iconst X64.here hx rfl (hb hby d20_10) k) ?_
    refine own_st (T' := T64) (g' := (mkF m 15 #[.val (.ref u)] [(.int (2 : Int32))])) (fun _ k => XS.goto X64.here hx rfl (pc0 := 11) (pc' := 15) rfl (hb hby d20_11) (by decide) (by decide) k) ?_
    exact own_retI X64 hx Bd.returns Bd.notSynchronized e64 (hb hby d20_15) ⟨by simp at q1; simp [q1], N0, rfl⟩ (by decide) (by decide)
theorem d21_0 : decode jdk_44_method_5_code 0 = .ok (.iload_n 1, 1) := by decide +kernel
theorem d21_1 : decode jdk_44_method_5_code 1 = .ok (.ifCond .ne 8, 3) := by decide +kernel
theorem d21_4 : decode jdk_44_method_5_code 4 = .ok (.aload_n 0, 1) := by decide +kernel
theorem d21_5 : decode jdk_44_method_5_code 5 = .ok (.getfield 13, 3) := by decide +kernel
theorem d21_8 : decode jdk_44_method_5_code 8 = .ok (.areturn, 1) := by decide +kernel
def own_get0_Q (Z : State) (u : Addr) (x : Addr) (h0 : Heap) (n0 : Nat) (v : Option Value) (h : Heap) (L : List Loc) : Prop := v = some (.ref x) ∧ Fr n0 L ∧ h = h0
set_option maxRecDepth 65536 in
set_option maxHeartbeats 40000000 in
theorem own_get0 (l : Launch) (Z : State) (a0 : Array Value) (hw : ∀ d ∈ tables_1, d.before a0 Z = true) (ws : List Jvm.Cond) (u : Addr) (x : Addr) (h0 : Heap) (n0 : Nat) (Z0 : n0 ≤ h0.size) (F0 : Fld Z h0 u "java/util/ImmutableCollections$List12" "e0" "Ljava/lang/Object;" (.ref x)) :
    MetFree l (⟨"java/util/ImmutableCollections$List12", "get", "(I)Ljava/lang/Object;"⟩ : MethodName) (head1 (Jvm.Cond.code (⟨"java/util/ImmutableCollections$List12", "get", "(I)Ljava/lang/Object;"⟩ : MethodName) jdk_44_method_5_code 2 (some (.object "java/lang/Object")) :: ws) ({ frames := 0, cells := 0, slots := 0, locals := 0 } : Room)) (fun aa U0 => aa = #[(.ref u), (.int (0 : Int32))] ∧ Z.Warmed39 U0.vm ∧ U0.heap = h0) (fun _ _ _ _ _ => True) (fun _ U0 o0 U1 => ∃ v0 L0, o0 = .returned v0 ∧ own_get0_Q Z u x h0 n0 v0 U1.heap L0 ∧ FrameEnd U0 o0 U1 L0 ({ frames := 0, cells := 0, slots := 0, locals := 0 } : Room).cells ({ frames := 0, cells := 0, slots := 0, locals := 0 } : Room).slots) := by
  refine MetFree.of_bodySF (plainFor_of_name own_pn6) hisR ?_
  intro p e s m args below meth c s₁ Bd hml0 hP hK
  obtain ⟨rfl, hZ, hh⟩ := hP
  have hx := Bd.exec
  have hby := Bd.bytes
  have hml : c.maxLocals = 2 := hml0
  have hown : s.vm.findClass "java/util/ImmutableCollections$List12" = some m.cls := findClass_of_methodNamed Bd.named
  have hnm := (name_of_methodNamed Bd.named Bd.method).1
  have X0 : Stand p l e ({ frames := 0, cells := 0, slots := 0, locals := 0 } : Room) s m #[(.ref u), (.int (0 : Int32))] below meth c s₁ [] 0 0 := Stand.of_body Bd
  have e0 : s₁.heap = h0 := by rw [← hh, Bd.state]; rfl
  have N0 := Fr.nil n0
  show own_Go p e below s (own_get0_Q Z u x h0 n0) 0 0 s₁ (entryFrame m #[(.ref u), (.int (0 : Int32))] 2)
  rw [show entryFrame m #[(.ref u), (.int (0 : Int32))] 2 = mkF m 0 #[.val (.ref u), .val (.int (0 : Int32))] [] from by first | (simp [entryFrame, mkF, argsToLocals, Value.category]; done) | rfl]
  refine own_st (T' := s₁) (g' := (mkF m 1 #[.val (.ref u), .val (.int (0 : Int32))] [(.int (0 : Int32))])) (fun _ k => XS.iloadN X0.here hx rfl (hb hby d21_0) rfl k) ?_
  refine own_st (T' := s₁) (g' := (mkF m 4 #[.val (.ref u), .val (.int (0 : Int32))] [])) (fun _ k => XS.ifNo X0.here hx rfl (hb hby d21_1) rfl (Jvm.Free.XT.i0_ne_f rfl) k) ?_
  refine own_st (T' := s₁) (g' := (mkF m 5 #[.val (.ref u), .val (.int (0 : Int32))] [(.ref u)])) (fun _ k => XS.aloadN X0.here hx rfl (hb hby d21_4) rfl rfl k) ?_
  obtain ⟨T65, X65, e65, st65⟩ := getF X0 hx hZ hown (host := "") (Or.inl (hw _ (List.mem_of_getElem? (i := 106) rfl))) Via.refl e0 F0 (g := (mkF m 5 #[.val (.ref u), .val (.int (0 : Int32))] [(.ref u)])) rfl rfl (hb hby d21_5)
  refine own_st (T' := T65) (g' := (mkF m 8 #[.val (.ref u), .val (.int (0 : Int32))] [(.ref x)])) st65 ?_
  exact own_retR X65 hx Bd.returns Bd.notSynchronized e65 rfl rfl (hb hby d21_8) ⟨rfl, N0, rfl⟩ (by decide) (by decide)
theorem d21_9 : decode jdk_44_method_5_code 9 = .ok (.iload_n 1, 1) := by decide +kernel
theorem d21_10 : decode jdk_44_method_5_code 10 = .ok (.iconst 1, 1) := by decide +kernel
theorem d21_11 : decode jdk_44_method_5_code 11 = .ok (.if_icmp .ne 18, 3) := by decide +kernel
theorem d21_14 : decode jdk_44_method_5_code 14 = .ok (.aload_n 0, 1) := by decide +kernel
theorem d21_15 : decode jdk_44_method_5_code 15 = .ok (.getfield 24, 3) := by decide +kernel
theorem d21_18 : decode jdk_44_method_5_code 18 = .ok (.getstatic 19, 3) := by decide +kernel
theorem d21_21 : decode jdk_44_method_5_code 21 = .ok (.if_acmp .eq 8, 3) := by decide +kernel
theorem d21_24 : decode jdk_44_method_5_code 24 = .ok (.aload_n 0, 1) := by decide +kernel
theorem d21_25 : decode jdk_44_method_5_code 25 = .ok (.getfield 24, 3) := by decide +kernel
theorem d21_28 : decode jdk_44_method_5_code 28 = .ok (.areturn, 1) := by decide +kernel
def own_get1_Q (Z : State) (u : Addr) (y : Addr) (aM : Addr) (h0 : Heap) (n0 : Nat) (v : Option Value) (h : Heap) (L : List Loc) : Prop := v = some (.ref y) ∧ Fr n0 L ∧ h = h0
set_option maxRecDepth 65536 in
set_option maxHeartbeats 40000000 in
theorem own_get1 (l : Launch) (Z : State) (a0 : Array Value) (hw : ∀ d ∈ tables_1, d.before a0 Z = true) (ws : List Jvm.Cond) (u : Addr) (y : Addr) (aM : Addr) (h0 : Heap) (n0 : Nat) (Z0 : n0 ≤ h0.size) (F1 : Fld Z h0 u "java/util/ImmutableCollections$List12" "e1" "Ljava/lang/Object;" (.ref y)) (SE : Sta Z h0 "java/util/ImmutableCollections" "EMPTY" "Ljava/lang/Object;" (.ref aM)) (ny : y ≠ aM) :
    MetFree l (⟨"java/util/ImmutableCollections$List12", "get", "(I)Ljava/lang/Object;"⟩ : MethodName) (head1 (Jvm.Cond.code (⟨"java/util/ImmutableCollections$List12", "get", "(I)Ljava/lang/Object;"⟩ : MethodName) jdk_44_method_5_code 2 (some (.object "java/lang/Object")) :: ws) ({ frames := 0, cells := 0, slots := 0, locals := 0 } : Room)) (fun aa U0 => aa = #[(.ref u), (.int (1 : Int32))] ∧ Z.Warmed39 U0.vm ∧ U0.heap = h0) (fun _ _ _ _ _ => True) (fun _ U0 o0 U1 => ∃ v0 L0, o0 = .returned v0 ∧ own_get1_Q Z u y aM h0 n0 v0 U1.heap L0 ∧ FrameEnd U0 o0 U1 L0 ({ frames := 0, cells := 0, slots := 0, locals := 0 } : Room).cells ({ frames := 0, cells := 0, slots := 0, locals := 0 } : Room).slots) := by
  refine MetFree.of_bodySF (plainFor_of_name own_pn6) hisR ?_
  intro p e s m args below meth c s₁ Bd hml0 hP hK
  obtain ⟨rfl, hZ, hh⟩ := hP
  have hx := Bd.exec
  have hby := Bd.bytes
  have hml : c.maxLocals = 2 := hml0
  have hown : s.vm.findClass "java/util/ImmutableCollections$List12" = some m.cls := findClass_of_methodNamed Bd.named
  have hnm := (name_of_methodNamed Bd.named Bd.method).1
  have X0 : Stand p l e ({ frames := 0, cells := 0, slots := 0, locals := 0 } : Room) s m #[(.ref u), (.int (1 : Int32))] below meth c s₁ [] 0 0 := Stand.of_body Bd
  have e0 : s₁.heap = h0 := by rw [← hh, Bd.state]; rfl
  have N0 := Fr.nil n0
  show own_Go p e below s (own_get1_Q Z u y aM h0 n0) 0 0 s₁ (entryFrame m #[(.ref u), (.int (1 : Int32))] 2)
  rw [show entryFrame m #[(.ref u), (.int (1 : Int32))] 2 = mkF m 0 #[.val (.ref u), .val (.int (1 : Int32))] [] from by first | (simp [entryFrame, mkF, argsToLocals, Value.category]; done) | rfl]
  refine own_st (T' := s₁) (g' := (mkF m 1 #[.val (.ref u), .val (.int (1 : Int32))] [(.int (1 : Int32))])) (fun _ k => XS.iloadN X0.here hx rfl (hb hby d21_0) rfl k) ?_
  refine own_st (T' := s₁) (g' := (mkF m 9 #[.val (.ref u), .val (.int (1 : Int32))] [])) (fun _ k => XS.ifYes X0.here hx rfl (pc0 := 1) (pc' := 9) rfl (hb hby d21_1) rfl (Jvm.Free.XT.i0_ne_t (by decide)) (by decide) (by decide) k) ?_
  refine own_st (T' := s₁) (g' := (mkF m 10 #[.val (.ref u), .val (.int (1 : Int32))] [(.int (1 : Int32))])) (fun _ k => XS.iloadN X0.here hx rfl (hb hby d21_9) rfl k) ?_
  refine own_st (T' := s₁) (g' := (mkF m 11 #[.val (.ref u), .val (.int (1 : Int32))] [(.int (1 : Int32)), (.int (1 : Int32))])) (fun _ k => XS.iconst X0.here hx rfl (hb hby d21_10) k) ?_
  refine own_st (T' := s₁) (g' := (mkF m 14 #[.val (.ref u), .val (.int (1 : Int32))] [])) (fun _ k => XS.icmpNo X0.here hx rfl (hb hby d21_11) rfl (Jvm.Free.XT.ii_ne_f rfl) k) ?_
  refine own_st (T' := s₁) (g' := (mkF m 15 #[.val (.ref u), .val (.int (1 : Int32))] [(.ref u)])) (fun _ k => XS.aloadN X0.here hx rfl (hb hby d21_14) rfl rfl k) ?_
  obtain ⟨T66, X66, e66, st66⟩ := getF X0 hx hZ hown (host := "") (Or.inl (hw _ (List.mem_of_getElem? (i := 110) rfl))) Via.refl e0 F1 (g := (mkF m 15 #[.val (.ref u), .val (.int (1 : Int32))] [(.ref u)])) rfl rfl (hb hby d21_15)
  refine own_st (T' := T66) (g' := (mkF m 18 #[.val (.ref u), .val (.int (1 : Int32))] [(.ref y)])) st66 ?_
  obtain ⟨T67, X67, e67, st67⟩ := getS2 X66 hx hZ hown (Or.inr (hw _ (List.mem_of_getElem? (i := 108) rfl))) Via.refl e66 SE (g := (mkF m 18 #[.val (.ref u), .val (.int (1 : Int32))] [(.ref y)])) rfl (hb hby d21_18)
  refine own_st (T' := T67) (g' := (mkF m 21 #[.val (.ref u), .val (.int (1 : Int32))] [(.ref aM), (.ref y)])) st67 ?_
  refine own_st (T' := T67) (g' := (mkF m 24 #[.val (.ref u), .val (.int (1 : Int32))] [])) (fun _ k => Jvm.Free.XT.acmpNo X67.here hx rfl (hb hby d21_21) rfl rfl rfl (Jvm.Free.XT.aa_eq_f (fun q => ny (Value.ref.inj q))) k) ?_
  refine own_st (T' := T67) (g' := (mkF m 25 #[.val (.ref u), .val (.int (1 : Int32))] [(.ref u)])) (fun _ k => XS.aloadN X67.here hx rfl (hb hby d21_24) rfl rfl k) ?_
  obtain ⟨T68, X68, e68, st68⟩ := getF X67 hx hZ hown (host := "") (Or.inl (hw _ (List.mem_of_getElem? (i := 110) rfl))) Via.refl e67 F1 (g := (mkF m 25 #[.val (.ref u), .val (.int (1 : Int32))] [(.ref u)])) rfl rfl (hb hby d21_25)
  refine own_st (T' := T68) (g' := (mkF m 28 #[.val (.ref u), .val (.int (1 : Int32))] [(.ref y)])) st68 ?_
  exact own_retR X68 hx Bd.returns Bd.notSynchronized e68 rfl rfl (hb hby d21_28) ⟨rfl, N0, rfl⟩ (by decide) (by decide)
theorem own_pd10 : parseMethodDescriptor "()I" = some ⟨[], some .int⟩ := by decide +kernel
theorem own_pd11 : parseMethodDescriptor "(I)Ljava/lang/Object;" = some ⟨[.int], some (.object "java/lang/Object")⟩ := by decide +kernel
theorem d19_0 : decode method_3_code 0 = .ok (.iload_n 1, 1) := by decide +kernel
theorem d19_1 : decode method_3_code 1 = .ok (.ifCond .ne 14, 3) := by decide +kernel
theorem d19_4 : decode method_3_code 4 = .ok (.aload_n 0, 1) := by decide +kernel
theorem d19_5 : decode method_3_code 5 = .ok (.aload_n 2, 1) := by decide +kernel
theorem d19_6 : decode method_3_code 6 = .ok (.if_acmp .ne 7, 3) := by decide +kernel
theorem d19_9 : decode method_3_code 9 = .ok (.iconst 1, 1) := by decide +kernel
theorem d19_10 : decode method_3_code 10 = .ok (.goto 4, 3) := by decide +kernel
theorem d19_14 : decode method_3_code 14 = .ok (.ireturn, 1) := by decide +kernel
theorem d19_15 : decode method_3_code 15 = .ok (.iload_n 1, 1) := by decide +kernel
theorem d19_16 : decode method_3_code 16 = .ok (.iconst 2, 1) := by decide +kernel
theorem d19_17 : decode method_3_code 17 = .ok (.if_icmp .ne 13, 3) := by decide +kernel
theorem d19_20 : decode method_3_code 20 = .ok (.aload_n 0, 1) := by decide +kernel
theorem d19_21 : decode method_3_code 21 = .ok (.ifnonnull 7, 3) := by decide +kernel
theorem d19_24 : decode method_3_code 24 = .ok (.iconst 1, 1) := by decide +kernel
theorem d19_25 : decode method_3_code 25 = .ok (.goto 4, 3) := by decide +kernel
theorem d19_29 : decode method_3_code 29 = .ok (.ireturn, 1) := by decide +kernel
theorem d19_30 : decode method_3_code 30 = .ok (.iload_n 1, 1) := by decide +kernel
theorem d19_31 : decode method_3_code 31 = .ok (.iconst 1, 1) := by decide +kernel
theorem d19_32 : decode method_3_code 32 = .ok (.if_icmp .ne 46, 3) := by decide +kernel
theorem d19_35 : decode method_3_code 35 = .ok (.aload_n 0, 1) := by decide +kernel
theorem d19_36 : decode method_3_code 36 = .ok (.ifnull 40, 3) := by decide +kernel
theorem d19_39 : decode method_3_code 39 = .ok (.aload_n 0, 1) := by decide +kernel
theorem d19_40 : decode method_3_code 40 = .ok (.invokeinterface 18 1, 5) := by decide +kernel
theorem d19_45 : decode method_3_code 45 = .ok (.iconst 2, 1) := by decide +kernel
theorem d19_46 : decode method_3_code 46 = .ok (.if_icmp .ne 30, 3) := by decide +kernel
theorem d19_49 : decode method_3_code 49 = .ok (.aload_n 0, 1) := by decide +kernel
theorem d19_50 : decode method_3_code 50 = .ok (.iconst 0, 1) := by decide +kernel
theorem d19_51 : decode method_3_code 51 = .ok (.invokeinterface 24 2, 5) := by decide +kernel
theorem d19_56 : decode method_3_code 56 = .ok (.aload_n 3, 1) := by decide +kernel
theorem d19_57 : decode method_3_code 57 = .ok (.if_acmp .ne 19, 3) := by decide +kernel
theorem d19_60 : decode method_3_code 60 = .ok (.aload_n 0, 1) := by decide +kernel
theorem d19_61 : decode method_3_code 61 = .ok (.iconst 1, 1) := by decide +kernel
theorem d19_62 : decode method_3_code 62 = .ok (.invokeinterface 24 2, 5) := by decide +kernel
theorem d19_67 : decode method_3_code 67 = .ok (.aload 4, 2) := by decide +kernel
theorem d19_69 : decode method_3_code 69 = .ok (.if_acmp .ne 7, 3) := by decide +kernel
theorem d19_72 : decode method_3_code 72 = .ok (.iconst 1, 1) := by decide +kernel
theorem d19_73 : decode method_3_code 73 = .ok (.goto 4, 3) := by decide +kernel
theorem d19_77 : decode method_3_code 77 = .ok (.ireturn, 1) := by decide +kernel
theorem d19_78 : decode method_3_code 78 = .ok (.aload_n 0, 1) := by decide +kernel
theorem d19_79 : decode method_3_code 79 = .ok (.ifnull 29, 3) := by decide +kernel
theorem d19_82 : decode method_3_code 82 = .ok (.aload_n 0, 1) := by decide +kernel
theorem d19_83 : decode method_3_code 83 = .ok (.invokeinterface 18 1, 5) := by decide +kernel
theorem d19_88 : decode method_3_code 88 = .ok (.iconst 1, 1) := by decide +kernel
theorem d19_89 : decode method_3_code 89 = .ok (.if_icmp .ne 19, 3) := by decide +kernel
theorem d19_92 : decode method_3_code 92 = .ok (.aload_n 0, 1) := by decide +kernel
theorem d19_93 : decode method_3_code 93 = .ok (.iconst 0, 1) := by decide +kernel
theorem d19_94 : decode method_3_code 94 = .ok (.invokeinterface 24 2, 5) := by decide +kernel
theorem d19_99 : decode method_3_code 99 = .ok (.aload 5, 2) := by decide +kernel
theorem d19_101 : decode method_3_code 101 = .ok (.if_acmp .ne 7, 3) := by decide +kernel
theorem d19_104 : decode method_3_code 104 = .ok (.iconst 1, 1) := by decide +kernel
theorem d19_105 : decode method_3_code 105 = .ok (.goto 4, 3) := by decide +kernel
theorem d19_109 : decode method_3_code 109 = .ok (.ireturn, 1) := by decide +kernel
def own_check_Q (Z : State) (wv : Value) (op : Int32) (q : Addr) (r : Addr) (xa : Addr) (xb : Addr) (xc : Addr) (aM : Addr) (h0 : Heap) (n0 : Nat) (v : Option Value) (h : Heap) (L : List Loc) : Prop := v = some (.int 1) ∧ Fr n0 L ∧ h = h0
set_option maxRecDepth 65536 in
set_option maxHeartbeats 40000000 in
theorem own_check (l : Launch) (Z : State) (a0 : Array Value) (hw : ∀ d ∈ tables_1, d.before a0 Z = true) (ws : List Jvm.Cond) (wv : Value) (op : Int32) (q : Addr) (r : Addr) (xa : Addr) (xb : Addr) (xc : Addr) (aM : Addr) (h0 : Heap) (n0 : Nat) (Z0 : n0 ≤ h0.size) (hwv : wv.isRef = true) (hT : (op = 0 ∧ wv = .ref q) ∨ own_Rc Z h0 r wv op xa xb xc aM) (nb : xb ≠ aM) (SE : Sta Z h0 "java/util/ImmutableCollections" "EMPTY" "Ljava/lang/Object;" (.ref aM)) :
    MetFree l (⟨"com/example/ovrdue/ovrdue/command/RewriteTakePinLaw", "check", "(Ljava/util/List;ILjava/util/List;[B[B[B)Z"⟩ : MethodName) (head1 (Jvm.Cond.code (⟨"com/example/ovrdue/ovrdue/command/RewriteTakePinLaw", "check", "(Ljava/util/List;ILjava/util/List;[B[B[B)Z"⟩ : MethodName) method_3_code 6 (some .boolean) :: ws) ({ frames := 1, cells := 0, slots := 0, locals := 13 } : Room)) (fun aa U0 => aa = #[wv, (.int op), (.ref q), (.ref xa), (.ref xb), (.ref xc)] ∧ Z.Warmed39 U0.vm ∧ U0.heap = h0) (fun _ _ _ _ _ => True) (fun _ U0 o0 U1 => ∃ v0 L0, o0 = .returned v0 ∧ own_check_Q Z wv op q r xa xb xc aM h0 n0 v0 U1.heap L0 ∧ FrameEnd U0 o0 U1 L0 ({ frames := 1, cells := 0, slots := 0, locals := 13 } : Room).cells ({ frames := 1, cells := 0, slots := 0, locals := 13 } : Room).slots) := by
  refine MetFree.of_bodySF (plainFor_of_name own_pn9) hisR ?_
  intro p e s m args below meth c s₁ Bd hml0 hP hK
  obtain ⟨rfl, hZ, hh⟩ := hP
  have hx := Bd.exec
  have hby := Bd.bytes
  have hml : c.maxLocals = 6 := hml0
  have hown : s.vm.findClass "com/example/ovrdue/ovrdue/command/RewriteTakePinLaw" = some m.cls := findClass_of_methodNamed Bd.named
  have hnm := (name_of_methodNamed Bd.named Bd.method).1
  have X0 : Stand p l e ({ frames := 1, cells := 0, slots := 0, locals := 13 } : Room) s m #[wv, (.int op), (.ref q), (.ref xa), (.ref xb), (.ref xc)] below meth c s₁ [] 0 0 := Stand.of_body Bd
  have e0 : s₁.heap = h0 := by rw [← hh, Bd.state]; rfl
  have N0 := Fr.nil n0
  show own_Go p e below s (own_check_Q Z wv op q r xa xb xc aM h0 n0) 0 0 s₁ (entryFrame m #[wv, (.int op), (.ref q), (.ref xa), (.ref xb), (.ref xc)] 6)
  rw [show entryFrame m #[wv, (.int op), (.ref q), (.ref xa), (.ref xb), (.ref xc)] 6 = mkF m 0 #[.val wv, .val (.int op), .val (.ref q), .val (.ref xa), .val (.ref xb), .val (.ref xc)] [] from by (rcases ref_cases hwv with rfl | ⟨_, rfl⟩) <;> first | (simp [entryFrame, mkF, argsToLocals, Value.category]; done) | rfl]
  rcases hT with ⟨hk, rfl⟩ | ⟨hk, u, nu, rfl, Eu, F0, F1⟩ | ⟨hk, rfl⟩ | ⟨hk, u, nu, rfl, Eu, F0, F1⟩
  · subst hk
    refine own_st (T' := s₁) (g' := (mkF m 1 #[.val (.ref q), .val (.int (0 : Int32)), .val (.ref q), .val (.ref xa), .val (.ref xb), .val (.ref xc)] [(.int (0 : Int32))])) (fun _ k => XS.iloadN X0.here hx rfl (hb hby d19_0) rfl k) ?_
    refine own_st (T' := s₁) (g' := (mkF m 4 #[.val (.ref q), .val (.int (0 : Int32)), .val (.ref q), .val (.ref xa), .val (.ref xb), .val (.ref xc)] [])) (fun _ k => XS.ifNo X0.here hx rfl (hb hby d19_1) rfl (Jvm.Free.XT.i0_ne_f rfl) k) ?_
    refine own_st (T' := s₁) (g' := (mkF m 5 #[.val (.ref q), .val (.int (0 : Int32)), .val (.ref q), .val (.ref xa), .val (.ref xb), .val (.ref xc)] [(.ref q)])) (fun _ k => XS.aloadN X0.here hx rfl (hb hby d19_4) rfl rfl k) ?_
    refine own_st (T' := s₁) (g' := (mkF m 6 #[.val (.ref q), .val (.int (0 : Int32)), .val (.ref q), .val (.ref xa), .val (.ref xb), .val (.ref xc)] [(.ref q), (.ref q)])) (fun _ k => XS.aloadN X0.here hx rfl (hb hby d19_5) rfl rfl k) ?_
    refine own_st (T' := s₁) (g' := (mkF m 9 #[.val (.ref q), .val (.int (0 : Int32)), .val (.ref q), .val (.ref xa), .val (.ref xb), .val (.ref xc)] [])) (fun _ k => Jvm.Free.XT.acmpNo X0.here hx rfl (hb hby d19_6) rfl rfl rfl (Jvm.Free.XT.aa_ne_f rfl) k) ?_
    refine own_st (T' := s₁) (g' := (mkF m 10 #[.val (.ref q), .val (.int (0 : Int32)), .val (.ref q), .val (.ref xa), .val (.ref xb), .val (.ref xc)] [(.int (1 : Int32))])) (fun _ k => XS.iconst X0.here hx rfl (hb hby d19_9) k) ?_
    refine own_st (T' := s₁) (g' := (mkF m 14 #[.val (.ref q), .val (.int (0 : Int32)), .val (.ref q), .val (.ref xa), .val (.ref xb), .val (.ref xc)] [(.int (1 : Int32))])) (fun _ k => XS.goto X0.here hx rfl (pc0 := 10) (pc' := 14) rfl (hb hby d19_10) (by decide) (by decide) k) ?_
    exact own_retN X0 hx Bd.returns Bd.notSynchronized e0 (by simp) (hb hby d19_14) ⟨rfl, N0, rfl⟩ (by decide) (by decide)
  · subst hk
    refine own_st (T' := s₁) (g' := (mkF m 1 #[.val (.ref u), .val (.int (1 : Int32)), .val (.ref q), .val (.ref xa), .val (.ref xb), .val (.ref xc)] [(.int (1 : Int32))])) (fun _ k => XS.iloadN X0.here hx rfl (hb hby d19_0) rfl k) ?_
    refine own_st (T' := s₁) (g' := (mkF m 15 #[.val (.ref u), .val (.int (1 : Int32)), .val (.ref q), .val (.ref xa), .val (.ref xb), .val (.ref xc)] [])) (fun _ k => XS.ifYes X0.here hx rfl (pc0 := 1) (pc' := 15) rfl (hb hby d19_1) rfl (Jvm.Free.XT.i0_ne_t (by decide)) (by decide) (by decide) k) ?_
    refine own_st (T' := s₁) (g' := (mkF m 16 #[.val (.ref u), .val (.int (1 : Int32)), .val (.ref q), .val (.ref xa), .val (.ref xb), .val (.ref xc)] [(.int (1 : Int32))])) (fun _ k => XS.iloadN X0.here hx rfl (hb hby d19_15) rfl k) ?_
    refine own_st (T' := s₁) (g' := (mkF m 17 #[.val (.ref u), .val (.int (1 : Int32)), .val (.ref q), .val (.ref xa), .val (.ref xb), .val (.ref xc)] [(.int (2 : Int32)), (.int (1 : Int32))])) (fun _ k => XS.iconst X0.here hx rfl (hb hby d19_16) k) ?_
    refine own_st (T' := s₁) (g' := (mkF m 30 #[.val (.ref u), .val (.int (1 : Int32)), .val (.ref q), .val (.ref xa), .val (.ref xb), .val (.ref xc)] [])) (fun _ k => XS.icmpYes X0.here hx rfl (pc0 := 17) (pc' := 30) rfl (hb hby d19_17) rfl (Jvm.Free.XT.ii_ne_t (by decide)) (by decide) (by decide) k) ?_
    refine own_st (T' := s₁) (g' := (mkF m 31 #[.val (.ref u), .val (.int (1 : Int32)), .val (.ref q), .val (.ref xa), .val (.ref xb), .val (.ref xc)] [(.int (1 : Int32))])) (fun _ k => XS.iloadN X0.here hx rfl (hb hby d19_30) rfl k) ?_
    refine own_st (T' := s₁) (g' := (mkF m 32 #[.val (.ref u), .val (.int (1 : Int32)), .val (.ref q), .val (.ref xa), .val (.ref xb), .val (.ref xc)] [(.int (1 : Int32)), (.int (1 : Int32))])) (fun _ k => XS.iconst X0.here hx rfl (hb hby d19_31) k) ?_
    refine own_st (T' := s₁) (g' := (mkF m 35 #[.val (.ref u), .val (.int (1 : Int32)), .val (.ref q), .val (.ref xa), .val (.ref xb), .val (.ref xc)] [])) (fun _ k => XS.icmpNo X0.here hx rfl (hb hby d19_32) rfl (Jvm.Free.XT.ii_ne_f rfl) k) ?_
    refine own_st (T' := s₁) (g' := (mkF m 36 #[.val (.ref u), .val (.int (1 : Int32)), .val (.ref q), .val (.ref xa), .val (.ref xb), .val (.ref xc)] [(.ref u)])) (fun _ k => XS.aloadN X0.here hx rfl (hb hby d19_35) rfl rfl k) ?_
    refine own_st (T' := s₁) (g' := (mkF m 39 #[.val (.ref u), .val (.int (1 : Int32)), .val (.ref q), .val (.ref xa), .val (.ref xb), .val (.ref xc)] [])) (fun _ k => Jvm.Free.XT.nullNo X0.here hx rfl (hb hby d19_36) rfl rfl (by simp) k) ?_
    refine own_st (T' := s₁) (g' := (mkF m 40 #[.val (.ref u), .val (.int (1 : Int32)), .val (.ref q), .val (.ref xa), .val (.ref xb), .val (.ref xc)] [(.ref u)])) (fun _ k => XS.aloadN X0.here hx rfl (hb hby d19_39) rfl rfl k) ?_
    obtain ⟨cq69, kq69, q69a, q69b, q69c⟩ := isOf hZ e0 Eu
    obtain ⟨_, _, ⟨T69, L69, k69, n69⟩, -, X69, ⟨Lc69, hQ69, l69, y69, z69⟩, st69⟩ := X0.interfaceBack hx (xi := (⟨"java/util/List", "size", "()I"⟩ : MethodName)) (y := (⟨"java/util/ImmutableCollections$List12", "size", "()I"⟩ : MethodName)) hown (mvT hZ (hw _ (List.mem_of_getElem? (i := 124) rfl))) (mvT hZ (hw _ (List.mem_of_getElem? (i := 125) rfl))) (mvT hZ (hw _ (List.mem_of_getElem? (i := 126) rfl))) (mvT hZ (hw _ (List.mem_of_getElem? (i := 127) rfl))) (mvT hZ (hw _ (List.mem_of_getElem? (i := 128) rfl))) (mvT hZ (hw _ (List.mem_of_getElem? (i := 129) rfl))) (mvT hZ (hw _ (List.mem_of_getElem? (i := 130) rfl))) (mvT hZ (hw _ (List.mem_of_getElem? (i := 131) rfl))) (by decide) (backOf (W := 0) (own_size l Z a0 hw [] u xb aM h0 n0 Z0 F1 SE) hZ (hw _ (List.mem_of_getElem? (i := 132) rfl)) (hw _ (List.mem_of_getElem? (i := 83) rfl)) (by decide) (by decide)) q69a q69b q69c (g := (mkF m 40 #[.val (.ref u), .val (.int (1 : Int32)), .val (.ref q), .val (.ref xa), .val (.ref xb), .val (.ref xc)] [(.ref u)])) rfl (by rw [hml]; rfl) (Steps.refl _) (argsL := []) (rest := []) (lenOf own_pd10 rfl) rfl (by show 2 * 0 + _ ≤ _; exact Nat.le_of_eq rfl) (hb hby d19_40) (fun _ _ => ⟨rfl, e0, (by decide : 0 + 0 ≤ _), (by decide : 0 + 0 ≤ _)⟩)
    dsimp only [Pt.U, Pt.locs, Pt.cells, Pt.slots] at X69 l69 y69 z69 st69 hQ69
    subst l69 y69 z69
    obtain ⟨rfl, N69q, e69⟩ := hQ69
    have N0' := Fr.app N0 N69q
    refine own_tr (T' := T69) (g' := (mkF m 45 #[.val (.ref u), .val (.int (1 : Int32)), .val (.ref q), .val (.ref xa), .val (.ref xb), .val (.ref xc)] [(.int (if xb = aM then (1 : Int32) else 2))])) st69 ?_
    rw [show (if xb = aM then (1 : Int32) else 2) = 2 from if_neg nb]
    refine own_st (T' := T69) (g' := (mkF m 46 #[.val (.ref u), .val (.int (1 : Int32)), .val (.ref q), .val (.ref xa), .val (.ref xb), .val (.ref xc)] [(.int (2 : Int32)), (.int (2 : Int32))])) (fun _ k => XS.iconst X69.here hx rfl (hb hby d19_45) k) ?_
    refine own_st (T' := T69) (g' := (mkF m 49 #[.val (.ref u), .val (.int (1 : Int32)), .val (.ref q), .val (.ref xa), .val (.ref xb), .val (.ref xc)] [])) (fun _ k => XS.icmpNo X69.here hx rfl (hb hby d19_46) rfl (Jvm.Free.XT.ii_ne_f rfl) k) ?_
    refine own_st (T' := T69) (g' := (mkF m 50 #[.val (.ref u), .val (.int (1 : Int32)), .val (.ref q), .val (.ref xa), .val (.ref xb), .val (.ref xc)] [(.ref u)])) (fun _ k => XS.aloadN X69.here hx rfl (hb hby d19_49) rfl rfl k) ?_
    refine own_st (T' := T69) (g' := (mkF m 51 #[.val (.ref u), .val (.int (1 : Int32)), .val (.ref q), .val (.ref xa), .val (.ref xb), .val (.ref xc)] [(.int (0 : Int32)), (.ref u)])) (fun _ k => XS.iconst X69.here hx rfl (hb hby d19_50) k) ?_
    obtain ⟨cq70, kq70, q70a, q70b, q70c⟩ := isOf hZ e69 Eu
    obtain ⟨_, _, ⟨T70, L70, k70, n70⟩, -, X70, ⟨Lc70, hQ70, l70, y70, z70⟩, st70⟩ := X69.interfaceBack hx (xi := (⟨"java/util/List", "get", "(I)Ljava/lang/Object;"⟩ : MethodName)) (y := (⟨"java/util/ImmutableCollections$List12", "get", "(I)Ljava/lang/Object;"⟩ : MethodName)) hown (mvT hZ (hw _ (List.mem_of_getElem? (i := 133) rfl))) (mvT hZ (hw _ (List.mem_of_getElem? (i := 134) rfl))) (mvT hZ (hw _ (List.mem_of_getElem? (i := 135) rfl))) (mvT hZ (hw _ (List.mem_of_getElem? (i := 136) rfl))) (mvT hZ (hw _ (List.mem_of_getElem? (i := 137) rfl))) (mvT hZ (hw _ (List.mem_of_getElem? (i := 138) rfl))) (mvT hZ (hw _ (List.mem_of_getElem? (i := 139) rfl))) (mvT hZ (hw _ (List.mem_of_getElem? (i := 131) rfl))) (by decide) (backOf (W := 0) (own_get0 l Z a0 hw [] u xa h0 n0 Z0 F0) hZ (hw _ (List.mem_of_getElem? (i := 140) rfl)) (hw _ (List.mem_of_getElem? (i := 83) rfl)) (by decide) (by decide)) q70a q70b q70c (g := (mkF m 51 #[.val (.ref u), .val (.int (1 : Int32)), .val (.ref q), .val (.ref xa), .val (.ref xb), .val (.ref xc)] [(.int (0 : Int32)), (.ref u)])) rfl (by rw [hml]; rfl) (Steps.refl _) (argsL := [(.int (0 : Int32))]) (rest := []) (lenOf own_pd11 rfl) rfl (by show 2 * 0 + _ ≤ _; exact Nat.le_of_eq rfl) (hb hby d19_51) (fun _ _ => ⟨rfl, e69, (by decide : (0 + 0) + 0 ≤ _), (by decide : (0 + 0) + 0 ≤ _)⟩)
    dsimp only [Pt.U, Pt.locs, Pt.cells, Pt.slots] at X70 l70 y70 z70 st70 hQ70
    subst l70 y70 z70
    obtain ⟨rfl, N70q, e70⟩ := hQ70
    have N0'' := Fr.app N0' N70q
    refine own_tr (T' := T70) (g' := (mkF m 56 #[.val (.ref u), .val (.int (1 : Int32)), .val (.ref q), .val (.ref xa), .val (.ref xb), .val (.ref xc)] [(.ref xa)])) st70 ?_
    refine own_st (T' := T70) (g' := (mkF m 57 #[.val (.ref u), .val (.int (1 : Int32)), .val (.ref q), .val (.ref xa), .val (.ref xb), .val (.ref xc)] [(.ref xa), (.ref xa)])) (fun _ k => XS.aloadN X70.here hx rfl (hb hby d19_56) rfl rfl k) ?_
    refine own_st (T' := T70) (g' := (mkF m 60 #[.val (.ref u), .val (.int (1 : Int32)), .val (.ref q), .val (.ref xa), .val (.ref xb), .val (.ref xc)] [])) (fun _ k => Jvm.Free.XT.acmpNo X70.here hx rfl (hb hby d19_57) rfl rfl rfl (Jvm.Free.XT.aa_ne_f rfl) k) ?_
    refine own_st (T' := T70) (g' := (mkF m 61 #[.val (.ref u), .val (.int (1 : Int32)), .val (.ref q), .val (.ref xa), .val (.ref xb), .val (.ref xc)] [(.ref u)])) (fun _ k => XS.aloadN X70.here hx rfl (hb hby d19_60) rfl rfl k) ?_
    refine own_st (T' := T70) (g' := (mkF m 62 #[.val (.ref u), .val (.int (1 : Int32)), .val (.ref q), .val (.ref xa), .val (.ref xb), .val (.ref xc)] [(.int (1 : Int32)), (.ref u)])) (fun _ k => XS.iconst X70.here hx rfl (hb hby d19_61) k) ?_
    obtain ⟨cq71, kq71, q71a, q71b, q71c⟩ := isOf hZ e70 Eu
    obtain ⟨_, _, ⟨T71, L71, k71, n71⟩, -, X71, ⟨Lc71, hQ71, l71, y71, z71⟩, st71⟩ := X70.interfaceBack hx (xi := (⟨"java/util/List", "get", "(I)Ljava/lang/Object;"⟩ : MethodName)) (y := (⟨"java/util/ImmutableCollections$List12", "get", "(I)Ljava/lang/Object;"⟩ : MethodName)) hown (mvT hZ (hw _ (List.mem_of_getElem? (i := 133) rfl))) (mvT hZ (hw _ (List.mem_of_getElem? (i := 134) rfl))) (mvT hZ (hw _ (List.mem_of_getElem? (i := 135) rfl))) (mvT hZ (hw _ (List.mem_of_getElem? (i := 136) rfl))) (mvT hZ (hw _ (List.mem_of_getElem? (i := 137) rfl))) (mvT hZ (hw _ (List.mem_of_getElem? (i := 138) rfl))) (mvT hZ (hw _ (List.mem_of_getElem? (i := 139) rfl))) (mvT hZ (hw _ (List.mem_of_getElem? (i := 131) rfl))) (by decide) (backOf (W := 0) (own_get1 l Z a0 hw [] u xb aM h0 n0 Z0 F1 SE nb) hZ (hw _ (List.mem_of_getElem? (i := 140) rfl)) (hw _ (List.mem_of_getElem? (i := 83) rfl)) (by decide) (by decide)) q71a q71b q71c (g := (mkF m 62 #[.val (.ref u), .val (.int (1 : Int32)), .val (.ref q), .val (.ref xa), .val (.ref xb), .val (.ref xc)] [(.int (1 : Int32)), (.ref u)])) rfl (by rw [hml]; rfl) (Steps.refl _) (argsL := [(.int (1 : Int32))]) (rest := []) (lenOf own_pd11 rfl) rfl (by show 2 * 0 + _ ≤ _; exact Nat.le_of_eq rfl) (hb hby d19_62) (fun _ _ => ⟨rfl, e70, (by decide : ((0 + 0) + 0) + 0 ≤ _), (by decide : ((0 + 0) + 0) + 0 ≤ _)⟩)
    dsimp only [Pt.U, Pt.locs, Pt.cells, Pt.slots] at X71 l71 y71 z71 st71 hQ71
    subst l71 y71 z71
    obtain ⟨rfl, N71q, e71⟩ := hQ71
    have N0''' := Fr.app N0'' N71q
    refine own_tr (T' := T71) (g' := (mkF m 67 #[.val (.ref u), .val (.int (1 : Int32)), .val (.ref q), .val (.ref xa), .val (.ref xb), .val (.ref xc)] [(.ref xb)])) st71 ?_
    refine own_st (T' := T71) (g' := (mkF m 69 #[.val (.ref u), .val (.int (1 : Int32)), .val (.ref q), .val (.ref xa), .val (.ref xb), .val (.ref xc)] [(.ref xb), (.ref xb)])) (fun _ k => XS.aload X71.here hx rfl (hb hby d19_67) rfl rfl k) ?_
    refine own_st (T' := T71) (g' := (mkF m 72 #[.val (.ref u), .val (.int (1 : Int32)), .val (.ref q), .val (.ref xa), .val (.ref xb), .val (.ref xc)] [])) (fun _ k => Jvm.Free.XT.acmpNo X71.here hx rfl (hb hby d19_69) rfl rfl rfl (Jvm.Free.XT.aa_ne_f rfl) k) ?_
    refine own_st (T' := T71) (g' := (mkF m 73 #[.val (.ref u), .val (.int (1 : Int32)), .val (.ref q), .val (.ref xa), .val (.ref xb), .val (.ref xc)] [(.int (1 : Int32))])) (fun _ k => XS.iconst X71.here hx rfl (hb hby d19_72) k) ?_
    refine own_st (T' := T71) (g' := (mkF m 77 #[.val (.ref u), .val (.int (1 : Int32)), .val (.ref q), .val (.ref xa), .val (.ref xb), .val (.ref xc)] [(.int (1 : Int32))])) (fun _ k => XS.goto X71.here hx rfl (pc0 := 73) (pc' := 77) rfl (hb hby d19_73) (by decide) (by decide) k) ?_
    exact own_retN X71 hx Bd.returns Bd.notSynchronized e71 (by simp) (hb hby d19_77) ⟨rfl, N0''', rfl⟩ (by decide) (by decide)
  · subst hk
    refine own_st (T' := s₁) (g' := (mkF m 1 #[.val .null, .val (.int (2 : Int32)), .val (.ref q), .val (.ref xa), .val (.ref xb), .val (.ref xc)] [(.int (2 : Int32))])) (fun _ k => XS.iloadN X0.here hx rfl (hb hby d19_0) rfl k) ?_
    refine own_st (T' := s₁) (g' := (mkF m 15 #[.val .null, .val (.int (2 : Int32)), .val (.ref q), .val (.ref xa), .val (.ref xb), .val (.ref xc)] [])) (fun _ k => XS.ifYes X0.here hx rfl (pc0 := 1) (pc' := 15) rfl (hb hby d19_1) rfl (Jvm.Free.XT.i0_ne_t (by decide)) (by decide) (by decide) k) ?_
    refine own_st (T' := s₁) (g' := (mkF m 16 #[.val .null, .val (.int (2 : Int32)), .val (.ref q), .val (.ref xa), .val (.ref xb), .val (.ref xc)] [(.int (2 : Int32))])) (fun _ k => XS.iloadN X0.here hx rfl (hb hby d19_15) rfl k) ?_
    refine own_st (T' := s₁) (g' := (mkF m 17 #[.val .null, .val (.int (2 : Int32)), .val (.ref q), .val (.ref xa), .val (.ref xb), .val (.ref xc)] [(.int (2 : Int32)), (.int (2 : Int32))])) (fun _ k => XS.iconst X0.here hx rfl (hb hby d19_16) k) ?_
    refine own_st (T' := s₁) (g' := (mkF m 20 #[.val .null, .val (.int (2 : Int32)), .val (.ref q), .val (.ref xa), .val (.ref xb), .val (.ref xc)] [])) (fun _ k => XS.icmpNo X0.here hx rfl (hb hby d19_17) rfl (Jvm.Free.XT.ii_ne_f rfl) k) ?_
    refine own_st (T' := s₁) (g' := (mkF m 21 #[.val .null, .val (.int (2 : Int32)), .val (.ref q), .val (.ref xa), .val (.ref xb), .val (.ref xc)] [.null])) (fun _ k => XS.aloadN X0.here hx rfl (hb hby d19_20) rfl rfl k) ?_
    refine own_st (T' := s₁) (g' := (mkF m 24 #[.val .null, .val (.int (2 : Int32)), .val (.ref q), .val (.ref xa), .val (.ref xb), .val (.ref xc)] [])) (fun _ k => Jvm.Free.XT.nonnullNo X0.here hx rfl (hb hby d19_21) rfl rfl k) ?_
    refine own_st (T' := s₁) (g' := (mkF m 25 #[.val .null, .val (.int (2 : Int32)), .val (.ref q), .val (.ref xa), .val (.ref xb), .val (.ref xc)] [(.int (1 : Int32))])) (fun _ k => XS.iconst X0.here hx rfl (hb hby d19_24) k) ?_
    refine own_st (T' := s₁) (g' := (mkF m 29 #[.val .null, .val (.int (2 : Int32)), .val (.ref q), .val (.ref xa), .val (.ref xb), .val (.ref xc)] [(.int (1 : Int32))])) (fun _ k => XS.goto X0.here hx rfl (pc0 := 25) (pc' := 29) rfl (hb hby d19_25) (by decide) (by decide) k) ?_
    exact own_retN X0 hx Bd.returns Bd.notSynchronized e0 (by simp) (hb hby d19_29) ⟨rfl, N0, rfl⟩ (by decide) (by decide)
  · subst hk
    refine own_st (T' := s₁) (g' := (mkF m 1 #[.val (.ref u), .val (.int (3 : Int32)), .val (.ref q), .val (.ref xa), .val (.ref xb), .val (.ref xc)] [(.int (3 : Int32))])) (fun _ k => XS.iloadN X0.here hx rfl (hb hby d19_0) rfl k) ?_
    refine own_st (T' := s₁) (g' := (mkF m 15 #[.val (.ref u), .val (.int (3 : Int32)), .val (.ref q), .val (.ref xa), .val (.ref xb), .val (.ref xc)] [])) (fun _ k => XS.ifYes X0.here hx rfl (pc0 := 1) (pc' := 15) rfl (hb hby d19_1) rfl (Jvm.Free.XT.i0_ne_t (by decide)) (by decide) (by decide) k) ?_
    refine own_st (T' := s₁) (g' := (mkF m 16 #[.val (.ref u), .val (.int (3 : Int32)), .val (.ref q), .val (.ref xa), .val (.ref xb), .val (.ref xc)] [(.int (3 : Int32))])) (fun _ k => XS.iloadN X0.here hx rfl (hb hby d19_15) rfl k) ?_
    refine own_st (T' := s₁) (g' := (mkF m 17 #[.val (.ref u), .val (.int (3 : Int32)), .val (.ref q), .val (.ref xa), .val (.ref xb), .val (.ref xc)] [(.int (2 : Int32)), (.int (3 : Int32))])) (fun _ k => XS.iconst X0.here hx rfl (hb hby d19_16) k) ?_
    refine own_st (T' := s₁) (g' := (mkF m 30 #[.val (.ref u), .val (.int (3 : Int32)), .val (.ref q), .val (.ref xa), .val (.ref xb), .val (.ref xc)] [])) (fun _ k => XS.icmpYes X0.here hx rfl (pc0 := 17) (pc' := 30) rfl (hb hby d19_17) rfl (Jvm.Free.XT.ii_ne_t (by decide)) (by decide) (by decide) k) ?_
    refine own_st (T' := s₁) (g' := (mkF m 31 #[.val (.ref u), .val (.int (3 : Int32)), .val (.ref q), .val (.ref xa), .val (.ref xb), .val (.ref xc)] [(.int (3 : Int32))])) (fun _ k => XS.iloadN X0.here hx rfl (hb hby d19_30) rfl k) ?_
    refine own_st (T' := s₁) (g' := (mkF m 32 #[.val (.ref u), .val (.int (3 : Int32)), .val (.ref q), .val (.ref xa), .val (.ref xb), .val (.ref xc)] [(.int (1 : Int32)), (.int (3 : Int32))])) (fun _ k => XS.iconst X0.here hx rfl (hb hby d19_31) k) ?_
    refine own_st (T' := s₁) (g' := (mkF m 78 #[.val (.ref u), .val (.int (3 : Int32)), .val (.ref q), .val (.ref xa), .val (.ref xb), .val (.ref xc)] [])) (fun _ k => XS.icmpYes X0.here hx rfl (pc0 := 32) (pc' := 78) rfl (hb hby d19_32) rfl (Jvm.Free.XT.ii_ne_t (by decide)) (by decide) (by decide) k) ?_
    refine own_st (T' := s₁) (g' := (mkF m 79 #[.val (.ref u), .val (.int (3 : Int32)), .val (.ref q), .val (.ref xa), .val (.ref xb), .val (.ref xc)] [(.ref u)])) (fun _ k => XS.aloadN X0.here hx rfl (hb hby d19_78) rfl rfl k) ?_
    refine own_st (T' := s₁) (g' := (mkF m 82 #[.val (.ref u), .val (.int (3 : Int32)), .val (.ref q), .val (.ref xa), .val (.ref xb), .val (.ref xc)] [])) (fun _ k => Jvm.Free.XT.nullNo X0.here hx rfl (hb hby d19_79) rfl rfl (by simp) k) ?_
    refine own_st (T' := s₁) (g' := (mkF m 83 #[.val (.ref u), .val (.int (3 : Int32)), .val (.ref q), .val (.ref xa), .val (.ref xb), .val (.ref xc)] [(.ref u)])) (fun _ k => XS.aloadN X0.here hx rfl (hb hby d19_82) rfl rfl k) ?_
    obtain ⟨cq72, kq72, q72a, q72b, q72c⟩ := isOf hZ e0 Eu
    obtain ⟨_, _, ⟨T72, L72, k72, n72⟩, -, X72, ⟨Lc72, hQ72, l72, y72, z72⟩, st72⟩ := X0.interfaceBack hx (xi := (⟨"java/util/List", "size", "()I"⟩ : MethodName)) (y := (⟨"java/util/ImmutableCollections$List12", "size", "()I"⟩ : MethodName)) hown (mvT hZ (hw _ (List.mem_of_getElem? (i := 124) rfl))) (mvT hZ (hw _ (List.mem_of_getElem? (i := 125) rfl))) (mvT hZ (hw _ (List.mem_of_getElem? (i := 126) rfl))) (mvT hZ (hw _ (List.mem_of_getElem? (i := 127) rfl))) (mvT hZ (hw _ (List.mem_of_getElem? (i := 128) rfl))) (mvT hZ (hw _ (List.mem_of_getElem? (i := 129) rfl))) (mvT hZ (hw _ (List.mem_of_getElem? (i := 130) rfl))) (mvT hZ (hw _ (List.mem_of_getElem? (i := 131) rfl))) (by decide) (backOf (W := 0) (own_size l Z a0 hw [] u aM aM h0 n0 Z0 F1 SE) hZ (hw _ (List.mem_of_getElem? (i := 132) rfl)) (hw _ (List.mem_of_getElem? (i := 83) rfl)) (by decide) (by decide)) q72a q72b q72c (g := (mkF m 83 #[.val (.ref u), .val (.int (3 : Int32)), .val (.ref q), .val (.ref xa), .val (.ref xb), .val (.ref xc)] [(.ref u)])) rfl (by rw [hml]; rfl) (Steps.refl _) (argsL := []) (rest := []) (lenOf own_pd10 rfl) rfl (by show 2 * 0 + _ ≤ _; exact Nat.le_of_eq rfl) (hb hby d19_83) (fun _ _ => ⟨rfl, e0, (by decide : 0 + 0 ≤ _), (by decide : 0 + 0 ≤ _)⟩)
    dsimp only [Pt.U, Pt.locs, Pt.cells, Pt.slots] at X72 l72 y72 z72 st72 hQ72
    subst l72 y72 z72
    obtain ⟨rfl, N72q, e72⟩ := hQ72
    have N0' := Fr.app N0 N72q
    refine own_tr (T' := T72) (g' := (mkF m 88 #[.val (.ref u), .val (.int (3 : Int32)), .val (.ref q), .val (.ref xa), .val (.ref xb), .val (.ref xc)] [(.int (if aM = aM then (1 : Int32) else 2))])) st72 ?_
    rw [show (if aM = aM then (1 : Int32) else 2) = 1 from if_pos rfl]
    refine own_st (T' := T72) (g' := (mkF m 89 #[.val (.ref u), .val (.int (3 : Int32)), .val (.ref q), .val (.ref xa), .val (.ref xb), .val (.ref xc)] [(.int (1 : Int32)), (.int (1 : Int32))])) (fun _ k => XS.iconst X72.here hx rfl (hb hby d19_88) k) ?_
    refine own_st (T' := T72) (g' := (mkF m 92 #[.val (.ref u), .val (.int (3 : Int32)), .val (.ref q), .val (.ref xa), .val (.ref xb), .val (.ref xc)] [])) (fun _ k => XS.icmpNo X72.here hx rfl (hb hby d19_89) rfl (Jvm.Free.XT.ii_ne_f rfl) k) ?_
    refine own_st (T' := T72) (g' := (mkF m 93 #[.val (.ref u), .val (.int (3 : Int32)), .val (.ref q), .val (.ref xa), .val (.ref xb), .val (.ref xc)] [(.ref u)])) (fun _ k => XS.aloadN X72.here hx rfl (hb hby d19_92) rfl rfl k) ?_
    refine own_st (T' := T72) (g' := (mkF m 94 #[.val (.ref u), .val (.int (3 : Int32)), .val (.ref q), .val (.ref xa), .val (.ref xb), .val (.ref xc)] [(.int (0 : Int32)), (.ref u)])) (fun _ k => XS.iconst X72.here hx rfl (hb hby d19_93) k) ?_
    obtain ⟨cq73, kq73, q73a, q73b, q73c⟩ := isOf hZ e72 Eu
    obtain ⟨_, _, ⟨T73, L73, k73, n73⟩, -, X73, ⟨Lc73, hQ73, l73, y73, z73⟩, st73⟩ := X72.interfaceBack hx (xi := (⟨"java/util/List", "get", "(I)Ljava/lang/Object;"⟩ : MethodName)) (y := (⟨"java/util/ImmutableCollections$List12", "get", "(I)Ljava/lang/Object;"⟩ : MethodName)) hown (mvT hZ (hw _ (List.mem_of_getElem? (i := 133) rfl))) (mvT hZ (hw _ (List.mem_of_getElem? (i := 134) rfl))) (mvT hZ (hw _ (List.mem_of_getElem? (i := 135) rfl))) (mvT hZ (hw _ (List.mem_of_getElem? (i := 136) rfl))) (mvT hZ (hw _ (List.mem_of_getElem? (i := 137) rfl))) (mvT hZ (hw _ (List.mem_of_getElem? (i := 138) rfl))) (mvT hZ (hw _ (List.mem_of_getElem? (i := 139) rfl))) (mvT hZ (hw _ (List.mem_of_getElem? (i := 131) rfl))) (by decide) (backOf (W := 0) (own_get0 l Z a0 hw [] u xc h0 n0 Z0 F0) hZ (hw _ (List.mem_of_getElem? (i := 140) rfl)) (hw _ (List.mem_of_getElem? (i := 83) rfl)) (by decide) (by decide)) q73a q73b q73c (g := (mkF m 94 #[.val (.ref u), .val (.int (3 : Int32)), .val (.ref q), .val (.ref xa), .val (.ref xb), .val (.ref xc)] [(.int (0 : Int32)), (.ref u)])) rfl (by rw [hml]; rfl) (Steps.refl _) (argsL := [(.int (0 : Int32))]) (rest := []) (lenOf own_pd11 rfl) rfl (by show 2 * 0 + _ ≤ _; exact Nat.le_of_eq rfl) (hb hby d19_94) (fun _ _ => ⟨rfl, e72, (by decide : (0 + 0) + 0 ≤ _), (by decide : (0 + 0) + 0 ≤ _)⟩)
    dsimp only [Pt.U, Pt.locs, Pt.cells, Pt.slots] at X73 l73 y73 z73 st73 hQ73
    subst l73 y73 z73
    obtain ⟨rfl, N73q, e73⟩ := hQ73
    have N0'' := Fr.app N0' N73q
    refine own_tr (T' := T73) (g' := (mkF m 99 #[.val (.ref u), .val (.int (3 : Int32)), .val (.ref q), .val (.ref xa), .val (.ref xb), .val (.ref xc)] [(.ref xc)])) st73 ?_
    refine own_st (T' := T73) (g' := (mkF m 101 #[.val (.ref u), .val (.int (3 : Int32)), .val (.ref q), .val (.ref xa), .val (.ref xb), .val (.ref xc)] [(.ref xc), (.ref xc)])) (fun _ k => XS.aload X73.here hx rfl (hb hby d19_99) rfl rfl k) ?_
    refine own_st (T' := T73) (g' := (mkF m 104 #[.val (.ref u), .val (.int (3 : Int32)), .val (.ref q), .val (.ref xa), .val (.ref xb), .val (.ref xc)] [])) (fun _ k => Jvm.Free.XT.acmpNo X73.here hx rfl (hb hby d19_101) rfl rfl rfl (Jvm.Free.XT.aa_ne_f rfl) k) ?_
    refine own_st (T' := T73) (g' := (mkF m 105 #[.val (.ref u), .val (.int (3 : Int32)), .val (.ref q), .val (.ref xa), .val (.ref xb), .val (.ref xc)] [(.int (1 : Int32))])) (fun _ k => XS.iconst X73.here hx rfl (hb hby d19_104) k) ?_
    refine own_st (T' := T73) (g' := (mkF m 109 #[.val (.ref u), .val (.int (3 : Int32)), .val (.ref q), .val (.ref xa), .val (.ref xb), .val (.ref xc)] [(.int (1 : Int32))])) (fun _ k => XS.goto X73.here hx rfl (pc0 := 105) (pc' := 109) rfl (hb hby d19_105) (by decide) (by decide) k) ?_
    exact own_retN X73 hx Bd.returns Bd.notSynchronized e73 (by simp) (hb hby d19_109) ⟨rfl, N0'', rfl⟩ (by decide) (by decide)
theorem own_pd12 : parseMethodDescriptor "(Ljava/lang/Object;)Z" = some ⟨[(.object "java/lang/Object")], some .boolean⟩ := by decide +kernel
theorem own_pd13 : parseMethodDescriptor "(Lcom/example/ovrdue/ovrdue/command/Rewrite;I[B[B[B)V" = some ⟨[(.object "com/example/ovrdue/ovrdue/command/Rewrite"), .int, (.array .byte), (.array .byte), (.array .byte)], none⟩ := by decide +kernel
theorem own_pd14 : parseMethodDescriptor "(Ljava/util/List;)Ljava/util/List;" = some ⟨[(.object "java/util/List")], some (.object "java/util/List")⟩ := by decide +kernel
theorem own_pd15 : parseMethodDescriptor "(Ljava/util/List;ILjava/util/List;[B[B[B)Z" = some ⟨[(.object "java/util/List"), .int, (.object "java/util/List"), (.array .byte), (.array .byte), (.array .byte)], some .boolean⟩ := by decide +kernel
def own_law_Q (Z : State) (p0 : Int32) (p1 : Int32) (p2 : Int32) (p3 : Int32) (aD : Addr) (kD : ClassId) (aM : Addr) (h0 : Heap) (n0 : Nat) (v : Option Value) (h : Heap) (L : List Loc) : Prop := v = some (.int 1) ∧ Fr n0 L
set_option maxRecDepth 65536 in
set_option maxHeartbeats 40000000 in
theorem own_law (l : Launch) (Z : State) (a0 : Array Value) (hw : ∀ d ∈ tables_1, d.before a0 Z = true) (ws : List Jvm.Cond) (p0 : Int32) (p1 : Int32) (p2 : Int32) (p3 : Int32) (aD : Addr) (kD : ClassId) (aM : Addr) (h0 : Heap) (n0 : Nat) (Z0 : n0 ≤ h0.size) (O : Old Z n0 h0) (SD0 : Sta Z Z.heap "java/util/ArrayList" "DEFAULTCAPACITY_EMPTY_ELEMENTDATA" "[Ljava/lang/Object;" (.ref aD)) (VD0 : own_Av Z Z.heap aD kD (.object "java/lang/Object") 0 (fun _ => .null)) (SE0 : Sta Z Z.heap "java/util/ImmutableCollections" "EMPTY" "Ljava/lang/Object;" (.ref aM)) (EM0 : Exa Z Z.heap aM "java/lang/Object") :
    MetFree l x (head1 (Jvm.Cond.code x code maxLocals ret :: ws) room_1) (fun aa U0 => aa = #[(.int p0), (.int p1), (.int p2), (.int p3)] ∧ Z.Warmed39 U0.vm ∧ U0.heap = h0) (fun _ _ _ _ _ => True) (fun _ U0 o0 U1 => ∃ v0 L0, o0 = .returned v0 ∧ own_law_Q Z p0 p1 p2 p3 aD kD aM h0 n0 v0 U1.heap L0 ∧ FrameEnd U0 o0 U1 L0 40 192) := by
  refine MetFree.of_bodySF (plainFor_of_name own_pn9) hisR ?_
  intro p e s m args below meth c s₁ Bd hml0 hP hK
  obtain ⟨rfl, hZ, hh⟩ := hP
  have hx := Bd.exec
  have hby := Bd.bytes
  have hml : c.maxLocals = 19 := hml0
  have hown : s.vm.findClass "com/example/ovrdue/ovrdue/command/RewriteTakePinLaw" = some m.cls := findClass_of_methodNamed Bd.named
  have hnm := (name_of_methodNamed Bd.named Bd.method).1
  have X0 : Stand p l e room_1 s m #[(.int p0), (.int p1), (.int p2), (.int p3)] below meth c s₁ [] 0 0 := Stand.of_body Bd
  have e0 : s₁.heap = h0 := by rw [← hh, Bd.state]; rfl
  have N0 := Fr.nil n0
  show own_Go p e below s (own_law_Q Z p0 p1 p2 p3 aD kD aM h0 n0) 40 192 s₁ (entryFrame m #[(.int p0), (.int p1), (.int p2), (.int p3)] maxLocals)
  rw [show entryFrame m #[(.int p0), (.int p1), (.int p2), (.int p3)] maxLocals = mkF m 0 #[.val (.int p0), .val (.int p1), .val (.int p2), .val (.int p3), .unset, .unset, .unset, .unset, .unset, .unset, .unset, .unset, .unset, .unset, .unset, .unset, .unset, .unset, .unset] [] from by first | (simp [entryFrame, mkF, argsToLocals, Value.category, maxLocals]; done) | rfl]
  refine own_st (T' := s₁) (g' := (mkF m 1 #[.val (.int p0), .val (.int p1), .val (.int p2), .val (.int p3), .unset, .unset, .unset, .unset, .unset, .unset, .unset, .unset, .unset, .unset, .unset, .unset, .unset, .unset, .unset] [(.int p0)])) (fun _ k => XS.iloadN X0.here hx rfl (hb hby at_0) rfl k) ?_
  refine own_st (T' := s₁) (g' := (mkF m 2 #[.val (.int p0), .val (.int p1), .val (.int p2), .val (.int p3), .unset, .unset, .unset, .unset, .unset, .unset, .unset, .unset, .unset, .unset, .unset, .unset, .unset, .unset, .unset] [(.int (3 : Int32)), (.int p0)])) (fun _ k => XS.iconst X0.here hx rfl (hb hby at_1) k) ?_
  refine own_st (T' := s₁) (g' := (mkF m 3 #[.val (.int p0), .val (.int p1), .val (.int p2), .val (.int p3), .unset, .unset, .unset, .unset, .unset, .unset, .unset, .unset, .unset, .unset, .unset, .unset, .unset, .unset, .unset] [(.int (p0 &&& (3 : Int32)))])) (fun _ k => XS.iand X0.here hx rfl (hb hby at_2) rfl k) ?_
  refine own_st (T' := s₁) (g' := (mkF m 5 #[.val (.int p0), .val (.int p1), .val (.int p2), .val (.int p3), .val (.int (p0 &&& (3 : Int32))), .unset, .unset, .unset, .unset, .unset, .unset, .unset, .unset, .unset, .unset, .unset, .unset, .unset, .unset] [])) (fun _ k => XS.istore X0.here hx rfl (hb hby at_3) rfl (l' := #[.val (.int p0), .val (.int p1), .val (.int p2), .val (.int p3), .val (.int (p0 &&& (3 : Int32))), .unset, .unset, .unset, .unset, .unset, .unset, .unset, .unset, .unset, .unset, .unset, .unset, .unset, .unset]) rfl k) ?_
  refine own_st (T' := s₁) (g' := (mkF m 6 #[.val (.int p0), .val (.int p1), .val (.int p2), .val (.int p3), .val (.int (p0 &&& (3 : Int32))), .unset, .unset, .unset, .unset, .unset, .unset, .unset, .unset, .unset, .unset, .unset, .unset, .unset, .unset] [(.int p1)])) (fun _ k => XS.iloadN X0.here hx rfl (hb hby at_5) rfl k) ?_
  refine own_st (T' := s₁) (g' := (mkF m 7 #[.val (.int p0), .val (.int p1), .val (.int p2), .val (.int p3), .val (.int (p0 &&& (3 : Int32))), .unset, .unset, .unset, .unset, .unset, .unset, .unset, .unset, .unset, .unset, .unset, .unset, .unset, .unset] [(.int (3 : Int32)), (.int p1)])) (fun _ k => XS.iconst X0.here hx rfl (hb hby at_6) k) ?_
  refine own_st (T' := s₁) (g' := (mkF m 8 #[.val (.int p0), .val (.int p1), .val (.int p2), .val (.int p3), .val (.int (p0 &&& (3 : Int32))), .unset, .unset, .unset, .unset, .unset, .unset, .unset, .unset, .unset, .unset, .unset, .unset, .unset, .unset] [(.int (p1 &&& (3 : Int32)))])) (fun _ k => XS.iand X0.here hx rfl (hb hby at_7) rfl k) ?_
  refine own_st (T' := s₁) (g' := (mkF m 10 #[.val (.int p0), .val (.int p1), .val (.int p2), .val (.int p3), .val (.int (p0 &&& (3 : Int32))), .val (.int (p1 &&& (3 : Int32))), .unset, .unset, .unset, .unset, .unset, .unset, .unset, .unset, .unset, .unset, .unset, .unset, .unset] [])) (fun _ k => XS.istore X0.here hx rfl (hb hby at_8) rfl (l' := #[.val (.int p0), .val (.int p1), .val (.int p2), .val (.int p3), .val (.int (p0 &&& (3 : Int32))), .val (.int (p1 &&& (3 : Int32))), .unset, .unset, .unset, .unset, .unset, .unset, .unset, .unset, .unset, .unset, .unset, .unset, .unset]) rfl k) ?_
  refine own_st (T' := s₁) (g' := (mkF m 11 #[.val (.int p0), .val (.int p1), .val (.int p2), .val (.int p3), .val (.int (p0 &&& (3 : Int32))), .val (.int (p1 &&& (3 : Int32))), .unset, .unset, .unset, .unset, .unset, .unset, .unset, .unset, .unset, .unset, .unset, .unset, .unset] [(.int p2)])) (fun _ k => XS.iloadN X0.here hx rfl (hb hby at_10) rfl k) ?_
  refine own_st (T' := s₁) (g' := (mkF m 12 #[.val (.int p0), .val (.int p1), .val (.int p2), .val (.int p3), .val (.int (p0 &&& (3 : Int32))), .val (.int (p1 &&& (3 : Int32))), .unset, .unset, .unset, .unset, .unset, .unset, .unset, .unset, .unset, .unset, .unset, .unset, .unset] [(.int (3 : Int32)), (.int p2)])) (fun _ k => XS.iconst X0.here hx rfl (hb hby at_11) k) ?_
  refine own_st (T' := s₁) (g' := (mkF m 13 #[.val (.int p0), .val (.int p1), .val (.int p2), .val (.int p3), .val (.int (p0 &&& (3 : Int32))), .val (.int (p1 &&& (3 : Int32))), .unset, .unset, .unset, .unset, .unset, .unset, .unset, .unset, .unset, .unset, .unset, .unset, .unset] [(.int (p2 &&& (3 : Int32)))])) (fun _ k => XS.iand X0.here hx rfl (hb hby at_12) rfl k) ?_
  refine own_st (T' := s₁) (g' := (mkF m 15 #[.val (.int p0), .val (.int p1), .val (.int p2), .val (.int p3), .val (.int (p0 &&& (3 : Int32))), .val (.int (p1 &&& (3 : Int32))), .val (.int (p2 &&& (3 : Int32))), .unset, .unset, .unset, .unset, .unset, .unset, .unset, .unset, .unset, .unset, .unset, .unset] [])) (fun _ k => XS.istore X0.here hx rfl (hb hby at_13) rfl (l' := #[.val (.int p0), .val (.int p1), .val (.int p2), .val (.int p3), .val (.int (p0 &&& (3 : Int32))), .val (.int (p1 &&& (3 : Int32))), .val (.int (p2 &&& (3 : Int32))), .unset, .unset, .unset, .unset, .unset, .unset, .unset, .unset, .unset, .unset, .unset, .unset]) rfl k) ?_
  have J15 : ∀ (o1 : Int32) (o2 : Int32) (o3 : Int32) (ho1 : o1 = 0 ∨ o1 = 1 ∨ o1 = 2 ∨ o1 = 3) (ho2 : o2 = 0 ∨ o2 = 1 ∨ o2 = 2 ∨ o2 = 3) (ho3 : o3 = 0 ∨ o3 = 1 ∨ o3 = 2 ∨ o3 = 3), own_Go p e below s (own_law_Q Z p0 p1 p2 p3 aD kD aM h0 n0) 40 192 s₁ (mkF m 15 #[.val (.int p0), .val (.int p1), .val (.int p2), .val (.int p3), .val (.int o1), .val (.int o2), .val (.int o3), .unset, .unset, .unset, .unset, .unset, .unset, .unset, .unset, .unset, .unset, .unset, .unset] []) := by
    intro o1 o2 o3 ho1 ho2 ho3
    refine own_st (T' := s₁) (g' := (mkF m 16 #[.val (.int p0), .val (.int p1), .val (.int p2), .val (.int p3), .val (.int o1), .val (.int o2), .val (.int o3), .unset, .unset, .unset, .unset, .unset, .unset, .unset, .unset, .unset, .unset, .unset, .unset] [(.int (1 : Int32))])) (fun _ k => XS.iconst X0.here hx rfl (hb hby at_15) k) ?_
    obtain ⟨T74, h74, k74, X74, e74, E74, A74, B74, st74⟩ := newPE X0 hx hZ (hw _ (List.mem_of_getElem? (i := 0) rfl)) e0 (g := (mkF m 16 #[.val (.int p0), .val (.int p1), .val (.int p2), .val (.int p3), .val (.int o1), .val (.int o2), .val (.int o3), .unset, .unset, .unset, .unset, .unset, .unset, .unset, .unset, .unset, .unset, .unset, .unset] [(.int (1 : Int32))])) rfl (hb hby at_16) rfl (by decide) (cap := 1) (by decide) (by decide) (by decide) (by decide) (ad := "[B") (by decide)
    obtain ⟨xa, gxa⟩ : ∃ z, z = h0.size := ⟨_, rfl⟩
    rw [← gxa] at A74 B74 st74
    have ge_xa : n0 ≤ xa := own_ge Z0 gxa
    have O := O.ext E74
    have Z0' := Nat.le_trans Z0 E74.1
    have E_xa := B74
    have V_xa := own_Av.new (n := 1) A74 rfl
    refine own_st (T' := T74) (g' := (mkF m 18 #[.val (.int p0), .val (.int p1), .val (.int p2), .val (.int p3), .val (.int o1), .val (.int o2), .val (.int o3), .unset, .unset, .unset, .unset, .unset, .unset, .unset, .unset, .unset, .unset, .unset, .unset] [(.ref xa)])) st74 ?_
    refine own_st (T' := T74) (g' := (mkF m 19 #[.val (.int p0), .val (.int p1), .val (.int p2), .val (.int p3), .val (.int o1), .val (.int o2), .val (.int o3), .unset, .unset, .unset, .unset, .unset, .unset, .unset, .unset, .unset, .unset, .unset, .unset] [(.ref xa), (.ref xa)])) (fun _ k => XS.dup X74.here hx rfl (hb hby at_18) rfl rfl k) ?_
    refine own_st (T' := T74) (g' := (mkF m 20 #[.val (.int p0), .val (.int p1), .val (.int p2), .val (.int p3), .val (.int o1), .val (.int o2), .val (.int o3), .unset, .unset, .unset, .unset, .unset, .unset, .unset, .unset, .unset, .unset, .unset, .unset] [(.int (0 : Int32)), (.ref xa), (.ref xa)])) (fun _ k => XS.iconst X74.here hx rfl (hb hby at_19) k) ?_
    refine own_st (T' := T74) (g' := (mkF m 21 #[.val (.int p0), .val (.int p1), .val (.int p2), .val (.int p3), .val (.int o1), .val (.int o2), .val (.int o3), .unset, .unset, .unset, .unset, .unset, .unset, .unset, .unset, .unset, .unset, .unset, .unset] [(.int p3), (.int (0 : Int32)), (.ref xa), (.ref xa)])) (fun _ k => XS.iloadN X74.here hx rfl (hb hby at_20) rfl k) ?_
    refine own_st (T' := T74) (g' := (mkF m 22 #[.val (.int p0), .val (.int p1), .val (.int p2), .val (.int p3), .val (.int o1), .val (.int o2), .val (.int o3), .unset, .unset, .unset, .unset, .unset, .unset, .unset, .unset, .unset, .unset, .unset, .unset] [(.int (p3.toInt8.toInt32)), (.int (0 : Int32)), (.ref xa), (.ref xa)])) (fun _ k => XS.i2b X74.here hx rfl (hb hby at_21) rfl k) ?_
    obtain ⟨T75, h75, X75, e75, W75, V75, st75⟩ := own_stB X74 hx hZ e74 V_xa (i := 0) (by decide) (by decide) (g := (mkF m 22 #[.val (.int p0), .val (.int p1), .val (.int p2), .val (.int p3), .val (.int o1), .val (.int o2), .val (.int o3), .unset, .unset, .unset, .unset, .unset, .unset, .unset, .unset, .unset, .unset, .unset, .unset] [(.int (p3.toInt8.toInt32)), (.int (0 : Int32)), (.ref xa), (.ref xa)])) rfl rfl (hb hby at_22)
    have O := O.wr W75 ge_xa
    have E_xa := E_xa.wr W75
    have Z0'' := Nat.le_trans Z0' (Keep.of_wr W75).1
    have N0' := Fr.snoc X75 N0 ge_xa
    have V_xa := V75
    refine own_st (T' := T75) (g' := (mkF m 23 #[.val (.int p0), .val (.int p1), .val (.int p2), .val (.int p3), .val (.int o1), .val (.int o2), .val (.int o3), .unset, .unset, .unset, .unset, .unset, .unset, .unset, .unset, .unset, .unset, .unset, .unset] [(.ref xa)])) st75 ?_
    refine own_st (T' := T75) (g' := (mkF m 25 #[.val (.int p0), .val (.int p1), .val (.int p2), .val (.int p3), .val (.int o1), .val (.int o2), .val (.int o3), .val (.ref xa), .unset, .unset, .unset, .unset, .unset, .unset, .unset, .unset, .unset, .unset, .unset] [])) (fun _ k => XS.astore X75.here hx rfl (hb hby at_23) rfl rfl (l' := #[.val (.int p0), .val (.int p1), .val (.int p2), .val (.int p3), .val (.int o1), .val (.int o2), .val (.int o3), .val (.ref xa), .unset, .unset, .unset, .unset, .unset, .unset, .unset, .unset, .unset, .unset, .unset]) rfl k) ?_
    refine own_st (T' := T75) (g' := (mkF m 26 #[.val (.int p0), .val (.int p1), .val (.int p2), .val (.int p3), .val (.int o1), .val (.int o2), .val (.int o3), .val (.ref xa), .unset, .unset, .unset, .unset, .unset, .unset, .unset, .unset, .unset, .unset, .unset] [(.int (2 : Int32))])) (fun _ k => XS.iconst X75.here hx rfl (hb hby at_25) k) ?_
    obtain ⟨T76, h76, k76, X76, e76, E76, A76, B76, st76⟩ := newPE X75 hx hZ (hw _ (List.mem_of_getElem? (i := 0) rfl)) e75 (g := (mkF m 26 #[.val (.int p0), .val (.int p1), .val (.int p2), .val (.int p3), .val (.int o1), .val (.int o2), .val (.int o3), .val (.ref xa), .unset, .unset, .unset, .unset, .unset, .unset, .unset, .unset, .unset, .unset, .unset] [(.int (2 : Int32))])) rfl (hb hby at_26) rfl (by decide) (cap := 2) (by decide) (by decide) (by decide) (by decide) (ad := "[B") (by decide)
    obtain ⟨xb, gxb⟩ : ∃ z, z = h75.size := ⟨_, rfl⟩
    rw [← gxb] at A76 B76 st76
    have ne_xa_xb : xa ≠ xb := own_ne E_xa.lt gxb
    have ge_xb : n0 ≤ xb := own_ge Z0'' gxb
    have O := O.ext E76
    have E_xa := E_xa.ext E76
    have Z0''' := Nat.le_trans Z0'' E76.1
    have E_xb := B76
    have V_xb := own_Av.new (n := 2) A76 rfl
    refine own_st (T' := T76) (g' := (mkF m 28 #[.val (.int p0), .val (.int p1), .val (.int p2), .val (.int p3), .val (.int o1), .val (.int o2), .val (.int o3), .val (.ref xa), .unset, .unset, .unset, .unset, .unset, .unset, .unset, .unset, .unset, .unset, .unset] [(.ref xb)])) st76 ?_
    refine own_st (T' := T76) (g' := (mkF m 29 #[.val (.int p0), .val (.int p1), .val (.int p2), .val (.int p3), .val (.int o1), .val (.int o2), .val (.int o3), .val (.ref xa), .unset, .unset, .unset, .unset, .unset, .unset, .unset, .unset, .unset, .unset, .unset] [(.ref xb), (.ref xb)])) (fun _ k => XS.dup X76.here hx rfl (hb hby at_28) rfl rfl k) ?_
    refine own_st (T' := T76) (g' := (mkF m 30 #[.val (.int p0), .val (.int p1), .val (.int p2), .val (.int p3), .val (.int o1), .val (.int o2), .val (.int o3), .val (.ref xa), .unset, .unset, .unset, .unset, .unset, .unset, .unset, .unset, .unset, .unset, .unset] [(.int (0 : Int32)), (.ref xb), (.ref xb)])) (fun _ k => XS.iconst X76.here hx rfl (hb hby at_29) k) ?_
    refine own_st (T' := T76) (g' := (mkF m 31 #[.val (.int p0), .val (.int p1), .val (.int p2), .val (.int p3), .val (.int o1), .val (.int o2), .val (.int o3), .val (.ref xa), .unset, .unset, .unset, .unset, .unset, .unset, .unset, .unset, .unset, .unset, .unset] [(.int p3), (.int (0 : Int32)), (.ref xb), (.ref xb)])) (fun _ k => XS.iloadN X76.here hx rfl (hb hby at_30) rfl k) ?_
    refine own_st (T' := T76) (g' := (mkF m 33 #[.val (.int p0), .val (.int p1), .val (.int p2), .val (.int p3), .val (.int o1), .val (.int o2), .val (.int o3), .val (.ref xa), .unset, .unset, .unset, .unset, .unset, .unset, .unset, .unset, .unset, .unset, .unset] [(.int (8 : Int32)), (.int p3), (.int (0 : Int32)), (.ref xb), (.ref xb)])) (fun _ k => XS.bipush X76.here hx rfl (hb hby at_31) k) ?_
    refine own_st (T' := T76) (g' := (mkF m 34 #[.val (.int p0), .val (.int p1), .val (.int p2), .val (.int p3), .val (.int o1), .val (.int o2), .val (.int o3), .val (.ref xa), .unset, .unset, .unset, .unset, .unset, .unset, .unset, .unset, .unset, .unset, .unset] [(.int (p3 >>> ((8 : Int32) &&& 31))), (.int (0 : Int32)), (.ref xb), (.ref xb)])) (fun _ k => XS.ishr X76.here hx rfl (hb hby at_33) rfl k) ?_
    refine own_st (T' := T76) (g' := (mkF m 35 #[.val (.int p0), .val (.int p1), .val (.int p2), .val (.int p3), .val (.int o1), .val (.int o2), .val (.int o3), .val (.ref xa), .unset, .unset, .unset, .unset, .unset, .unset, .unset, .unset, .unset, .unset, .unset] [(.int ((p3 >>> ((8 : Int32) &&& 31)).toInt8.toInt32)), (.int (0 : Int32)), (.ref xb), (.ref xb)])) (fun _ k => XS.i2b X76.here hx rfl (hb hby at_34) rfl k) ?_
    obtain ⟨T77, h77, X77, e77, W77, V77, st77⟩ := own_stB X76 hx hZ e76 V_xb (i := 0) (by decide) (by decide) (g := (mkF m 35 #[.val (.int p0), .val (.int p1), .val (.int p2), .val (.int p3), .val (.int o1), .val (.int o2), .val (.int o3), .val (.ref xa), .unset, .unset, .unset, .unset, .unset, .unset, .unset, .unset, .unset, .unset, .unset] [(.int ((p3 >>> ((8 : Int32) &&& 31)).toInt8.toInt32)), (.int (0 : Int32)), (.ref xb), (.ref xb)])) rfl rfl (hb hby at_35)
    have O := O.wr W77 ge_xb
    have E_xa := E_xa.wr W77
    have E_xb := E_xb.wr W77
    have Z0'''' := Nat.le_trans Z0''' (Keep.of_wr W77).1
    have N0'' := Fr.snoc X77 N0' ge_xb
    have V_xb := V77
    refine own_st (T' := T77) (g' := (mkF m 36 #[.val (.int p0), .val (.int p1), .val (.int p2), .val (.int p3), .val (.int o1), .val (.int o2), .val (.int o3), .val (.ref xa), .unset, .unset, .unset, .unset, .unset, .unset, .unset, .unset, .unset, .unset, .unset] [(.ref xb)])) st77 ?_
    refine own_st (T' := T77) (g' := (mkF m 37 #[.val (.int p0), .val (.int p1), .val (.int p2), .val (.int p3), .val (.int o1), .val (.int o2), .val (.int o3), .val (.ref xa), .unset, .unset, .unset, .unset, .unset, .unset, .unset, .unset, .unset, .unset, .unset] [(.ref xb), (.ref xb)])) (fun _ k => XS.dup X77.here hx rfl (hb hby at_36) rfl rfl k) ?_
    refine own_st (T' := T77) (g' := (mkF m 38 #[.val (.int p0), .val (.int p1), .val (.int p2), .val (.int p3), .val (.int o1), .val (.int o2), .val (.int o3), .val (.ref xa), .unset, .unset, .unset, .unset, .unset, .unset, .unset, .unset, .unset, .unset, .unset] [(.int (1 : Int32)), (.ref xb), (.ref xb)])) (fun _ k => XS.iconst X77.here hx rfl (hb hby at_37) k) ?_
    refine own_st (T' := T77) (g' := (mkF m 39 #[.val (.int p0), .val (.int p1), .val (.int p2), .val (.int p3), .val (.int o1), .val (.int o2), .val (.int o3), .val (.ref xa), .unset, .unset, .unset, .unset, .unset, .unset, .unset, .unset, .unset, .unset, .unset] [(.int p3), (.int (1 : Int32)), (.ref xb), (.ref xb)])) (fun _ k => XS.iloadN X77.here hx rfl (hb hby at_38) rfl k) ?_
    refine own_st (T' := T77) (g' := (mkF m 41 #[.val (.int p0), .val (.int p1), .val (.int p2), .val (.int p3), .val (.int o1), .val (.int o2), .val (.int o3), .val (.ref xa), .unset, .unset, .unset, .unset, .unset, .unset, .unset, .unset, .unset, .unset, .unset] [(.int (16 : Int32)), (.int p3), (.int (1 : Int32)), (.ref xb), (.ref xb)])) (fun _ k => XS.bipush X77.here hx rfl (hb hby at_39) k) ?_
    refine own_st (T' := T77) (g' := (mkF m 42 #[.val (.int p0), .val (.int p1), .val (.int p2), .val (.int p3), .val (.int o1), .val (.int o2), .val (.int o3), .val (.ref xa), .unset, .unset, .unset, .unset, .unset, .unset, .unset, .unset, .unset, .unset, .unset] [(.int (p3 >>> ((16 : Int32) &&& 31))), (.int (1 : Int32)), (.ref xb), (.ref xb)])) (fun _ k => XS.ishr X77.here hx rfl (hb hby at_41) rfl k) ?_
    refine own_st (T' := T77) (g' := (mkF m 43 #[.val (.int p0), .val (.int p1), .val (.int p2), .val (.int p3), .val (.int o1), .val (.int o2), .val (.int o3), .val (.ref xa), .unset, .unset, .unset, .unset, .unset, .unset, .unset, .unset, .unset, .unset, .unset] [(.int ((p3 >>> ((16 : Int32) &&& 31)).toInt8.toInt32)), (.int (1 : Int32)), (.ref xb), (.ref xb)])) (fun _ k => XS.i2b X77.here hx rfl (hb hby at_42) rfl k) ?_
    obtain ⟨T78, h78, X78, e78, W78, V78, st78⟩ := own_stB X77 hx hZ e77 V_xb (i := 1) (by decide) (by decide) (g := (mkF m 43 #[.val (.int p0), .val (.int p1), .val (.int p2), .val (.int p3), .val (.int o1), .val (.int o2), .val (.int o3), .val (.ref xa), .unset, .unset, .unset, .unset, .unset, .unset, .unset, .unset, .unset, .unset, .unset] [(.int ((p3 >>> ((16 : Int32) &&& 31)).toInt8.toInt32)), (.int (1 : Int32)), (.ref xb), (.ref xb)])) rfl rfl (hb hby at_43)
    have O := O.wr W78 ge_xb
    have E_xa := E_xa.wr W78
    have E_xb := E_xb.wr W78
    have Z0''''' := Nat.le_trans Z0'''' (Keep.of_wr W78).1
    have N0''' := Fr.snoc X78 N0'' ge_xb
    have V_xb := V78
    refine own_st (T' := T78) (g' := (mkF m 44 #[.val (.int p0), .val (.int p1), .val (.int p2), .val (.int p3), .val (.int o1), .val (.int o2), .val (.int o3), .val (.ref xa), .unset, .unset, .unset, .unset, .unset, .unset, .unset, .unset, .unset, .unset, .unset] [(.ref xb)])) st78 ?_
    refine own_st (T' := T78) (g' := (mkF m 46 #[.val (.int p0), .val (.int p1), .val (.int p2), .val (.int p3), .val (.int o1), .val (.int o2), .val (.int o3), .val (.ref xa), .val (.ref xb), .unset, .unset, .unset, .unset, .unset, .unset, .unset, .unset, .unset, .unset] [])) (fun _ k => XS.astore X78.here hx rfl (hb hby at_44) rfl rfl (l' := #[.val (.int p0), .val (.int p1), .val (.int p2), .val (.int p3), .val (.int o1), .val (.int o2), .val (.int o3), .val (.ref xa), .val (.ref xb), .unset, .unset, .unset, .unset, .unset, .unset, .unset, .unset, .unset, .unset]) rfl k) ?_
    refine own_st (T' := T78) (g' := (mkF m 47 #[.val (.int p0), .val (.int p1), .val (.int p2), .val (.int p3), .val (.int o1), .val (.int o2), .val (.int o3), .val (.ref xa), .val (.ref xb), .unset, .unset, .unset, .unset, .unset, .unset, .unset, .unset, .unset, .unset] [(.int (1 : Int32))])) (fun _ k => XS.iconst X78.here hx rfl (hb hby at_46) k) ?_
    obtain ⟨T79, h79, k79, X79, e79, E79, A79, B79, st79⟩ := newPE X78 hx hZ (hw _ (List.mem_of_getElem? (i := 0) rfl)) e78 (g := (mkF m 47 #[.val (.int p0), .val (.int p1), .val (.int p2), .val (.int p3), .val (.int o1), .val (.int o2), .val (.int o3), .val (.ref xa), .val (.ref xb), .unset, .unset, .unset, .unset, .unset, .unset, .unset, .unset, .unset, .unset] [(.int (1 : Int32))])) rfl (hb hby at_47) rfl (by decide) (cap := 1) (by decide) (by decide) (by decide) (by decide) (ad := "[B") (by decide)
    obtain ⟨xc, gxc⟩ : ∃ z, z = h78.size := ⟨_, rfl⟩
    rw [← gxc] at A79 B79 st79
    have ne_xa_xc : xa ≠ xc := own_ne E_xa.lt gxc
    have ne_xb_xc : xb ≠ xc := own_ne E_xb.lt gxc
    have ge_xc : n0 ≤ xc := own_ge Z0''''' gxc
    have O := O.ext E79
    have E_xa := E_xa.ext E79
    have E_xb := E_xb.ext E79
    have Z0'''''' := Nat.le_trans Z0''''' E79.1
    have E_xc := B79
    have V_xc := own_Av.new (n := 1) A79 rfl
    refine own_st (T' := T79) (g' := (mkF m 49 #[.val (.int p0), .val (.int p1), .val (.int p2), .val (.int p3), .val (.int o1), .val (.int o2), .val (.int o3), .val (.ref xa), .val (.ref xb), .unset, .unset, .unset, .unset, .unset, .unset, .unset, .unset, .unset, .unset] [(.ref xc)])) st79 ?_
    refine own_st (T' := T79) (g' := (mkF m 50 #[.val (.int p0), .val (.int p1), .val (.int p2), .val (.int p3), .val (.int o1), .val (.int o2), .val (.int o3), .val (.ref xa), .val (.ref xb), .unset, .unset, .unset, .unset, .unset, .unset, .unset, .unset, .unset, .unset] [(.ref xc), (.ref xc)])) (fun _ k => XS.dup X79.here hx rfl (hb hby at_49) rfl rfl k) ?_
    refine own_st (T' := T79) (g' := (mkF m 51 #[.val (.int p0), .val (.int p1), .val (.int p2), .val (.int p3), .val (.int o1), .val (.int o2), .val (.int o3), .val (.ref xa), .val (.ref xb), .unset, .unset, .unset, .unset, .unset, .unset, .unset, .unset, .unset, .unset] [(.int (0 : Int32)), (.ref xc), (.ref xc)])) (fun _ k => XS.iconst X79.here hx rfl (hb hby at_50) k) ?_
    refine own_st (T' := T79) (g' := (mkF m 52 #[.val (.int p0), .val (.int p1), .val (.int p2), .val (.int p3), .val (.int o1), .val (.int o2), .val (.int o3), .val (.ref xa), .val (.ref xb), .unset, .unset, .unset, .unset, .unset, .unset, .unset, .unset, .unset, .unset] [(.int p3), (.int (0 : Int32)), (.ref xc), (.ref xc)])) (fun _ k => XS.iloadN X79.here hx rfl (hb hby at_51) rfl k) ?_
    refine own_st (T' := T79) (g' := (mkF m 54 #[.val (.int p0), .val (.int p1), .val (.int p2), .val (.int p3), .val (.int o1), .val (.int o2), .val (.int o3), .val (.ref xa), .val (.ref xb), .unset, .unset, .unset, .unset, .unset, .unset, .unset, .unset, .unset, .unset] [(.int (24 : Int32)), (.int p3), (.int (0 : Int32)), (.ref xc), (.ref xc)])) (fun _ k => XS.bipush X79.here hx rfl (hb hby at_52) k) ?_
    refine own_st (T' := T79) (g' := (mkF m 55 #[.val (.int p0), .val (.int p1), .val (.int p2), .val (.int p3), .val (.int o1), .val (.int o2), .val (.int o3), .val (.ref xa), .val (.ref xb), .unset, .unset, .unset, .unset, .unset, .unset, .unset, .unset, .unset, .unset] [(.int (p3 >>> ((24 : Int32) &&& 31))), (.int (0 : Int32)), (.ref xc), (.ref xc)])) (fun _ k => XS.ishr X79.here hx rfl (hb hby at_54) rfl k) ?_
    refine own_st (T' := T79) (g' := (mkF m 56 #[.val (.int p0), .val (.int p1), .val (.int p2), .val (.int p3), .val (.int o1), .val (.int o2), .val (.int o3), .val (.ref xa), .val (.ref xb), .unset, .unset, .unset, .unset, .unset, .unset, .unset, .unset, .unset, .unset] [(.int ((p3 >>> ((24 : Int32) &&& 31)).toInt8.toInt32)), (.int (0 : Int32)), (.ref xc), (.ref xc)])) (fun _ k => XS.i2b X79.here hx rfl (hb hby at_55) rfl k) ?_
    obtain ⟨T80, h80, X80, e80, W80, V80, st80⟩ := own_stB X79 hx hZ e79 V_xc (i := 0) (by decide) (by decide) (g := (mkF m 56 #[.val (.int p0), .val (.int p1), .val (.int p2), .val (.int p3), .val (.int o1), .val (.int o2), .val (.int o3), .val (.ref xa), .val (.ref xb), .unset, .unset, .unset, .unset, .unset, .unset, .unset, .unset, .unset, .unset] [(.int ((p3 >>> ((24 : Int32) &&& 31)).toInt8.toInt32)), (.int (0 : Int32)), (.ref xc), (.ref xc)])) rfl rfl (hb hby at_56)
    have O := O.wr W80 ge_xc
    have E_xa := E_xa.wr W80
    have E_xb := E_xb.wr W80
    have E_xc := E_xc.wr W80
    have Z0''''''' := Nat.le_trans Z0'''''' (Keep.of_wr W80).1
    have N0'''' := Fr.snoc X80 N0''' ge_xc
    have V_xc := V80
    refine own_st (T' := T80) (g' := (mkF m 57 #[.val (.int p0), .val (.int p1), .val (.int p2), .val (.int p3), .val (.int o1), .val (.int o2), .val (.int o3), .val (.ref xa), .val (.ref xb), .unset, .unset, .unset, .unset, .unset, .unset, .unset, .unset, .unset, .unset] [(.ref xc)])) st80 ?_
    refine own_st (T' := T80) (g' := (mkF m 59 #[.val (.int p0), .val (.int p1), .val (.int p2), .val (.int p3), .val (.int o1), .val (.int o2), .val (.int o3), .val (.ref xa), .val (.ref xb), .val (.ref xc), .unset, .unset, .unset, .unset, .unset, .unset, .unset, .unset, .unset] [])) (fun _ k => XS.astore X80.here hx rfl (hb hby at_57) rfl rfl (l' := #[.val (.int p0), .val (.int p1), .val (.int p2), .val (.int p3), .val (.int o1), .val (.int o2), .val (.int o3), .val (.ref xa), .val (.ref xb), .val (.ref xc), .unset, .unset, .unset, .unset, .unset, .unset, .unset, .unset, .unset]) rfl k) ?_
    obtain ⟨T81, h81, X81, e81, E81, A81, D81, -, st81⟩ := newO X80 hx hZ hown (hw _ (List.mem_of_getElem? (i := 1) rfl)) (hw _ (List.mem_of_getElem? (i := 2) rfl)) (hw _ (List.mem_of_getElem? (i := 3) rfl)) e80 (g := (mkF m 59 #[.val (.int p0), .val (.int p1), .val (.int p2), .val (.int p3), .val (.int o1), .val (.int o2), .val (.int o3), .val (.ref xa), .val (.ref xb), .val (.ref xc), .unset, .unset, .unset, .unset, .unset, .unset, .unset, .unset, .unset] [])) rfl (hb hby at_59) (by decide) (by decide)
    obtain ⟨q1, gq1⟩ : ∃ z, z = h80.size := ⟨_, rfl⟩
    rw [← gq1] at A81 D81 st81
    have ne_xa_q1 : xa ≠ q1 := own_ne E_xa.lt gq1
    have ne_xb_q1 : xb ≠ q1 := own_ne E_xb.lt gq1
    have ne_xc_q1 : xc ≠ q1 := own_ne E_xc.lt gq1
    have ge_q1 : n0 ≤ q1 := own_ge Z0''''''' gq1
    have O := O.ext E81
    have E_xa := E_xa.ext E81
    have E_xb := E_xb.ext E81
    have E_xc := E_xc.ext E81
    have Z0'''''''' := Nat.le_trans Z0''''''' E81.1
    have E_q1 := A81
    have F_modCount_q1 : Fld Z h81 q1 "java/util/AbstractList" "modCount" "I" (.int (0 : Int32)) := D81 (Or.inl (hw _ (List.mem_of_getElem? (i := 23) rfl))) (ty := .int) (by decide)
    have F_elementData_q1 : Fld Z h81 q1 "java/util/ArrayList" "elementData" "[Ljava/lang/Object;" .null := D81 (Or.inl (hw _ (List.mem_of_getElem? (i := 26) rfl))) (ty := (.array (.object "java/lang/Object"))) (by decide)
    have F_size_q1 : Fld Z h81 q1 "java/util/ArrayList" "size" "I" (.int (0 : Int32)) := D81 (Or.inl (hw _ (List.mem_of_getElem? (i := 35) rfl))) (ty := .int) (by decide)
    refine own_st (T' := T81) (g' := (mkF m 62 #[.val (.int p0), .val (.int p1), .val (.int p2), .val (.int p3), .val (.int o1), .val (.int o2), .val (.int o3), .val (.ref xa), .val (.ref xb), .val (.ref xc), .unset, .unset, .unset, .unset, .unset, .unset, .unset, .unset, .unset] [(.ref q1)])) st81 ?_
    refine own_st (T' := T81) (g' := (mkF m 63 #[.val (.int p0), .val (.int p1), .val (.int p2), .val (.int p3), .val (.int o1), .val (.int o2), .val (.int o3), .val (.ref xa), .val (.ref xb), .val (.ref xc), .unset, .unset, .unset, .unset, .unset, .unset, .unset, .unset, .unset] [(.ref q1), (.ref q1)])) (fun _ k => XS.dup X81.here hx rfl (hb hby at_62) rfl rfl k) ?_
    obtain ⟨_, _, ⟨T82, L82, k82, n82⟩, -, X82, ⟨Lc82, hQ82, l82, y82, z82⟩, st82⟩ := X81.specialBack hx (y := (⟨"java/util/ArrayList", "<init>", "()V"⟩ : MethodName)) rfl hown (mvT hZ (hw _ (List.mem_of_getElem? (i := 4) rfl))) (mvT hZ (hw _ (List.mem_of_getElem? (i := 5) rfl))) (mvT hZ (hw _ (List.mem_of_getElem? (i := 6) rfl))) (by decide) (backOf (W := 1) (own_alIni l Z a0 hw [] q1 aD h81 n0 Z0'''''''' F_modCount_q1 F_elementData_q1 F_size_q1 E_q1 ge_q1 O SD0) hZ (hw _ (List.mem_of_getElem? (i := 6) rfl)) (hw _ (List.mem_of_getElem? (i := 3) rfl)) (by decide) (by decide)) (g := (mkF m 63 #[.val (.int p0), .val (.int p1), .val (.int p2), .val (.int p3), .val (.int o1), .val (.int o2), .val (.int o3), .val (.ref xa), .val (.ref xb), .val (.ref xc), .unset, .unset, .unset, .unset, .unset, .unset, .unset, .unset, .unset] [(.ref q1), (.ref q1)])) rfl (by rw [hml]; rfl) (Steps.refl _) (a := q1) (argsL := []) (rest := [(.ref q1)]) (lenOf own_pd0 rfl) rfl (by show 2 * 0 + _ ≤ _; exact Nat.le_of_eq rfl) (hb hby at_63) (fun _ _ => ⟨rfl, e81, (by decide : ((((0 + 1) + 1) + 1) + 1) + 0 ≤ _), (by decide : ((((0 + 1) + 2) + 1) + 3) + 0 ≤ _)⟩)
    dsimp only [Pt.U, Pt.locs, Pt.cells, Pt.slots] at X82 l82 y82 z82 st82 hQ82
    subst l82 y82 z82
    obtain ⟨rfl, N82q, K82, -, Fm, Fe, Fs⟩ := hQ82
    have N0''''' := Fr.app N0'''' N82q
    have O := O.keep K82 ((allS ge_q1 all0))
    have E_xa := E_xa.keep K82
    have E_xb := E_xb.keep K82
    have E_xc := E_xc.keep K82
    have E_q1 := E_q1.keep K82
    have Z0''''''''' := Nat.le_trans Z0'''''''' K82.1
    refine own_tr (T' := T82) (g' := (mkF m 66 #[.val (.int p0), .val (.int p1), .val (.int p2), .val (.int p3), .val (.int o1), .val (.int o2), .val (.int o3), .val (.ref xa), .val (.ref xb), .val (.ref xc), .unset, .unset, .unset, .unset, .unset, .unset, .unset, .unset, .unset] [(.ref q1)])) st82 ?_
    refine own_st (T' := T82) (g' := (mkF m 68 #[.val (.int p0), .val (.int p1), .val (.int p2), .val (.int p3), .val (.int o1), .val (.int o2), .val (.int o3), .val (.ref xa), .val (.ref xb), .val (.ref xc), .val (.ref q1), .unset, .unset, .unset, .unset, .unset, .unset, .unset, .unset] [])) (fun _ k => XS.astore X82.here hx rfl (hb hby at_66) rfl rfl (l' := #[.val (.int p0), .val (.int p1), .val (.int p2), .val (.int p3), .val (.int o1), .val (.int o2), .val (.int o3), .val (.ref xa), .val (.ref xb), .val (.ref xc), .val (.ref q1), .unset, .unset, .unset, .unset, .unset, .unset, .unset, .unset]) rfl k) ?_
    refine own_st (T' := T82) (g' := (mkF m 70 #[.val (.int p0), .val (.int p1), .val (.int p2), .val (.int p3), .val (.int o1), .val (.int o2), .val (.int o3), .val (.ref xa), .val (.ref xb), .val (.ref xc), .val (.ref q1), .unset, .unset, .unset, .unset, .unset, .unset, .unset, .unset] [(.ref q1)])) (fun _ k => XS.aload X82.here hx rfl (hb hby at_68) rfl rfl k) ?_
    refine own_st (T' := T82) (g' := (mkF m 72 #[.val (.int p0), .val (.int p1), .val (.int p2), .val (.int p3), .val (.int o1), .val (.int o2), .val (.int o3), .val (.ref xa), .val (.ref xb), .val (.ref xc), .val (.ref q1), .unset, .unset, .unset, .unset, .unset, .unset, .unset, .unset] [(.ref xa), (.ref q1)])) (fun _ k => XS.aload X82.here hx rfl (hb hby at_70) rfl rfl k) ?_
    have ltD := Nat.lt_of_lt_of_le VD0.lt (Nat.le_of_eq O.1)
    have nD : aD ≠ q1 := Nat.ne_of_lt (Nat.lt_of_lt_of_le ltD ge_q1)
    obtain ⟨cq83, kq83, q83a, q83b, q83c⟩ := isOf hZ rfl E_q1
    obtain ⟨_, _, ⟨T83, L83, k83, n83⟩, -, X83, ⟨Lc83, hQ83, l83, y83, z83⟩, st83⟩ := X82.virtualBack hx (y := (⟨"java/util/ArrayList", "add", "(Ljava/lang/Object;)Z"⟩ : MethodName)) (z := (⟨"java/util/ArrayList", "add", "(Ljava/lang/Object;)Z"⟩ : MethodName)) hown (mvT hZ (hw _ (List.mem_of_getElem? (i := 27) rfl))) (mvT hZ (hw _ (List.mem_of_getElem? (i := 28) rfl))) (notFace_of_selects (args := #[]) (mvT hZ (hw _ (List.mem_of_getElem? (i := 30) rfl)))) (mvT hZ (hw _ (List.mem_of_getElem? (i := 30) rfl))) (mvT hZ (hw _ (List.mem_of_getElem? (i := 29) rfl))) (by decide) (backOf (W := 0) (own_alAdd l Z a0 hw [] q1 aD kD (fun _ => .null) (0 : Int32) xa T82.heap n0 Z0''''''''' Fm Fe Fs E_q1 ge_q1 (VD0.ext O.2) nD (SD0.ext O.2) (Ins.of_exa E_xa (hw _ (List.mem_of_getElem? (i := 57) rfl)))) hZ (hw _ (List.mem_of_getElem? (i := 31) rfl)) (hw _ (List.mem_of_getElem? (i := 3) rfl)) (by decide) (by decide)) q83a q83c (g := (mkF m 72 #[.val (.int p0), .val (.int p1), .val (.int p2), .val (.int p3), .val (.int o1), .val (.int o2), .val (.int o3), .val (.ref xa), .val (.ref xb), .val (.ref xc), .val (.ref q1), .unset, .unset, .unset, .unset, .unset, .unset, .unset, .unset] [(.ref xa), (.ref q1)])) rfl (by rw [hml]; rfl) (Steps.refl _) (argsL := [(.ref xa)]) (rest := []) (lenOf own_pd12 rfl) rfl (by show 2 * 0 + _ ≤ _; exact Nat.le_of_eq rfl) (hb hby at_72) (fun _ _ => ⟨rfl, rfl, (by decide : (((((0 + 1) + 1) + 1) + 1) + 0) + 1 ≤ _), (by decide : (((((0 + 1) + 2) + 1) + 3) + 0) + 10 ≤ _)⟩)
    dsimp only [Pt.U, Pt.locs, Pt.cells, Pt.slots] at X83 l83 y83 z83 st83 hQ83
    subst l83 y83 z83
    obtain ⟨rfl, N83q, K83, -⟩ := hQ83
    have N0'''''' := Fr.app N0''''' N83q
    have O := O.keep K83 ((allS ge_q1 all0))
    have E_xa := E_xa.keep K83
    have E_xb := E_xb.keep K83
    have E_xc := E_xc.keep K83
    have E_q1 := E_q1.keep K83
    have Z0'''''''''' := Nat.le_trans Z0''''''''' K83.1
    refine own_tr (T' := T83) (g' := (mkF m 75 #[.val (.int p0), .val (.int p1), .val (.int p2), .val (.int p3), .val (.int o1), .val (.int o2), .val (.int o3), .val (.ref xa), .val (.ref xb), .val (.ref xc), .val (.ref q1), .unset, .unset, .unset, .unset, .unset, .unset, .unset, .unset] [(.int (1 : Int32))])) st83 ?_
    refine own_st (T' := T83) (g' := (mkF m 76 #[.val (.int p0), .val (.int p1), .val (.int p2), .val (.int p3), .val (.int o1), .val (.int o2), .val (.int o3), .val (.ref xa), .val (.ref xb), .val (.ref xc), .val (.ref q1), .unset, .unset, .unset, .unset, .unset, .unset, .unset, .unset] [])) (fun _ k => XS.pop X83.here hx rfl (hb hby at_75) rfl rfl k) ?_
    obtain ⟨T84, h84, X84, e84, E84, A84, D84, -, st84⟩ := newO X83 hx hZ hown (hw _ (List.mem_of_getElem? (i := 1) rfl)) (hw _ (List.mem_of_getElem? (i := 2) rfl)) (hw _ (List.mem_of_getElem? (i := 3) rfl)) rfl (g := (mkF m 76 #[.val (.int p0), .val (.int p1), .val (.int p2), .val (.int p3), .val (.int o1), .val (.int o2), .val (.int o3), .val (.ref xa), .val (.ref xb), .val (.ref xc), .val (.ref q1), .unset, .unset, .unset, .unset, .unset, .unset, .unset, .unset] [])) rfl (hb hby at_76) (by decide) (by decide)
    obtain ⟨q2, gq2⟩ : ∃ z, z = T83.heap.size := ⟨_, rfl⟩
    rw [← gq2] at A84 D84 st84
    have ne_xa_q2 : xa ≠ q2 := own_ne E_xa.lt gq2
    have ne_xb_q2 : xb ≠ q2 := own_ne E_xb.lt gq2
    have ne_xc_q2 : xc ≠ q2 := own_ne E_xc.lt gq2
    have ne_q1_q2 : q1 ≠ q2 := own_ne E_q1.lt gq2
    have ge_q2 : n0 ≤ q2 := own_ge Z0'''''''''' gq2
    have O := O.ext E84
    have E_xa := E_xa.ext E84
    have E_xb := E_xb.ext E84
    have E_xc := E_xc.ext E84
    have E_q1 := E_q1.ext E84
    have Z0''''''''''' := Nat.le_trans Z0'''''''''' E84.1
    have E_q2 := A84
    have F_modCount_q2 : Fld Z h84 q2 "java/util/AbstractList" "modCount" "I" (.int (0 : Int32)) := D84 (Or.inl (hw _ (List.mem_of_getElem? (i := 23) rfl))) (ty := .int) (by decide)
    have F_elementData_q2 : Fld Z h84 q2 "java/util/ArrayList" "elementData" "[Ljava/lang/Object;" .null := D84 (Or.inl (hw _ (List.mem_of_getElem? (i := 26) rfl))) (ty := (.array (.object "java/lang/Object"))) (by decide)
    have F_size_q2 : Fld Z h84 q2 "java/util/ArrayList" "size" "I" (.int (0 : Int32)) := D84 (Or.inl (hw _ (List.mem_of_getElem? (i := 35) rfl))) (ty := .int) (by decide)
    refine own_st (T' := T84) (g' := (mkF m 79 #[.val (.int p0), .val (.int p1), .val (.int p2), .val (.int p3), .val (.int o1), .val (.int o2), .val (.int o3), .val (.ref xa), .val (.ref xb), .val (.ref xc), .val (.ref q1), .unset, .unset, .unset, .unset, .unset, .unset, .unset, .unset] [(.ref q2)])) st84 ?_
    refine own_st (T' := T84) (g' := (mkF m 80 #[.val (.int p0), .val (.int p1), .val (.int p2), .val (.int p3), .val (.int o1), .val (.int o2), .val (.int o3), .val (.ref xa), .val (.ref xb), .val (.ref xc), .val (.ref q1), .unset, .unset, .unset, .unset, .unset, .unset, .unset, .unset] [(.ref q2), (.ref q2)])) (fun _ k => XS.dup X84.here hx rfl (hb hby at_79) rfl rfl k) ?_
    obtain ⟨_, _, ⟨T85, L85, k85, n85⟩, -, X85, ⟨Lc85, hQ85, l85, y85, z85⟩, st85⟩ := X84.specialBack hx (y := (⟨"java/util/ArrayList", "<init>", "()V"⟩ : MethodName)) rfl hown (mvT hZ (hw _ (List.mem_of_getElem? (i := 4) rfl))) (mvT hZ (hw _ (List.mem_of_getElem? (i := 5) rfl))) (mvT hZ (hw _ (List.mem_of_getElem? (i := 6) rfl))) (by decide) (backOf (W := 1) (own_alIni l Z a0 hw [] q2 aD h84 n0 Z0''''''''''' F_modCount_q2 F_elementData_q2 F_size_q2 E_q2 ge_q2 O SD0) hZ (hw _ (List.mem_of_getElem? (i := 6) rfl)) (hw _ (List.mem_of_getElem? (i := 3) rfl)) (by decide) (by decide)) (g := (mkF m 80 #[.val (.int p0), .val (.int p1), .val (.int p2), .val (.int p3), .val (.int o1), .val (.int o2), .val (.int o3), .val (.ref xa), .val (.ref xb), .val (.ref xc), .val (.ref q1), .unset, .unset, .unset, .unset, .unset, .unset, .unset, .unset] [(.ref q2), (.ref q2)])) rfl (by rw [hml]; rfl) (Steps.refl _) (a := q2) (argsL := []) (rest := [(.ref q2)]) (lenOf own_pd0 rfl) rfl (by show 2 * 0 + _ ≤ _; exact Nat.le_of_eq rfl) (hb hby at_80) (fun _ _ => ⟨rfl, e84, (by decide : (((((((0 + 1) + 1) + 1) + 1) + 0) + 1) + 1) + 0 ≤ _), (by decide : (((((((0 + 1) + 2) + 1) + 3) + 0) + 10) + 3) + 0 ≤ _)⟩)
    dsimp only [Pt.U, Pt.locs, Pt.cells, Pt.slots] at X85 l85 y85 z85 st85 hQ85
    subst l85 y85 z85
    obtain ⟨rfl, N85q, K85, -, Fm, Fe, Fs⟩ := hQ85
    have N0''''''' := Fr.app N0'''''' N85q
    have O := O.keep K85 ((allS ge_q2 all0))
    have E_xa := E_xa.keep K85
    have E_xb := E_xb.keep K85
    have E_xc := E_xc.keep K85
    have E_q1 := E_q1.keep K85
    have E_q2 := E_q2.keep K85
    have Z0'''''''''''' := Nat.le_trans Z0''''''''''' K85.1
    refine own_tr (T' := T85) (g' := (mkF m 83 #[.val (.int p0), .val (.int p1), .val (.int p2), .val (.int p3), .val (.int o1), .val (.int o2), .val (.int o3), .val (.ref xa), .val (.ref xb), .val (.ref xc), .val (.ref q1), .unset, .unset, .unset, .unset, .unset, .unset, .unset, .unset] [(.ref q2)])) st85 ?_
    refine own_st (T' := T85) (g' := (mkF m 85 #[.val (.int p0), .val (.int p1), .val (.int p2), .val (.int p3), .val (.int o1), .val (.int o2), .val (.int o3), .val (.ref xa), .val (.ref xb), .val (.ref xc), .val (.ref q1), .val (.ref q2), .unset, .unset, .unset, .unset, .unset, .unset, .unset] [])) (fun _ k => XS.astore X85.here hx rfl (hb hby at_83) rfl rfl (l' := #[.val (.int p0), .val (.int p1), .val (.int p2), .val (.int p3), .val (.int o1), .val (.int o2), .val (.int o3), .val (.ref xa), .val (.ref xb), .val (.ref xc), .val (.ref q1), .val (.ref q2), .unset, .unset, .unset, .unset, .unset, .unset, .unset]) rfl k) ?_
    obtain ⟨T86, h86, X86, e86, E86, A86, D86, -, st86⟩ := newO X85 hx hZ hown (hw _ (List.mem_of_getElem? (i := 1) rfl)) (hw _ (List.mem_of_getElem? (i := 2) rfl)) (hw _ (List.mem_of_getElem? (i := 3) rfl)) rfl (g := (mkF m 85 #[.val (.int p0), .val (.int p1), .val (.int p2), .val (.int p3), .val (.int o1), .val (.int o2), .val (.int o3), .val (.ref xa), .val (.ref xb), .val (.ref xc), .val (.ref q1), .val (.ref q2), .unset, .unset, .unset, .unset, .unset, .unset, .unset] [])) rfl (hb hby at_85) (by decide) (by decide)
    obtain ⟨q3, gq3⟩ : ∃ z, z = T85.heap.size := ⟨_, rfl⟩
    rw [← gq3] at A86 D86 st86
    have ne_xa_q3 : xa ≠ q3 := own_ne E_xa.lt gq3
    have ne_xb_q3 : xb ≠ q3 := own_ne E_xb.lt gq3
    have ne_xc_q3 : xc ≠ q3 := own_ne E_xc.lt gq3
    have ne_q1_q3 : q1 ≠ q3 := own_ne E_q1.lt gq3
    have ne_q2_q3 : q2 ≠ q3 := own_ne E_q2.lt gq3
    have ge_q3 : n0 ≤ q3 := own_ge Z0'''''''''''' gq3
    have O := O.ext E86
    have E_xa := E_xa.ext E86
    have E_xb := E_xb.ext E86
    have E_xc := E_xc.ext E86
    have E_q1 := E_q1.ext E86
    have E_q2 := E_q2.ext E86
    have Z0''''''''''''' := Nat.le_trans Z0'''''''''''' E86.1
    have E_q3 := A86
    have F_modCount_q3 : Fld Z h86 q3 "java/util/AbstractList" "modCount" "I" (.int (0 : Int32)) := D86 (Or.inl (hw _ (List.mem_of_getElem? (i := 23) rfl))) (ty := .int) (by decide)
    have F_elementData_q3 : Fld Z h86 q3 "java/util/ArrayList" "elementData" "[Ljava/lang/Object;" .null := D86 (Or.inl (hw _ (List.mem_of_getElem? (i := 26) rfl))) (ty := (.array (.object "java/lang/Object"))) (by decide)
    have F_size_q3 : Fld Z h86 q3 "java/util/ArrayList" "size" "I" (.int (0 : Int32)) := D86 (Or.inl (hw _ (List.mem_of_getElem? (i := 35) rfl))) (ty := .int) (by decide)
    refine own_st (T' := T86) (g' := (mkF m 88 #[.val (.int p0), .val (.int p1), .val (.int p2), .val (.int p3), .val (.int o1), .val (.int o2), .val (.int o3), .val (.ref xa), .val (.ref xb), .val (.ref xc), .val (.ref q1), .val (.ref q2), .unset, .unset, .unset, .unset, .unset, .unset, .unset] [(.ref q3)])) st86 ?_
    refine own_st (T' := T86) (g' := (mkF m 89 #[.val (.int p0), .val (.int p1), .val (.int p2), .val (.int p3), .val (.int o1), .val (.int o2), .val (.int o3), .val (.ref xa), .val (.ref xb), .val (.ref xc), .val (.ref q1), .val (.ref q2), .unset, .unset, .unset, .unset, .unset, .unset, .unset] [(.ref q3), (.ref q3)])) (fun _ k => XS.dup X86.here hx rfl (hb hby at_88) rfl rfl k) ?_
    obtain ⟨_, _, ⟨T87, L87, k87, n87⟩, -, X87, ⟨Lc87, hQ87, l87, y87, z87⟩, st87⟩ := X86.specialBack hx (y := (⟨"java/util/ArrayList", "<init>", "()V"⟩ : MethodName)) rfl hown (mvT hZ (hw _ (List.mem_of_getElem? (i := 4) rfl))) (mvT hZ (hw _ (List.mem_of_getElem? (i := 5) rfl))) (mvT hZ (hw _ (List.mem_of_getElem? (i := 6) rfl))) (by decide) (backOf (W := 1) (own_alIni l Z a0 hw [] q3 aD h86 n0 Z0''''''''''''' F_modCount_q3 F_elementData_q3 F_size_q3 E_q3 ge_q3 O SD0) hZ (hw _ (List.mem_of_getElem? (i := 6) rfl)) (hw _ (List.mem_of_getElem? (i := 3) rfl)) (by decide) (by decide)) (g := (mkF m 89 #[.val (.int p0), .val (.int p1), .val (.int p2), .val (.int p3), .val (.int o1), .val (.int o2), .val (.int o3), .val (.ref xa), .val (.ref xb), .val (.ref xc), .val (.ref q1), .val (.ref q2), .unset, .unset, .unset, .unset, .unset, .unset, .unset] [(.ref q3), (.ref q3)])) rfl (by rw [hml]; rfl) (Steps.refl _) (a := q3) (argsL := []) (rest := [(.ref q3)]) (lenOf own_pd0 rfl) rfl (by show 2 * 0 + _ ≤ _; exact Nat.le_of_eq rfl) (hb hby at_89) (fun _ _ => ⟨rfl, e86, (by decide : (((((((((0 + 1) + 1) + 1) + 1) + 0) + 1) + 1) + 0) + 1) + 0 ≤ _), (by decide : (((((((((0 + 1) + 2) + 1) + 3) + 0) + 10) + 3) + 0) + 3) + 0 ≤ _)⟩)
    dsimp only [Pt.U, Pt.locs, Pt.cells, Pt.slots] at X87 l87 y87 z87 st87 hQ87
    subst l87 y87 z87
    obtain ⟨rfl, N87q, K87, -, Fm, Fe, Fs⟩ := hQ87
    have N0'''''''' := Fr.app N0''''''' N87q
    have O := O.keep K87 ((allS ge_q3 all0))
    have E_xa := E_xa.keep K87
    have E_xb := E_xb.keep K87
    have E_xc := E_xc.keep K87
    have E_q1 := E_q1.keep K87
    have E_q2 := E_q2.keep K87
    have E_q3 := E_q3.keep K87
    have Z0'''''''''''''' := Nat.le_trans Z0''''''''''''' K87.1
    refine own_tr (T' := T87) (g' := (mkF m 92 #[.val (.int p0), .val (.int p1), .val (.int p2), .val (.int p3), .val (.int o1), .val (.int o2), .val (.int o3), .val (.ref xa), .val (.ref xb), .val (.ref xc), .val (.ref q1), .val (.ref q2), .unset, .unset, .unset, .unset, .unset, .unset, .unset] [(.ref q3)])) st87 ?_
    refine own_st (T' := T87) (g' := (mkF m 94 #[.val (.int p0), .val (.int p1), .val (.int p2), .val (.int p3), .val (.int o1), .val (.int o2), .val (.int o3), .val (.ref xa), .val (.ref xb), .val (.ref xc), .val (.ref q1), .val (.ref q2), .val (.ref q3), .unset, .unset, .unset, .unset, .unset, .unset] [])) (fun _ k => XS.astore X87.here hx rfl (hb hby at_92) rfl rfl (l' := #[.val (.int p0), .val (.int p1), .val (.int p2), .val (.int p3), .val (.int o1), .val (.int o2), .val (.int o3), .val (.ref xa), .val (.ref xb), .val (.ref xc), .val (.ref q1), .val (.ref q2), .val (.ref q3), .unset, .unset, .unset, .unset, .unset, .unset]) rfl k) ?_
    refine own_st (T' := T87) (g' := (mkF m 96 #[.val (.int p0), .val (.int p1), .val (.int p2), .val (.int p3), .val (.int o1), .val (.int o2), .val (.int o3), .val (.ref xa), .val (.ref xb), .val (.ref xc), .val (.ref q1), .val (.ref q2), .val (.ref q3), .unset, .unset, .unset, .unset, .unset, .unset] [(.ref q3)])) (fun _ k => XS.aload X87.here hx rfl (hb hby at_94) rfl rfl k) ?_
    refine own_st (T' := T87) (g' := (mkF m 98 #[.val (.int p0), .val (.int p1), .val (.int p2), .val (.int p3), .val (.int o1), .val (.int o2), .val (.int o3), .val (.ref xa), .val (.ref xb), .val (.ref xc), .val (.ref q1), .val (.ref q2), .val (.ref q3), .unset, .unset, .unset, .unset, .unset, .unset] [(.ref xc), (.ref q3)])) (fun _ k => XS.aload X87.here hx rfl (hb hby at_96) rfl rfl k) ?_
    have ltD := Nat.lt_of_lt_of_le VD0.lt (Nat.le_of_eq O.1)
    have nD : aD ≠ q3 := Nat.ne_of_lt (Nat.lt_of_lt_of_le ltD ge_q3)
    obtain ⟨cq88, kq88, q88a, q88b, q88c⟩ := isOf hZ rfl E_q3
    obtain ⟨_, _, ⟨T88, L88, k88, n88⟩, -, X88, ⟨Lc88, hQ88, l88, y88, z88⟩, st88⟩ := X87.virtualBack hx (y := (⟨"java/util/ArrayList", "add", "(Ljava/lang/Object;)Z"⟩ : MethodName)) (z := (⟨"java/util/ArrayList", "add", "(Ljava/lang/Object;)Z"⟩ : MethodName)) hown (mvT hZ (hw _ (List.mem_of_getElem? (i := 27) rfl))) (mvT hZ (hw _ (List.mem_of_getElem? (i := 28) rfl))) (notFace_of_selects (args := #[]) (mvT hZ (hw _ (List.mem_of_getElem? (i := 30) rfl)))) (mvT hZ (hw _ (List.mem_of_getElem? (i := 30) rfl))) (mvT hZ (hw _ (List.mem_of_getElem? (i := 29) rfl))) (by decide) (backOf (W := 0) (own_alAdd l Z a0 hw [] q3 aD kD (fun _ => .null) (0 : Int32) xc T87.heap n0 Z0'''''''''''''' Fm Fe Fs E_q3 ge_q3 (VD0.ext O.2) nD (SD0.ext O.2) (Ins.of_exa E_xc (hw _ (List.mem_of_getElem? (i := 57) rfl)))) hZ (hw _ (List.mem_of_getElem? (i := 31) rfl)) (hw _ (List.mem_of_getElem? (i := 3) rfl)) (by decide) (by decide)) q88a q88c (g := (mkF m 98 #[.val (.int p0), .val (.int p1), .val (.int p2), .val (.int p3), .val (.int o1), .val (.int o2), .val (.int o3), .val (.ref xa), .val (.ref xb), .val (.ref xc), .val (.ref q1), .val (.ref q2), .val (.ref q3), .unset, .unset, .unset, .unset, .unset, .unset] [(.ref xc), (.ref q3)])) rfl (by rw [hml]; rfl) (Steps.refl _) (argsL := [(.ref xc)]) (rest := []) (lenOf own_pd12 rfl) rfl (by show 2 * 0 + _ ≤ _; exact Nat.le_of_eq rfl) (hb hby at_98) (fun _ _ => ⟨rfl, rfl, (by decide : ((((((((((0 + 1) + 1) + 1) + 1) + 0) + 1) + 1) + 0) + 1) + 0) + 1 ≤ _), (by decide : ((((((((((0 + 1) + 2) + 1) + 3) + 0) + 10) + 3) + 0) + 3) + 0) + 10 ≤ _)⟩)
    dsimp only [Pt.U, Pt.locs, Pt.cells, Pt.slots] at X88 l88 y88 z88 st88 hQ88
    subst l88 y88 z88
    obtain ⟨rfl, N88q, K88, -⟩ := hQ88
    have N0''''''''' := Fr.app N0'''''''' N88q
    have O := O.keep K88 ((allS ge_q3 all0))
    have E_xa := E_xa.keep K88
    have E_xb := E_xb.keep K88
    have E_xc := E_xc.keep K88
    have E_q1 := E_q1.keep K88
    have E_q2 := E_q2.keep K88
    have E_q3 := E_q3.keep K88
    have Z0''''''''''''''' := Nat.le_trans Z0'''''''''''''' K88.1
    refine own_tr (T' := T88) (g' := (mkF m 101 #[.val (.int p0), .val (.int p1), .val (.int p2), .val (.int p3), .val (.int o1), .val (.int o2), .val (.int o3), .val (.ref xa), .val (.ref xb), .val (.ref xc), .val (.ref q1), .val (.ref q2), .val (.ref q3), .unset, .unset, .unset, .unset, .unset, .unset] [(.int (1 : Int32))])) st88 ?_
    refine own_st (T' := T88) (g' := (mkF m 102 #[.val (.int p0), .val (.int p1), .val (.int p2), .val (.int p3), .val (.int o1), .val (.int o2), .val (.int o3), .val (.ref xa), .val (.ref xb), .val (.ref xc), .val (.ref q1), .val (.ref q2), .val (.ref q3), .unset, .unset, .unset, .unset, .unset, .unset] [])) (fun _ k => XS.pop X88.here hx rfl (hb hby at_101) rfl rfl k) ?_
    obtain ⟨T89, h89, X89, e89, E89, A89, D89, -, st89⟩ := newO X88 hx hZ hown (hw _ (List.mem_of_getElem? (i := 58) rfl)) (hw _ (List.mem_of_getElem? (i := 59) rfl)) (hw _ (List.mem_of_getElem? (i := 60) rfl)) rfl (g := (mkF m 102 #[.val (.int p0), .val (.int p1), .val (.int p2), .val (.int p3), .val (.int o1), .val (.int o2), .val (.int o3), .val (.ref xa), .val (.ref xb), .val (.ref xc), .val (.ref q1), .val (.ref q2), .val (.ref q3), .unset, .unset, .unset, .unset, .unset, .unset] [])) rfl (hb hby at_102) (by decide) (by decide)
    obtain ⟨r, gr⟩ : ∃ z, z = T88.heap.size := ⟨_, rfl⟩
    rw [← gr] at A89 D89 st89
    have ne_xa_r : xa ≠ r := own_ne E_xa.lt gr
    have ne_xb_r : xb ≠ r := own_ne E_xb.lt gr
    have ne_xc_r : xc ≠ r := own_ne E_xc.lt gr
    have ne_q1_r : q1 ≠ r := own_ne E_q1.lt gr
    have ne_q2_r : q2 ≠ r := own_ne E_q2.lt gr
    have ne_q3_r : q3 ≠ r := own_ne E_q3.lt gr
    have ge_r : n0 ≤ r := own_ge Z0''''''''''''''' gr
    have O := O.ext E89
    have E_xa := E_xa.ext E89
    have E_xb := E_xb.ext E89
    have E_xc := E_xc.ext E89
    have E_q1 := E_q1.ext E89
    have E_q2 := E_q2.ext E89
    have E_q3 := E_q3.ext E89
    have Z0'''''''''''''''' := Nat.le_trans Z0''''''''''''''' E89.1
    have E_r := A89
    have F_record_r : Fld Z h89 r "com/example/ovrdue/ovrdue/command/Rewrite" "record" "Ljava/util/List;" .null := D89 (Or.inl (hw _ (List.mem_of_getElem? (i := 113) rfl))) (ty := (.object "java/util/List")) (by decide)
    have F_named_r : Fld Z h89 r "com/example/ovrdue/ovrdue/command/Rewrite" "named" "Z" (.int (0 : Int32)) := D89 (Or.inl (hw _ (List.mem_of_getElem? (i := 115) rfl))) (ty := .boolean) (by decide)
    refine own_st (T' := T89) (g' := (mkF m 105 #[.val (.int p0), .val (.int p1), .val (.int p2), .val (.int p3), .val (.int o1), .val (.int o2), .val (.int o3), .val (.ref xa), .val (.ref xb), .val (.ref xc), .val (.ref q1), .val (.ref q2), .val (.ref q3), .unset, .unset, .unset, .unset, .unset, .unset] [(.ref r)])) st89 ?_
    refine own_st (T' := T89) (g' := (mkF m 106 #[.val (.int p0), .val (.int p1), .val (.int p2), .val (.int p3), .val (.int o1), .val (.int o2), .val (.int o3), .val (.ref xa), .val (.ref xb), .val (.ref xc), .val (.ref q1), .val (.ref q2), .val (.ref q3), .unset, .unset, .unset, .unset, .unset, .unset] [(.ref r), (.ref r)])) (fun _ k => XS.dup X89.here hx rfl (hb hby at_105) rfl rfl k) ?_
    obtain ⟨_, _, ⟨T90, L90, k90, n90⟩, -, X90, ⟨Lc90, hQ90, l90, y90, z90⟩, st90⟩ := X89.specialBack hx (y := (⟨"com/example/ovrdue/ovrdue/command/Rewrite", "<init>", "()V"⟩ : MethodName)) rfl hown (mvT hZ (hw _ (List.mem_of_getElem? (i := 61) rfl))) (mvT hZ (hw _ (List.mem_of_getElem? (i := 62) rfl))) (mvT hZ (hw _ (List.mem_of_getElem? (i := 63) rfl))) (by decide) (backOf (W := 1) (own_rwi l Z a0 hw [] r h89 n0 Z0'''''''''''''''' ) hZ (hw _ (List.mem_of_getElem? (i := 63) rfl)) (hw _ (List.mem_of_getElem? (i := 60) rfl)) (by decide) (by decide)) (g := (mkF m 106 #[.val (.int p0), .val (.int p1), .val (.int p2), .val (.int p3), .val (.int o1), .val (.int o2), .val (.int o3), .val (.ref xa), .val (.ref xb), .val (.ref xc), .val (.ref q1), .val (.ref q2), .val (.ref q3), .unset, .unset, .unset, .unset, .unset, .unset] [(.ref r), (.ref r)])) rfl (by rw [hml]; rfl) (Steps.refl _) (a := r) (argsL := []) (rest := [(.ref r)]) (lenOf own_pd0 rfl) rfl (by show 2 * 0 + _ ≤ _; exact Nat.le_of_eq rfl) (hb hby at_106) (fun _ _ => ⟨rfl, e89, (by decide : ((((((((((((0 + 1) + 1) + 1) + 1) + 0) + 1) + 1) + 0) + 1) + 0) + 1) + 1) + 0 ≤ _), (by decide : ((((((((((((0 + 1) + 2) + 1) + 3) + 0) + 10) + 3) + 0) + 3) + 0) + 10) + 2) + 0 ≤ _)⟩)
    dsimp only [Pt.U, Pt.locs, Pt.cells, Pt.slots] at X90 l90 y90 z90 st90 hQ90
    subst l90 y90 z90
    obtain ⟨rfl, N90q, e90⟩ := hQ90
    have N0'''''''''' := Fr.app N0''''''''' N90q
    refine own_tr (T' := T90) (g' := (mkF m 109 #[.val (.int p0), .val (.int p1), .val (.int p2), .val (.int p3), .val (.int o1), .val (.int o2), .val (.int o3), .val (.ref xa), .val (.ref xb), .val (.ref xc), .val (.ref q1), .val (.ref q2), .val (.ref q3), .unset, .unset, .unset, .unset, .unset, .unset] [(.ref r)])) st90 ?_
    refine own_st (T' := T90) (g' := (mkF m 111 #[.val (.int p0), .val (.int p1), .val (.int p2), .val (.int p3), .val (.int o1), .val (.int o2), .val (.int o3), .val (.ref xa), .val (.ref xb), .val (.ref xc), .val (.ref q1), .val (.ref q2), .val (.ref q3), .val (.ref r), .unset, .unset, .unset, .unset, .unset] [])) (fun _ k => XS.astore X90.here hx rfl (hb hby at_109) rfl rfl (l' := #[.val (.int p0), .val (.int p1), .val (.int p2), .val (.int p3), .val (.int o1), .val (.int o2), .val (.int o3), .val (.ref xa), .val (.ref xb), .val (.ref xc), .val (.ref q1), .val (.ref q2), .val (.ref q3), .val (.ref r), .unset, .unset, .unset, .unset, .unset]) rfl k) ?_
    refine own_st (T' := T90) (g' := (mkF m 113 #[.val (.int p0), .val (.int p1), .val (.int p2), .val (.int p3), .val (.int o1), .val (.int o2), .val (.int o3), .val (.ref xa), .val (.ref xb), .val (.ref xc), .val (.ref q1), .val (.ref q2), .val (.ref q3), .val (.ref r), .unset, .unset, .unset, .unset, .unset] [(.ref r)])) (fun _ k => XS.aload X90.here hx rfl (hb hby at_111) rfl rfl k) ?_
    refine own_st (T' := T90) (g' := (mkF m 115 #[.val (.int p0), .val (.int p1), .val (.int p2), .val (.int p3), .val (.int o1), .val (.int o2), .val (.int o3), .val (.ref xa), .val (.ref xb), .val (.ref xc), .val (.ref q1), .val (.ref q2), .val (.ref q3), .val (.ref r), .unset, .unset, .unset, .unset, .unset] [(.int o1), (.ref r)])) (fun _ k => XS.iload X90.here hx rfl (hb hby at_113) rfl k) ?_
    refine own_st (T' := T90) (g' := (mkF m 117 #[.val (.int p0), .val (.int p1), .val (.int p2), .val (.int p3), .val (.int o1), .val (.int o2), .val (.int o3), .val (.ref xa), .val (.ref xb), .val (.ref xc), .val (.ref q1), .val (.ref q2), .val (.ref q3), .val (.ref r), .unset, .unset, .unset, .unset, .unset] [(.ref xa), (.int o1), (.ref r)])) (fun _ k => XS.aload X90.here hx rfl (hb hby at_115) rfl rfl k) ?_
    refine own_st (T' := T90) (g' := (mkF m 119 #[.val (.int p0), .val (.int p1), .val (.int p2), .val (.int p3), .val (.int o1), .val (.int o2), .val (.int o3), .val (.ref xa), .val (.ref xb), .val (.ref xc), .val (.ref q1), .val (.ref q2), .val (.ref q3), .val (.ref r), .unset, .unset, .unset, .unset, .unset] [(.ref xb), (.ref xa), (.int o1), (.ref r)])) (fun _ k => XS.aload X90.here hx rfl (hb hby at_117) rfl rfl k) ?_
    refine own_st (T' := T90) (g' := (mkF m 121 #[.val (.int p0), .val (.int p1), .val (.int p2), .val (.int p3), .val (.int o1), .val (.int o2), .val (.int o3), .val (.ref xa), .val (.ref xb), .val (.ref xc), .val (.ref q1), .val (.ref q2), .val (.ref q3), .val (.ref r), .unset, .unset, .unset, .unset, .unset] [(.ref xc), (.ref xb), (.ref xa), (.int o1), (.ref r)])) (fun _ k => XS.aload X90.here hx rfl (hb hby at_119) rfl rfl k) ?_
    have Rw : own_Rw Z h89 r 0 xa xb xc aM := ⟨_, _, F_record_r, F_named_r, Or.inl ⟨rfl, rfl⟩⟩
    have aMl := Nat.lt_of_lt_of_le EM0.lt (Nat.le_of_eq O.1)
    have nb : xb ≠ aM := Ne.symm (Nat.ne_of_lt (Nat.lt_of_lt_of_le aMl ge_xb))
    obtain ⟨_, _, ⟨T91, L91, k91, n91⟩, -, X91, ⟨Lc91, hQ91, l91, y91, z91⟩, st91⟩ := Jvm.LawKit.callS X90 hx (y := (⟨"com/example/ovrdue/ovrdue/command/RewriteTakePinLaw", "apply", "(Lcom/example/ovrdue/ovrdue/command/Rewrite;I[B[B[B)V"⟩ : MethodName)) hown (mvT hZ (hw _ (List.mem_of_getElem? (i := 65) rfl))) (mvT hZ (hw _ (List.mem_of_getElem? (i := 66) rfl))) (mvT hZ (hw _ (List.mem_of_getElem? (i := 67) rfl))) (mvT hZ (hw _ (List.mem_of_getElem? (i := 68) rfl))) (by decide) (backOf (W := 0) (own_apply l Z a0 hw [] r o1 xa xb xc aM 0 h89 n0 Z0'''''''''''''''' Rw E_r ge_r ho1 E_xa E_xb E_xc ne_xa_r ne_xb_r ne_xc_r (SE0.ext O.2)) hZ (hw _ (List.mem_of_getElem? (i := 68) rfl)) (hw _ (List.mem_of_getElem? (i := 67) rfl)) (by decide) (by decide)) (g := (mkF m 121 #[.val (.int p0), .val (.int p1), .val (.int p2), .val (.int p3), .val (.int o1), .val (.int o2), .val (.int o3), .val (.ref xa), .val (.ref xb), .val (.ref xc), .val (.ref q1), .val (.ref q2), .val (.ref q3), .val (.ref r), .unset, .unset, .unset, .unset, .unset] [(.ref xc), (.ref xb), (.ref xa), (.int o1), (.ref r)])) rfl (by rw [hml]; rfl) (argsL := [(.ref r), (.int o1), (.ref xa), (.ref xb), (.ref xc)]) (rest := []) (lenOf own_pd13 rfl) rfl (by show 2 * 0 + _ ≤ _; exact Nat.le_of_eq rfl) (hb hby at_121) (fun _ _ => ⟨rfl, e90, (by decide : (((((((((((((0 + 1) + 1) + 1) + 1) + 0) + 1) + 1) + 0) + 1) + 0) + 1) + 1) + 0) + 2 ≤ _), (by decide : (((((((((((((0 + 1) + 2) + 1) + 3) + 0) + 10) + 3) + 0) + 3) + 0) + 10) + 2) + 0) + 4 ≤ _)⟩)
    dsimp only [Pt.U, Pt.locs, Pt.cells, Pt.slots] at X91 l91 y91 z91 st91 hQ91
    subst l91 y91 z91
    obtain ⟨rfl, N91q, K91, Rw⟩ := hQ91
    have N0''''''''''' := Fr.app N0'''''''''' N91q
    have O := O.keep K91 ((allS ge_r all0))
    have E_xa := E_xa.keep K91
    have E_xb := E_xb.keep K91
    have E_xc := E_xc.keep K91
    have E_q1 := E_q1.keep K91
    have E_q2 := E_q2.keep K91
    have E_q3 := E_q3.keep K91
    have E_r := E_r.keep K91
    have Z0''''''''''''''''' := Nat.le_trans Z0'''''''''''''''' K91.1
    refine own_st (T' := T91) (g' := (mkF m 124 #[.val (.int p0), .val (.int p1), .val (.int p2), .val (.int p3), .val (.int o1), .val (.int o2), .val (.int o3), .val (.ref xa), .val (.ref xb), .val (.ref xc), .val (.ref q1), .val (.ref q2), .val (.ref q3), .val (.ref r), .unset, .unset, .unset, .unset, .unset] [])) st91 ?_
    refine own_st (T' := T91) (g' := (mkF m 126 #[.val (.int p0), .val (.int p1), .val (.int p2), .val (.int p3), .val (.int o1), .val (.int o2), .val (.int o3), .val (.ref xa), .val (.ref xb), .val (.ref xc), .val (.ref q1), .val (.ref q2), .val (.ref q3), .val (.ref r), .unset, .unset, .unset, .unset, .unset] [(.ref r)])) (fun _ k => XS.aload X91.here hx rfl (hb hby at_124) rfl rfl k) ?_
    refine own_st (T' := T91) (g' := (mkF m 128 #[.val (.int p0), .val (.int p1), .val (.int p2), .val (.int p3), .val (.int o1), .val (.int o2), .val (.int o3), .val (.ref xa), .val (.ref xb), .val (.ref xc), .val (.ref q1), .val (.ref q2), .val (.ref q3), .val (.ref r), .unset, .unset, .unset, .unset, .unset] [(.int o2), (.ref r)])) (fun _ k => XS.iload X91.here hx rfl (hb hby at_126) rfl k) ?_
    refine own_st (T' := T91) (g' := (mkF m 130 #[.val (.int p0), .val (.int p1), .val (.int p2), .val (.int p3), .val (.int o1), .val (.int o2), .val (.int o3), .val (.ref xa), .val (.ref xb), .val (.ref xc), .val (.ref q1), .val (.ref q2), .val (.ref q3), .val (.ref r), .unset, .unset, .unset, .unset, .unset] [(.ref xa), (.int o2), (.ref r)])) (fun _ k => XS.aload X91.here hx rfl (hb hby at_128) rfl rfl k) ?_
    refine own_st (T' := T91) (g' := (mkF m 132 #[.val (.int p0), .val (.int p1), .val (.int p2), .val (.int p3), .val (.int o1), .val (.int o2), .val (.int o3), .val (.ref xa), .val (.ref xb), .val (.ref xc), .val (.ref q1), .val (.ref q2), .val (.ref q3), .val (.ref r), .unset, .unset, .unset, .unset, .unset] [(.ref xb), (.ref xa), (.int o2), (.ref r)])) (fun _ k => XS.aload X91.here hx rfl (hb hby at_130) rfl rfl k) ?_
    refine own_st (T' := T91) (g' := (mkF m 134 #[.val (.int p0), .val (.int p1), .val (.int p2), .val (.int p3), .val (.int o1), .val (.int o2), .val (.int o3), .val (.ref xa), .val (.ref xb), .val (.ref xc), .val (.ref q1), .val (.ref q2), .val (.ref q3), .val (.ref r), .unset, .unset, .unset, .unset, .unset] [(.ref xc), (.ref xb), (.ref xa), (.int o2), (.ref r)])) (fun _ k => XS.aload X91.here hx rfl (hb hby at_132) rfl rfl k) ?_
    obtain ⟨_, _, ⟨T92, L92, k92, n92⟩, -, X92, ⟨Lc92, hQ92, l92, y92, z92⟩, st92⟩ := Jvm.LawKit.callS X91 hx (y := (⟨"com/example/ovrdue/ovrdue/command/RewriteTakePinLaw", "apply", "(Lcom/example/ovrdue/ovrdue/command/Rewrite;I[B[B[B)V"⟩ : MethodName)) hown (mvT hZ (hw _ (List.mem_of_getElem? (i := 65) rfl))) (mvT hZ (hw _ (List.mem_of_getElem? (i := 66) rfl))) (mvT hZ (hw _ (List.mem_of_getElem? (i := 67) rfl))) (mvT hZ (hw _ (List.mem_of_getElem? (i := 68) rfl))) (by decide) (backOf (W := 0) (own_apply l Z a0 hw [] r o2 xa xb xc aM (if o1 = 0 then 0 else o1) T91.heap n0 Z0''''''''''''''''' Rw E_r ge_r ho2 E_xa E_xb E_xc ne_xa_r ne_xb_r ne_xc_r (SE0.ext O.2)) hZ (hw _ (List.mem_of_getElem? (i := 68) rfl)) (hw _ (List.mem_of_getElem? (i := 67) rfl)) (by decide) (by decide)) (g := (mkF m 134 #[.val (.int p0), .val (.int p1), .val (.int p2), .val (.int p3), .val (.int o1), .val (.int o2), .val (.int o3), .val (.ref xa), .val (.ref xb), .val (.ref xc), .val (.ref q1), .val (.ref q2), .val (.ref q3), .val (.ref r), .unset, .unset, .unset, .unset, .unset] [(.ref xc), (.ref xb), (.ref xa), (.int o2), (.ref r)])) rfl (by rw [hml]; rfl) (argsL := [(.ref r), (.int o2), (.ref xa), (.ref xb), (.ref xc)]) (rest := []) (lenOf own_pd13 rfl) rfl (by show 2 * 0 + _ ≤ _; exact Nat.le_of_eq rfl) (hb hby at_134) (fun _ _ => ⟨rfl, rfl, (by decide : ((((((((((((((0 + 1) + 1) + 1) + 1) + 0) + 1) + 1) + 0) + 1) + 0) + 1) + 1) + 0) + 2) + 2 ≤ _), (by decide : ((((((((((((((0 + 1) + 2) + 1) + 3) + 0) + 10) + 3) + 0) + 3) + 0) + 10) + 2) + 0) + 4) + 4 ≤ _)⟩)
    dsimp only [Pt.U, Pt.locs, Pt.cells, Pt.slots] at X92 l92 y92 z92 st92 hQ92
    subst l92 y92 z92
    obtain ⟨rfl, N92q, K92, Rw⟩ := hQ92
    have N0'''''''''''' := Fr.app N0''''''''''' N92q
    have O := O.keep K92 ((allS ge_r all0))
    have E_xa := E_xa.keep K92
    have E_xb := E_xb.keep K92
    have E_xc := E_xc.keep K92
    have E_q1 := E_q1.keep K92
    have E_q2 := E_q2.keep K92
    have E_q3 := E_q3.keep K92
    have E_r := E_r.keep K92
    have Z0'''''''''''''''''' := Nat.le_trans Z0''''''''''''''''' K92.1
    refine own_st (T' := T92) (g' := (mkF m 137 #[.val (.int p0), .val (.int p1), .val (.int p2), .val (.int p3), .val (.int o1), .val (.int o2), .val (.int o3), .val (.ref xa), .val (.ref xb), .val (.ref xc), .val (.ref q1), .val (.ref q2), .val (.ref q3), .val (.ref r), .unset, .unset, .unset, .unset, .unset] [])) st92 ?_
    have hlast : (if o2 = 0 then (if o1 = 0 then 0 else o1) else o2) = (if o2 = 0 then o1 else o2) := by by_cases u : o1 = 0 <;> simp [u]
    rw [hlast] at Rw
    refine own_st (T' := T92) (g' := (mkF m 139 #[.val (.int p0), .val (.int p1), .val (.int p2), .val (.int p3), .val (.int o1), .val (.int o2), .val (.int o3), .val (.ref xa), .val (.ref xb), .val (.ref xc), .val (.ref q1), .val (.ref q2), .val (.ref q3), .val (.ref r), .unset, .unset, .unset, .unset, .unset] [(.int o2)])) (fun _ k => XS.iload X92.here hx rfl (hb hby at_137) rfl k) ?_
    have J149 : ∀ (la : Int32) (hla : la = (if o2 = 0 then o1 else o2)), own_Go p e below s (own_law_Q Z p0 p1 p2 p3 aD kD aM h0 n0) 40 192 T92 (mkF m 149 #[.val (.int p0), .val (.int p1), .val (.int p2), .val (.int p3), .val (.int o1), .val (.int o2), .val (.int o3), .val (.ref xa), .val (.ref xb), .val (.ref xc), .val (.ref q1), .val (.ref q2), .val (.ref q3), .val (.ref r), .unset, .unset, .unset, .unset, .unset] [(.int la)]) := by
      intro la hla
      refine own_st (T' := T92) (g' := (mkF m 151 #[.val (.int p0), .val (.int p1), .val (.int p2), .val (.int p3), .val (.int o1), .val (.int o2), .val (.int o3), .val (.ref xa), .val (.ref xb), .val (.ref xc), .val (.ref q1), .val (.ref q2), .val (.ref q3), .val (.ref r), .val (.int la), .unset, .unset, .unset, .unset] [])) (fun _ k => XS.istore X92.here hx rfl (hb hby at_149) rfl (l' := #[.val (.int p0), .val (.int p1), .val (.int p2), .val (.int p3), .val (.int o1), .val (.int o2), .val (.int o3), .val (.ref xa), .val (.ref xb), .val (.ref xc), .val (.ref q1), .val (.ref q2), .val (.ref q3), .val (.ref r), .val (.int la), .unset, .unset, .unset, .unset]) rfl k) ?_
      refine own_st (T' := T92) (g' := (mkF m 153 #[.val (.int p0), .val (.int p1), .val (.int p2), .val (.int p3), .val (.int o1), .val (.int o2), .val (.int o3), .val (.ref xa), .val (.ref xb), .val (.ref xc), .val (.ref q1), .val (.ref q2), .val (.ref q3), .val (.ref r), .val (.int la), .unset, .unset, .unset, .unset] [(.ref r)])) (fun _ k => XS.aload X92.here hx rfl (hb hby at_151) rfl rfl k) ?_
      refine own_st (T' := T92) (g' := (mkF m 155 #[.val (.int p0), .val (.int p1), .val (.int p2), .val (.int p3), .val (.int o1), .val (.int o2), .val (.int o3), .val (.ref xa), .val (.ref xb), .val (.ref xc), .val (.ref q1), .val (.ref q2), .val (.ref q3), .val (.ref r), .val (.int la), .unset, .unset, .unset, .unset] [(.ref q1), (.ref r)])) (fun _ k => XS.aload X92.here hx rfl (hb hby at_153) rfl rfl k) ?_
      rw [← hla] at Rw
      obtain ⟨cq93, kq93, q93a, q93b, q93c⟩ := isOf hZ rfl E_r
      obtain ⟨_, _, ⟨T93, L93, k93, n93⟩, -, X93, ⟨Lc93, hQ93, l93, y93, z93⟩, st93⟩ := X92.virtualBack hx (y := (⟨"com/example/ovrdue/ovrdue/command/Rewrite", "take", "(Ljava/util/List;)Ljava/util/List;"⟩ : MethodName)) (z := (⟨"com/example/ovrdue/ovrdue/command/Rewrite", "take", "(Ljava/util/List;)Ljava/util/List;"⟩ : MethodName)) hown (mvT hZ (hw _ (List.mem_of_getElem? (i := 116) rfl))) (mvT hZ (hw _ (List.mem_of_getElem? (i := 117) rfl))) (notFace_of_selects (args := #[]) (mvT hZ (hw _ (List.mem_of_getElem? (i := 119) rfl)))) (mvT hZ (hw _ (List.mem_of_getElem? (i := 119) rfl))) (mvT hZ (hw _ (List.mem_of_getElem? (i := 118) rfl))) (by decide) (backOf (W := 0) (own_take l Z a0 hw [] r q1 xa xb xc aM la T92.heap n0 Z0'''''''''''''''''' Rw E_r ge_r) hZ (hw _ (List.mem_of_getElem? (i := 120) rfl)) (hw _ (List.mem_of_getElem? (i := 60) rfl)) (by decide) (by decide)) q93a q93c (g := (mkF m 155 #[.val (.int p0), .val (.int p1), .val (.int p2), .val (.int p3), .val (.int o1), .val (.int o2), .val (.int o3), .val (.ref xa), .val (.ref xb), .val (.ref xc), .val (.ref q1), .val (.ref q2), .val (.ref q3), .val (.ref r), .val (.int la), .unset, .unset, .unset, .unset] [(.ref q1), (.ref r)])) rfl (by rw [hml]; rfl) (Steps.refl _) (argsL := [(.ref q1)]) (rest := []) (lenOf own_pd14 rfl) rfl (by show 2 * 0 + _ ≤ _; exact Nat.le_of_eq rfl) (hb hby at_155) (fun _ _ => ⟨rfl, rfl, (by decide : (((((((((((((((0 + 1) + 1) + 1) + 1) + 0) + 1) + 1) + 0) + 1) + 0) + 1) + 1) + 0) + 2) + 2) + 0 ≤ _), (by decide : (((((((((((((((0 + 1) + 2) + 1) + 3) + 0) + 10) + 3) + 0) + 3) + 0) + 10) + 2) + 0) + 4) + 4) + 0 ≤ _)⟩)
      dsimp only [Pt.U, Pt.locs, Pt.cells, Pt.slots] at X93 l93 y93 z93 st93 hQ93
      subst l93 y93 z93
      obtain ⟨t1, rfl, N93q, K93, ht1, Rw, Tt1⟩ := hQ93
      have N0''''''''''''' := Fr.app N0'''''''''''' N93q
      have O := O.keep K93 ((allS ge_r all0))
      have E_xa := E_xa.keep K93
      have E_xb := E_xb.keep K93
      have E_xc := E_xc.keep K93
      have E_q1 := E_q1.keep K93
      have E_q2 := E_q2.keep K93
      have E_q3 := E_q3.keep K93
      have E_r := E_r.keep K93
      have Z0''''''''''''''''''' := Nat.le_trans Z0'''''''''''''''''' K93.1
      refine own_tr (T' := T93) (g' := (mkF m 158 #[.val (.int p0), .val (.int p1), .val (.int p2), .val (.int p3), .val (.int o1), .val (.int o2), .val (.int o3), .val (.ref xa), .val (.ref xb), .val (.ref xc), .val (.ref q1), .val (.ref q2), .val (.ref q3), .val (.ref r), .val (.int la), .unset, .unset, .unset, .unset] [t1])) st93 ?_
      refine own_st (T' := T93) (g' := (mkF m 160 #[.val (.int p0), .val (.int p1), .val (.int p2), .val (.int p3), .val (.int o1), .val (.int o2), .val (.int o3), .val (.ref xa), .val (.ref xb), .val (.ref xc), .val (.ref q1), .val (.ref q2), .val (.ref q3), .val (.ref r), .val (.int la), .val t1, .unset, .unset, .unset] [])) (fun _ k => XS.astore X93.here hx rfl (hb hby at_158) rfl ht1 (l' := #[.val (.int p0), .val (.int p1), .val (.int p2), .val (.int p3), .val (.int o1), .val (.int o2), .val (.int o3), .val (.ref xa), .val (.ref xb), .val (.ref xc), .val (.ref q1), .val (.ref q2), .val (.ref q3), .val (.ref r), .val (.int la), .val t1, .unset, .unset, .unset]) (own_store1 ht1 rfl (Or.inl rfl)) k) ?_
      refine own_st (T' := T93) (g' := (mkF m 162 #[.val (.int p0), .val (.int p1), .val (.int p2), .val (.int p3), .val (.int o1), .val (.int o2), .val (.int o3), .val (.ref xa), .val (.ref xb), .val (.ref xc), .val (.ref q1), .val (.ref q2), .val (.ref q3), .val (.ref r), .val (.int la), .val t1, .unset, .unset, .unset] [t1])) (fun _ k => XS.aload X93.here hx rfl (hb hby at_160) rfl ht1 k) ?_
      refine own_st (T' := T93) (g' := (mkF m 164 #[.val (.int p0), .val (.int p1), .val (.int p2), .val (.int p3), .val (.int o1), .val (.int o2), .val (.int o3), .val (.ref xa), .val (.ref xb), .val (.ref xc), .val (.ref q1), .val (.ref q2), .val (.ref q3), .val (.ref r), .val (.int la), .val t1, .unset, .unset, .unset] [(.int la), t1])) (fun _ k => XS.iload X93.here hx rfl (hb hby at_162) rfl k) ?_
      refine own_st (T' := T93) (g' := (mkF m 166 #[.val (.int p0), .val (.int p1), .val (.int p2), .val (.int p3), .val (.int o1), .val (.int o2), .val (.int o3), .val (.ref xa), .val (.ref xb), .val (.ref xc), .val (.ref q1), .val (.ref q2), .val (.ref q3), .val (.ref r), .val (.int la), .val t1, .unset, .unset, .unset] [(.ref q1), (.int la), t1])) (fun _ k => XS.aload X93.here hx rfl (hb hby at_164) rfl rfl k) ?_
      refine own_st (T' := T93) (g' := (mkF m 168 #[.val (.int p0), .val (.int p1), .val (.int p2), .val (.int p3), .val (.int o1), .val (.int o2), .val (.int o3), .val (.ref xa), .val (.ref xb), .val (.ref xc), .val (.ref q1), .val (.ref q2), .val (.ref q3), .val (.ref r), .val (.int la), .val t1, .unset, .unset, .unset] [(.ref xa), (.ref q1), (.int la), t1])) (fun _ k => XS.aload X93.here hx rfl (hb hby at_166) rfl rfl k) ?_
      refine own_st (T' := T93) (g' := (mkF m 170 #[.val (.int p0), .val (.int p1), .val (.int p2), .val (.int p3), .val (.int o1), .val (.int o2), .val (.int o3), .val (.ref xa), .val (.ref xb), .val (.ref xc), .val (.ref q1), .val (.ref q2), .val (.ref q3), .val (.ref r), .val (.int la), .val t1, .unset, .unset, .unset] [(.ref xb), (.ref xa), (.ref q1), (.int la), t1])) (fun _ k => XS.aload X93.here hx rfl (hb hby at_168) rfl rfl k) ?_
      refine own_st (T' := T93) (g' := (mkF m 172 #[.val (.int p0), .val (.int p1), .val (.int p2), .val (.int p3), .val (.int o1), .val (.int o2), .val (.int o3), .val (.ref xa), .val (.ref xb), .val (.ref xc), .val (.ref q1), .val (.ref q2), .val (.ref q3), .val (.ref r), .val (.int la), .val t1, .unset, .unset, .unset] [(.ref xc), (.ref xb), (.ref xa), (.ref q1), (.int la), t1])) (fun _ k => XS.aload X93.here hx rfl (hb hby at_170) rfl rfl k) ?_
      obtain ⟨_, _, ⟨T94, L94, k94, n94⟩, -, X94, ⟨Lc94, hQ94, l94, y94, z94⟩, st94⟩ := Jvm.LawKit.callS X93 hx (y := (⟨"com/example/ovrdue/ovrdue/command/RewriteTakePinLaw", "check", "(Ljava/util/List;ILjava/util/List;[B[B[B)Z"⟩ : MethodName)) hown (mvT hZ (hw _ (List.mem_of_getElem? (i := 121) rfl))) (mvT hZ (hw _ (List.mem_of_getElem? (i := 122) rfl))) (mvT hZ (hw _ (List.mem_of_getElem? (i := 67) rfl))) (mvT hZ (hw _ (List.mem_of_getElem? (i := 123) rfl))) (by decide) (backOf (W := 0) (own_check l Z a0 hw [] t1 la q1 r xa xb xc aM T93.heap n0 Z0''''''''''''''''''' ht1 Tt1 nb (SE0.ext O.2)) hZ (hw _ (List.mem_of_getElem? (i := 123) rfl)) (hw _ (List.mem_of_getElem? (i := 67) rfl)) (by decide) (by decide)) (g := (mkF m 172 #[.val (.int p0), .val (.int p1), .val (.int p2), .val (.int p3), .val (.int o1), .val (.int o2), .val (.int o3), .val (.ref xa), .val (.ref xb), .val (.ref xc), .val (.ref q1), .val (.ref q2), .val (.ref q3), .val (.ref r), .val (.int la), .val t1, .unset, .unset, .unset] [(.ref xc), (.ref xb), (.ref xa), (.ref q1), (.int la), t1])) rfl (by rw [hml]; rfl) (argsL := [t1, (.int la), (.ref q1), (.ref xa), (.ref xb), (.ref xc)]) (rest := []) (lenOf own_pd15 rfl) rfl (by show 2 * 0 + _ ≤ _; exact Nat.le_of_eq rfl) (hb hby at_172) (fun _ _ => ⟨rfl, rfl, (by decide : ((((((((((((((((0 + 1) + 1) + 1) + 1) + 0) + 1) + 1) + 0) + 1) + 0) + 1) + 1) + 0) + 2) + 2) + 0) + 0 ≤ _), (by decide : ((((((((((((((((0 + 1) + 2) + 1) + 3) + 0) + 10) + 3) + 0) + 3) + 0) + 10) + 2) + 0) + 4) + 4) + 0) + 0 ≤ _)⟩)
      dsimp only [Pt.U, Pt.locs, Pt.cells, Pt.slots] at X94 l94 y94 z94 st94 hQ94
      subst l94 y94 z94
      obtain ⟨rfl, N94q, e94⟩ := hQ94
      have N0'''''''''''''' := Fr.app N0''''''''''''' N94q
      refine own_st (T' := T94) (g' := (mkF m 175 #[.val (.int p0), .val (.int p1), .val (.int p2), .val (.int p3), .val (.int o1), .val (.int o2), .val (.int o3), .val (.ref xa), .val (.ref xb), .val (.ref xc), .val (.ref q1), .val (.ref q2), .val (.ref q3), .val (.ref r), .val (.int la), .val t1, .unset, .unset, .unset] [(.int (1 : Int32))])) st94 ?_
      refine own_st (T' := T94) (g' := (mkF m 177 #[.val (.int p0), .val (.int p1), .val (.int p2), .val (.int p3), .val (.int o1), .val (.int o2), .val (.int o3), .val (.ref xa), .val (.ref xb), .val (.ref xc), .val (.ref q1), .val (.ref q2), .val (.ref q3), .val (.ref r), .val (.int la), .val t1, .val (.int (1 : Int32)), .unset, .unset] [])) (fun _ k => XS.istore X94.here hx rfl (hb hby at_175) rfl (l' := #[.val (.int p0), .val (.int p1), .val (.int p2), .val (.int p3), .val (.int o1), .val (.int o2), .val (.int o3), .val (.ref xa), .val (.ref xb), .val (.ref xc), .val (.ref q1), .val (.ref q2), .val (.ref q3), .val (.ref r), .val (.int la), .val t1, .val (.int (1 : Int32)), .unset, .unset]) rfl k) ?_
      refine own_st (T' := T94) (g' := (mkF m 179 #[.val (.int p0), .val (.int p1), .val (.int p2), .val (.int p3), .val (.int o1), .val (.int o2), .val (.int o3), .val (.ref xa), .val (.ref xb), .val (.ref xc), .val (.ref q1), .val (.ref q2), .val (.ref q3), .val (.ref r), .val (.int la), .val t1, .val (.int (1 : Int32)), .unset, .unset] [(.ref r)])) (fun _ k => XS.aload X94.here hx rfl (hb hby at_177) rfl rfl k) ?_
      refine own_st (T' := T94) (g' := (mkF m 181 #[.val (.int p0), .val (.int p1), .val (.int p2), .val (.int p3), .val (.int o1), .val (.int o2), .val (.int o3), .val (.ref xa), .val (.ref xb), .val (.ref xc), .val (.ref q1), .val (.ref q2), .val (.ref q3), .val (.ref r), .val (.int la), .val t1, .val (.int (1 : Int32)), .unset, .unset] [(.int o3), (.ref r)])) (fun _ k => XS.iload X94.here hx rfl (hb hby at_179) rfl k) ?_
      refine own_st (T' := T94) (g' := (mkF m 183 #[.val (.int p0), .val (.int p1), .val (.int p2), .val (.int p3), .val (.int o1), .val (.int o2), .val (.int o3), .val (.ref xa), .val (.ref xb), .val (.ref xc), .val (.ref q1), .val (.ref q2), .val (.ref q3), .val (.ref r), .val (.int la), .val t1, .val (.int (1 : Int32)), .unset, .unset] [(.ref xa), (.int o3), (.ref r)])) (fun _ k => XS.aload X94.here hx rfl (hb hby at_181) rfl rfl k) ?_
      refine own_st (T' := T94) (g' := (mkF m 185 #[.val (.int p0), .val (.int p1), .val (.int p2), .val (.int p3), .val (.int o1), .val (.int o2), .val (.int o3), .val (.ref xa), .val (.ref xb), .val (.ref xc), .val (.ref q1), .val (.ref q2), .val (.ref q3), .val (.ref r), .val (.int la), .val t1, .val (.int (1 : Int32)), .unset, .unset] [(.ref xb), (.ref xa), (.int o3), (.ref r)])) (fun _ k => XS.aload X94.here hx rfl (hb hby at_183) rfl rfl k) ?_
      refine own_st (T' := T94) (g' := (mkF m 187 #[.val (.int p0), .val (.int p1), .val (.int p2), .val (.int p3), .val (.int o1), .val (.int o2), .val (.int o3), .val (.ref xa), .val (.ref xb), .val (.ref xc), .val (.ref q1), .val (.ref q2), .val (.ref q3), .val (.ref r), .val (.int la), .val t1, .val (.int (1 : Int32)), .unset, .unset] [(.ref xc), (.ref xb), (.ref xa), (.int o3), (.ref r)])) (fun _ k => XS.aload X94.here hx rfl (hb hby at_185) rfl rfl k) ?_
      obtain ⟨_, _, ⟨T95, L95, k95, n95⟩, -, X95, ⟨Lc95, hQ95, l95, y95, z95⟩, st95⟩ := Jvm.LawKit.callS X94 hx (y := (⟨"com/example/ovrdue/ovrdue/command/RewriteTakePinLaw", "apply", "(Lcom/example/ovrdue/ovrdue/command/Rewrite;I[B[B[B)V"⟩ : MethodName)) hown (mvT hZ (hw _ (List.mem_of_getElem? (i := 65) rfl))) (mvT hZ (hw _ (List.mem_of_getElem? (i := 66) rfl))) (mvT hZ (hw _ (List.mem_of_getElem? (i := 67) rfl))) (mvT hZ (hw _ (List.mem_of_getElem? (i := 68) rfl))) (by decide) (backOf (W := 0) (own_apply l Z a0 hw [] r o3 xa xb xc aM 0 T93.heap n0 Z0''''''''''''''''''' Rw E_r ge_r ho3 E_xa E_xb E_xc ne_xa_r ne_xb_r ne_xc_r (SE0.ext O.2)) hZ (hw _ (List.mem_of_getElem? (i := 68) rfl)) (hw _ (List.mem_of_getElem? (i := 67) rfl)) (by decide) (by decide)) (g := (mkF m 187 #[.val (.int p0), .val (.int p1), .val (.int p2), .val (.int p3), .val (.int o1), .val (.int o2), .val (.int o3), .val (.ref xa), .val (.ref xb), .val (.ref xc), .val (.ref q1), .val (.ref q2), .val (.ref q3), .val (.ref r), .val (.int la), .val t1, .val (.int (1 : Int32)), .unset, .unset] [(.ref xc), (.ref xb), (.ref xa), (.int o3), (.ref r)])) rfl (by rw [hml]; rfl) (argsL := [(.ref r), (.int o3), (.ref xa), (.ref xb), (.ref xc)]) (rest := []) (lenOf own_pd13 rfl) rfl (by show 2 * 0 + _ ≤ _; exact Nat.le_of_eq rfl) (hb hby at_187) (fun _ _ => ⟨rfl, e94, (by decide : (((((((((((((((((0 + 1) + 1) + 1) + 1) + 0) + 1) + 1) + 0) + 1) + 0) + 1) + 1) + 0) + 2) + 2) + 0) + 0) + 2 ≤ _), (by decide : (((((((((((((((((0 + 1) + 2) + 1) + 3) + 0) + 10) + 3) + 0) + 3) + 0) + 10) + 2) + 0) + 4) + 4) + 0) + 0) + 4 ≤ _)⟩)
      dsimp only [Pt.U, Pt.locs, Pt.cells, Pt.slots] at X95 l95 y95 z95 st95 hQ95
      subst l95 y95 z95
      obtain ⟨rfl, N95q, K95, Rw⟩ := hQ95
      have N0''''''''''''''' := Fr.app N0'''''''''''''' N95q
      have O := O.keep K95 ((allS ge_r all0))
      have E_xa := E_xa.keep K95
      have E_xb := E_xb.keep K95
      have E_xc := E_xc.keep K95
      have E_q1 := E_q1.keep K95
      have E_q2 := E_q2.keep K95
      have E_q3 := E_q3.keep K95
      have E_r := E_r.keep K95
      have Z0'''''''''''''''''''' := Nat.le_trans Z0''''''''''''''''''' K95.1
      refine own_st (T' := T95) (g' := (mkF m 190 #[.val (.int p0), .val (.int p1), .val (.int p2), .val (.int p3), .val (.int o1), .val (.int o2), .val (.int o3), .val (.ref xa), .val (.ref xb), .val (.ref xc), .val (.ref q1), .val (.ref q2), .val (.ref q3), .val (.ref r), .val (.int la), .val t1, .val (.int (1 : Int32)), .unset, .unset] [])) st95 ?_
      rw [show (if o3 = 0 then 0 else o3) = o3 from by by_cases u : o3 = 0 <;> simp [u]] at Rw
      refine own_st (T' := T95) (g' := (mkF m 192 #[.val (.int p0), .val (.int p1), .val (.int p2), .val (.int p3), .val (.int o1), .val (.int o2), .val (.int o3), .val (.ref xa), .val (.ref xb), .val (.ref xc), .val (.ref q1), .val (.ref q2), .val (.ref q3), .val (.ref r), .val (.int la), .val t1, .val (.int (1 : Int32)), .unset, .unset] [(.ref r)])) (fun _ k => XS.aload X95.here hx rfl (hb hby at_190) rfl rfl k) ?_
      refine own_st (T' := T95) (g' := (mkF m 194 #[.val (.int p0), .val (.int p1), .val (.int p2), .val (.int p3), .val (.int o1), .val (.int o2), .val (.int o3), .val (.ref xa), .val (.ref xb), .val (.ref xc), .val (.ref q1), .val (.ref q2), .val (.ref q3), .val (.ref r), .val (.int la), .val t1, .val (.int (1 : Int32)), .unset, .unset] [(.ref q2), (.ref r)])) (fun _ k => XS.aload X95.here hx rfl (hb hby at_192) rfl rfl k) ?_
      obtain ⟨cq96, kq96, q96a, q96b, q96c⟩ := isOf hZ rfl E_r
      obtain ⟨_, _, ⟨T96, L96, k96, n96⟩, -, X96, ⟨Lc96, hQ96, l96, y96, z96⟩, st96⟩ := X95.virtualBack hx (y := (⟨"com/example/ovrdue/ovrdue/command/Rewrite", "take", "(Ljava/util/List;)Ljava/util/List;"⟩ : MethodName)) (z := (⟨"com/example/ovrdue/ovrdue/command/Rewrite", "take", "(Ljava/util/List;)Ljava/util/List;"⟩ : MethodName)) hown (mvT hZ (hw _ (List.mem_of_getElem? (i := 116) rfl))) (mvT hZ (hw _ (List.mem_of_getElem? (i := 117) rfl))) (notFace_of_selects (args := #[]) (mvT hZ (hw _ (List.mem_of_getElem? (i := 119) rfl)))) (mvT hZ (hw _ (List.mem_of_getElem? (i := 119) rfl))) (mvT hZ (hw _ (List.mem_of_getElem? (i := 118) rfl))) (by decide) (backOf (W := 0) (own_take l Z a0 hw [] r q2 xa xb xc aM o3 T95.heap n0 Z0'''''''''''''''''''' Rw E_r ge_r) hZ (hw _ (List.mem_of_getElem? (i := 120) rfl)) (hw _ (List.mem_of_getElem? (i := 60) rfl)) (by decide) (by decide)) q96a q96c (g := (mkF m 194 #[.val (.int p0), .val (.int p1), .val (.int p2), .val (.int p3), .val (.int o1), .val (.int o2), .val (.int o3), .val (.ref xa), .val (.ref xb), .val (.ref xc), .val (.ref q1), .val (.ref q2), .val (.ref q3), .val (.ref r), .val (.int la), .val t1, .val (.int (1 : Int32)), .unset, .unset] [(.ref q2), (.ref r)])) rfl (by rw [hml]; rfl) (Steps.refl _) (argsL := [(.ref q2)]) (rest := []) (lenOf own_pd14 rfl) rfl (by show 2 * 0 + _ ≤ _; exact Nat.le_of_eq rfl) (hb hby at_194) (fun _ _ => ⟨rfl, rfl, (by decide : ((((((((((((((((((0 + 1) + 1) + 1) + 1) + 0) + 1) + 1) + 0) + 1) + 0) + 1) + 1) + 0) + 2) + 2) + 0) + 0) + 2) + 0 ≤ _), (by decide : ((((((((((((((((((0 + 1) + 2) + 1) + 3) + 0) + 10) + 3) + 0) + 3) + 0) + 10) + 2) + 0) + 4) + 4) + 0) + 0) + 4) + 0 ≤ _)⟩)
      dsimp only [Pt.U, Pt.locs, Pt.cells, Pt.slots] at X96 l96 y96 z96 st96 hQ96
      subst l96 y96 z96
      obtain ⟨t2, rfl, N96q, K96, ht2, Rw, Tt2⟩ := hQ96
      have N0'''''''''''''''' := Fr.app N0''''''''''''''' N96q
      have O := O.keep K96 ((allS ge_r all0))
      have E_xa := E_xa.keep K96
      have E_xb := E_xb.keep K96
      have E_xc := E_xc.keep K96
      have E_q1 := E_q1.keep K96
      have E_q2 := E_q2.keep K96
      have E_q3 := E_q3.keep K96
      have E_r := E_r.keep K96
      have Z0''''''''''''''''''''' := Nat.le_trans Z0'''''''''''''''''''' K96.1
      refine own_tr (T' := T96) (g' := (mkF m 197 #[.val (.int p0), .val (.int p1), .val (.int p2), .val (.int p3), .val (.int o1), .val (.int o2), .val (.int o3), .val (.ref xa), .val (.ref xb), .val (.ref xc), .val (.ref q1), .val (.ref q2), .val (.ref q3), .val (.ref r), .val (.int la), .val t1, .val (.int (1 : Int32)), .unset, .unset] [t2])) st96 ?_
      refine own_st (T' := T96) (g' := (mkF m 199 #[.val (.int p0), .val (.int p1), .val (.int p2), .val (.int p3), .val (.int o1), .val (.int o2), .val (.int o3), .val (.ref xa), .val (.ref xb), .val (.ref xc), .val (.ref q1), .val (.ref q2), .val (.ref q3), .val (.ref r), .val (.int la), .val t1, .val (.int (1 : Int32)), .val t2, .unset] [])) (fun _ k => XS.astore X96.here hx rfl (hb hby at_197) rfl ht2 (l' := #[.val (.int p0), .val (.int p1), .val (.int p2), .val (.int p3), .val (.int o1), .val (.int o2), .val (.int o3), .val (.ref xa), .val (.ref xb), .val (.ref xc), .val (.ref q1), .val (.ref q2), .val (.ref q3), .val (.ref r), .val (.int la), .val t1, .val (.int (1 : Int32)), .val t2, .unset]) (own_store1 ht2 rfl (Or.inl rfl)) k) ?_
      refine own_st (T' := T96) (g' := (mkF m 201 #[.val (.int p0), .val (.int p1), .val (.int p2), .val (.int p3), .val (.int o1), .val (.int o2), .val (.int o3), .val (.ref xa), .val (.ref xb), .val (.ref xc), .val (.ref q1), .val (.ref q2), .val (.ref q3), .val (.ref r), .val (.int la), .val t1, .val (.int (1 : Int32)), .val t2, .unset] [(.int (1 : Int32))])) (fun _ k => XS.iload X96.here hx rfl (hb hby at_199) rfl k) ?_
      refine own_st (T' := T96) (g' := (mkF m 204 #[.val (.int p0), .val (.int p1), .val (.int p2), .val (.int p3), .val (.int o1), .val (.int o2), .val (.int o3), .val (.ref xa), .val (.ref xb), .val (.ref xc), .val (.ref q1), .val (.ref q2), .val (.ref q3), .val (.ref r), .val (.int la), .val t1, .val (.int (1 : Int32)), .val t2, .unset] [])) (fun _ k => XS.ifNo X96.here hx rfl (hb hby at_201) rfl (Jvm.Free.XT.i0_eq_f (by decide)) k) ?_
      refine own_st (T' := T96) (g' := (mkF m 206 #[.val (.int p0), .val (.int p1), .val (.int p2), .val (.int p3), .val (.int o1), .val (.int o2), .val (.int o3), .val (.ref xa), .val (.ref xb), .val (.ref xc), .val (.ref q1), .val (.ref q2), .val (.ref q3), .val (.ref r), .val (.int la), .val t1, .val (.int (1 : Int32)), .val t2, .unset] [t2])) (fun _ k => XS.aload X96.here hx rfl (hb hby at_204) rfl ht2 k) ?_
      refine own_st (T' := T96) (g' := (mkF m 208 #[.val (.int p0), .val (.int p1), .val (.int p2), .val (.int p3), .val (.int o1), .val (.int o2), .val (.int o3), .val (.ref xa), .val (.ref xb), .val (.ref xc), .val (.ref q1), .val (.ref q2), .val (.ref q3), .val (.ref r), .val (.int la), .val t1, .val (.int (1 : Int32)), .val t2, .unset] [(.int o3), t2])) (fun _ k => XS.iload X96.here hx rfl (hb hby at_206) rfl k) ?_
      refine own_st (T' := T96) (g' := (mkF m 210 #[.val (.int p0), .val (.int p1), .val (.int p2), .val (.int p3), .val (.int o1), .val (.int o2), .val (.int o3), .val (.ref xa), .val (.ref xb), .val (.ref xc), .val (.ref q1), .val (.ref q2), .val (.ref q3), .val (.ref r), .val (.int la), .val t1, .val (.int (1 : Int32)), .val t2, .unset] [(.ref q2), (.int o3), t2])) (fun _ k => XS.aload X96.here hx rfl (hb hby at_208) rfl rfl k) ?_
      refine own_st (T' := T96) (g' := (mkF m 212 #[.val (.int p0), .val (.int p1), .val (.int p2), .val (.int p3), .val (.int o1), .val (.int o2), .val (.int o3), .val (.ref xa), .val (.ref xb), .val (.ref xc), .val (.ref q1), .val (.ref q2), .val (.ref q3), .val (.ref r), .val (.int la), .val t1, .val (.int (1 : Int32)), .val t2, .unset] [(.ref xa), (.ref q2), (.int o3), t2])) (fun _ k => XS.aload X96.here hx rfl (hb hby at_210) rfl rfl k) ?_
      refine own_st (T' := T96) (g' := (mkF m 214 #[.val (.int p0), .val (.int p1), .val (.int p2), .val (.int p3), .val (.int o1), .val (.int o2), .val (.int o3), .val (.ref xa), .val (.ref xb), .val (.ref xc), .val (.ref q1), .val (.ref q2), .val (.ref q3), .val (.ref r), .val (.int la), .val t1, .val (.int (1 : Int32)), .val t2, .unset] [(.ref xb), (.ref xa), (.ref q2), (.int o3), t2])) (fun _ k => XS.aload X96.here hx rfl (hb hby at_212) rfl rfl k) ?_
      refine own_st (T' := T96) (g' := (mkF m 216 #[.val (.int p0), .val (.int p1), .val (.int p2), .val (.int p3), .val (.int o1), .val (.int o2), .val (.int o3), .val (.ref xa), .val (.ref xb), .val (.ref xc), .val (.ref q1), .val (.ref q2), .val (.ref q3), .val (.ref r), .val (.int la), .val t1, .val (.int (1 : Int32)), .val t2, .unset] [(.ref xc), (.ref xb), (.ref xa), (.ref q2), (.int o3), t2])) (fun _ k => XS.aload X96.here hx rfl (hb hby at_214) rfl rfl k) ?_
      obtain ⟨_, _, ⟨T97, L97, k97, n97⟩, -, X97, ⟨Lc97, hQ97, l97, y97, z97⟩, st97⟩ := Jvm.LawKit.callS X96 hx (y := (⟨"com/example/ovrdue/ovrdue/command/RewriteTakePinLaw", "check", "(Ljava/util/List;ILjava/util/List;[B[B[B)Z"⟩ : MethodName)) hown (mvT hZ (hw _ (List.mem_of_getElem? (i := 121) rfl))) (mvT hZ (hw _ (List.mem_of_getElem? (i := 122) rfl))) (mvT hZ (hw _ (List.mem_of_getElem? (i := 67) rfl))) (mvT hZ (hw _ (List.mem_of_getElem? (i := 123) rfl))) (by decide) (backOf (W := 0) (own_check l Z a0 hw [] t2 o3 q2 r xa xb xc aM T96.heap n0 Z0''''''''''''''''''''' ht2 Tt2 nb (SE0.ext O.2)) hZ (hw _ (List.mem_of_getElem? (i := 123) rfl)) (hw _ (List.mem_of_getElem? (i := 67) rfl)) (by decide) (by decide)) (g := (mkF m 216 #[.val (.int p0), .val (.int p1), .val (.int p2), .val (.int p3), .val (.int o1), .val (.int o2), .val (.int o3), .val (.ref xa), .val (.ref xb), .val (.ref xc), .val (.ref q1), .val (.ref q2), .val (.ref q3), .val (.ref r), .val (.int la), .val t1, .val (.int (1 : Int32)), .val t2, .unset] [(.ref xc), (.ref xb), (.ref xa), (.ref q2), (.int o3), t2])) rfl (by rw [hml]; rfl) (argsL := [t2, (.int o3), (.ref q2), (.ref xa), (.ref xb), (.ref xc)]) (rest := []) (lenOf own_pd15 rfl) rfl (by show 2 * 0 + _ ≤ _; exact Nat.le_of_eq rfl) (hb hby at_216) (fun _ _ => ⟨rfl, rfl, (by decide : (((((((((((((((((((0 + 1) + 1) + 1) + 1) + 0) + 1) + 1) + 0) + 1) + 0) + 1) + 1) + 0) + 2) + 2) + 0) + 0) + 2) + 0) + 0 ≤ _), (by decide : (((((((((((((((((((0 + 1) + 2) + 1) + 3) + 0) + 10) + 3) + 0) + 3) + 0) + 10) + 2) + 0) + 4) + 4) + 0) + 0) + 4) + 0) + 0 ≤ _)⟩)
      dsimp only [Pt.U, Pt.locs, Pt.cells, Pt.slots] at X97 l97 y97 z97 st97 hQ97
      subst l97 y97 z97
      obtain ⟨rfl, N97q, e97⟩ := hQ97
      have N0''''''''''''''''' := Fr.app N0'''''''''''''''' N97q
      refine own_st (T' := T97) (g' := (mkF m 219 #[.val (.int p0), .val (.int p1), .val (.int p2), .val (.int p3), .val (.int o1), .val (.int o2), .val (.int o3), .val (.ref xa), .val (.ref xb), .val (.ref xc), .val (.ref q1), .val (.ref q2), .val (.ref q3), .val (.ref r), .val (.int la), .val t1, .val (.int (1 : Int32)), .val t2, .unset] [(.int (1 : Int32))])) st97 ?_
      refine own_st (T' := T97) (g' := (mkF m 222 #[.val (.int p0), .val (.int p1), .val (.int p2), .val (.int p3), .val (.int o1), .val (.int o2), .val (.int o3), .val (.ref xa), .val (.ref xb), .val (.ref xc), .val (.ref q1), .val (.ref q2), .val (.ref q3), .val (.ref r), .val (.int la), .val t1, .val (.int (1 : Int32)), .val t2, .unset] [])) (fun _ k => XS.ifNo X97.here hx rfl (hb hby at_219) rfl (Jvm.Free.XT.i0_eq_f (by decide)) k) ?_
      refine own_st (T' := T97) (g' := (mkF m 223 #[.val (.int p0), .val (.int p1), .val (.int p2), .val (.int p3), .val (.int o1), .val (.int o2), .val (.int o3), .val (.ref xa), .val (.ref xb), .val (.ref xc), .val (.ref q1), .val (.ref q2), .val (.ref q3), .val (.ref r), .val (.int la), .val t1, .val (.int (1 : Int32)), .val t2, .unset] [(.int (1 : Int32))])) (fun _ k => XS.iconst X97.here hx rfl (hb hby at_222) k) ?_
      refine own_st (T' := T97) (g' := (mkF m 227 #[.val (.int p0), .val (.int p1), .val (.int p2), .val (.int p3), .val (.int o1), .val (.int o2), .val (.int o3), .val (.ref xa), .val (.ref xb), .val (.ref xc), .val (.ref q1), .val (.ref q2), .val (.ref q3), .val (.ref r), .val (.int la), .val t1, .val (.int (1 : Int32)), .val t2, .unset] [(.int (1 : Int32))])) (fun _ k => XS.goto X97.here hx rfl (pc0 := 223) (pc' := 227) rfl (hb hby at_223) (by decide) (by decide) k) ?_
      refine own_st (T' := T97) (g' := (mkF m 229 #[.val (.int p0), .val (.int p1), .val (.int p2), .val (.int p3), .val (.int o1), .val (.int o2), .val (.int o3), .val (.ref xa), .val (.ref xb), .val (.ref xc), .val (.ref q1), .val (.ref q2), .val (.ref q3), .val (.ref r), .val (.int la), .val t1, .val (.int (1 : Int32)), .val t2, .unset] [])) (fun _ k => XS.istore X97.here hx rfl (hb hby at_227) rfl (l' := #[.val (.int p0), .val (.int p1), .val (.int p2), .val (.int p3), .val (.int o1), .val (.int o2), .val (.int o3), .val (.ref xa), .val (.ref xb), .val (.ref xc), .val (.ref q1), .val (.ref q2), .val (.ref q3), .val (.ref r), .val (.int la), .val t1, .val (.int (1 : Int32)), .val t2, .unset]) rfl k) ?_
      refine own_st (T' := T97) (g' := (mkF m 231 #[.val (.int p0), .val (.int p1), .val (.int p2), .val (.int p3), .val (.int o1), .val (.int o2), .val (.int o3), .val (.ref xa), .val (.ref xb), .val (.ref xc), .val (.ref q1), .val (.ref q2), .val (.ref q3), .val (.ref r), .val (.int la), .val t1, .val (.int (1 : Int32)), .val t2, .unset] [(.ref r)])) (fun _ k => XS.aload X97.here hx rfl (hb hby at_229) rfl rfl k) ?_
      refine own_st (T' := T97) (g' := (mkF m 233 #[.val (.int p0), .val (.int p1), .val (.int p2), .val (.int p3), .val (.int o1), .val (.int o2), .val (.int o3), .val (.ref xa), .val (.ref xb), .val (.ref xc), .val (.ref q1), .val (.ref q2), .val (.ref q3), .val (.ref r), .val (.int la), .val t1, .val (.int (1 : Int32)), .val t2, .unset] [(.ref q3), (.ref r)])) (fun _ k => XS.aload X97.here hx rfl (hb hby at_231) rfl rfl k) ?_
      obtain ⟨cq98, kq98, q98a, q98b, q98c⟩ := isOf hZ e97 E_r
      obtain ⟨_, _, ⟨T98, L98, k98, n98⟩, -, X98, ⟨Lc98, hQ98, l98, y98, z98⟩, st98⟩ := X97.virtualBack hx (y := (⟨"com/example/ovrdue/ovrdue/command/Rewrite", "take", "(Ljava/util/List;)Ljava/util/List;"⟩ : MethodName)) (z := (⟨"com/example/ovrdue/ovrdue/command/Rewrite", "take", "(Ljava/util/List;)Ljava/util/List;"⟩ : MethodName)) hown (mvT hZ (hw _ (List.mem_of_getElem? (i := 116) rfl))) (mvT hZ (hw _ (List.mem_of_getElem? (i := 117) rfl))) (notFace_of_selects (args := #[]) (mvT hZ (hw _ (List.mem_of_getElem? (i := 119) rfl)))) (mvT hZ (hw _ (List.mem_of_getElem? (i := 119) rfl))) (mvT hZ (hw _ (List.mem_of_getElem? (i := 118) rfl))) (by decide) (backOf (W := 0) (own_take l Z a0 hw [] r q3 xa xb xc aM 0 T96.heap n0 Z0''''''''''''''''''''' Rw E_r ge_r) hZ (hw _ (List.mem_of_getElem? (i := 120) rfl)) (hw _ (List.mem_of_getElem? (i := 60) rfl)) (by decide) (by decide)) q98a q98c (g := (mkF m 233 #[.val (.int p0), .val (.int p1), .val (.int p2), .val (.int p3), .val (.int o1), .val (.int o2), .val (.int o3), .val (.ref xa), .val (.ref xb), .val (.ref xc), .val (.ref q1), .val (.ref q2), .val (.ref q3), .val (.ref r), .val (.int la), .val t1, .val (.int (1 : Int32)), .val t2, .unset] [(.ref q3), (.ref r)])) rfl (by rw [hml]; rfl) (Steps.refl _) (argsL := [(.ref q3)]) (rest := []) (lenOf own_pd14 rfl) rfl (by show 2 * 0 + _ ≤ _; exact Nat.le_of_eq rfl) (hb hby at_233) (fun _ _ => ⟨rfl, e97, (by decide : ((((((((((((((((((((0 + 1) + 1) + 1) + 1) + 0) + 1) + 1) + 0) + 1) + 0) + 1) + 1) + 0) + 2) + 2) + 0) + 0) + 2) + 0) + 0) + 0 ≤ _), (by decide : ((((((((((((((((((((0 + 1) + 2) + 1) + 3) + 0) + 10) + 3) + 0) + 3) + 0) + 10) + 2) + 0) + 4) + 4) + 0) + 0) + 4) + 0) + 0) + 0 ≤ _)⟩)
      dsimp only [Pt.U, Pt.locs, Pt.cells, Pt.slots] at X98 l98 y98 z98 st98 hQ98
      subst l98 y98 z98
      obtain ⟨t3, rfl, N98q, K98, ht3, Rw, Tt3⟩ := hQ98
      have N0'''''''''''''''''' := Fr.app N0''''''''''''''''' N98q
      have O := O.keep K98 ((allS ge_r all0))
      have E_xa := E_xa.keep K98
      have E_xb := E_xb.keep K98
      have E_xc := E_xc.keep K98
      have E_q1 := E_q1.keep K98
      have E_q2 := E_q2.keep K98
      have E_q3 := E_q3.keep K98
      have E_r := E_r.keep K98
      have Z0'''''''''''''''''''''' := Nat.le_trans Z0''''''''''''''''''''' K98.1
      refine own_tr (T' := T98) (g' := (mkF m 236 #[.val (.int p0), .val (.int p1), .val (.int p2), .val (.int p3), .val (.int o1), .val (.int o2), .val (.int o3), .val (.ref xa), .val (.ref xb), .val (.ref xc), .val (.ref q1), .val (.ref q2), .val (.ref q3), .val (.ref r), .val (.int la), .val t1, .val (.int (1 : Int32)), .val t2, .unset] [t3])) st98 ?_
      refine own_st (T' := T98) (g' := (mkF m 238 #[.val (.int p0), .val (.int p1), .val (.int p2), .val (.int p3), .val (.int o1), .val (.int o2), .val (.int o3), .val (.ref xa), .val (.ref xb), .val (.ref xc), .val (.ref q1), .val (.ref q2), .val (.ref q3), .val (.ref r), .val (.int la), .val t1, .val (.int (1 : Int32)), .val t2, .val t3] [])) (fun _ k => XS.astore X98.here hx rfl (hb hby at_236) rfl ht3 (l' := #[.val (.int p0), .val (.int p1), .val (.int p2), .val (.int p3), .val (.int o1), .val (.int o2), .val (.int o3), .val (.ref xa), .val (.ref xb), .val (.ref xc), .val (.ref q1), .val (.ref q2), .val (.ref q3), .val (.ref r), .val (.int la), .val t1, .val (.int (1 : Int32)), .val t2, .val t3]) (own_store1 ht3 rfl (Or.inl rfl)) k) ?_
      refine own_st (T' := T98) (g' := (mkF m 240 #[.val (.int p0), .val (.int p1), .val (.int p2), .val (.int p3), .val (.int o1), .val (.int o2), .val (.int o3), .val (.ref xa), .val (.ref xb), .val (.ref xc), .val (.ref q1), .val (.ref q2), .val (.ref q3), .val (.ref r), .val (.int la), .val t1, .val (.int (1 : Int32)), .val t2, .val t3] [(.int (1 : Int32))])) (fun _ k => XS.iload X98.here hx rfl (hb hby at_238) rfl k) ?_
      refine own_st (T' := T98) (g' := (mkF m 243 #[.val (.int p0), .val (.int p1), .val (.int p2), .val (.int p3), .val (.int o1), .val (.int o2), .val (.int o3), .val (.ref xa), .val (.ref xb), .val (.ref xc), .val (.ref q1), .val (.ref q2), .val (.ref q3), .val (.ref r), .val (.int la), .val t1, .val (.int (1 : Int32)), .val t2, .val t3] [])) (fun _ k => XS.ifNo X98.here hx rfl (hb hby at_240) rfl (Jvm.Free.XT.i0_eq_f (by decide)) k) ?_
      refine own_st (T' := T98) (g' := (mkF m 245 #[.val (.int p0), .val (.int p1), .val (.int p2), .val (.int p3), .val (.int o1), .val (.int o2), .val (.int o3), .val (.ref xa), .val (.ref xb), .val (.ref xc), .val (.ref q1), .val (.ref q2), .val (.ref q3), .val (.ref r), .val (.int la), .val t1, .val (.int (1 : Int32)), .val t2, .val t3] [t3])) (fun _ k => XS.aload X98.here hx rfl (hb hby at_243) rfl ht3 k) ?_
      refine own_st (T' := T98) (g' := (mkF m 247 #[.val (.int p0), .val (.int p1), .val (.int p2), .val (.int p3), .val (.int o1), .val (.int o2), .val (.int o3), .val (.ref xa), .val (.ref xb), .val (.ref xc), .val (.ref q1), .val (.ref q2), .val (.ref q3), .val (.ref r), .val (.int la), .val t1, .val (.int (1 : Int32)), .val t2, .val t3] [(.ref q3), t3])) (fun _ k => XS.aload X98.here hx rfl (hb hby at_245) rfl rfl k) ?_
      have h3 : t3 = .ref q3 := by rcases Tt3 with ⟨-, u⟩ | ⟨u, -⟩ | ⟨u, -⟩ | ⟨u, -⟩; exact u; exact absurd u (by decide); exact absurd u (by decide); exact absurd u (by decide)
      refine own_st (T' := T98) (g' := (mkF m 250 #[.val (.int p0), .val (.int p1), .val (.int p2), .val (.int p3), .val (.int o1), .val (.int o2), .val (.int o3), .val (.ref xa), .val (.ref xb), .val (.ref xc), .val (.ref q1), .val (.ref q2), .val (.ref q3), .val (.ref r), .val (.int la), .val t1, .val (.int (1 : Int32)), .val t2, .val t3] [])) (fun _ k => Jvm.Free.XT.acmpNo X98.here hx rfl (hb hby at_247) rfl ht3 rfl (Jvm.Free.XT.aa_ne_f h3) k) ?_
      refine own_st (T' := T98) (g' := (mkF m 251 #[.val (.int p0), .val (.int p1), .val (.int p2), .val (.int p3), .val (.int o1), .val (.int o2), .val (.int o3), .val (.ref xa), .val (.ref xb), .val (.ref xc), .val (.ref q1), .val (.ref q2), .val (.ref q3), .val (.ref r), .val (.int la), .val t1, .val (.int (1 : Int32)), .val t2, .val t3] [(.int (1 : Int32))])) (fun _ k => XS.iconst X98.here hx rfl (hb hby at_250) k) ?_
      refine own_st (T' := T98) (g' := (mkF m 255 #[.val (.int p0), .val (.int p1), .val (.int p2), .val (.int p3), .val (.int o1), .val (.int o2), .val (.int o3), .val (.ref xa), .val (.ref xb), .val (.ref xc), .val (.ref q1), .val (.ref q2), .val (.ref q3), .val (.ref r), .val (.int la), .val t1, .val (.int (1 : Int32)), .val t2, .val t3] [(.int (1 : Int32))])) (fun _ k => XS.goto X98.here hx rfl (pc0 := 251) (pc' := 255) rfl (hb hby at_251) (by decide) (by decide) k) ?_
      exact own_retN X98 hx Bd.returns Bd.notSynchronized rfl (by simp) (hb hby at_255) ⟨rfl, N0''''''''''''''''''⟩ (by decide) (by decide)
    by_cases qo : o2 = (0 : Int32)
    · refine own_st (T' := T92) (g' := (mkF m 147 #[.val (.int p0), .val (.int p1), .val (.int p2), .val (.int p3), .val (.int o1), .val (.int o2), .val (.int o3), .val (.ref xa), .val (.ref xb), .val (.ref xc), .val (.ref q1), .val (.ref q2), .val (.ref q3), .val (.ref r), .unset, .unset, .unset, .unset, .unset] [])) (fun _ k => XS.ifYes X92.here hx rfl (pc0 := 139) (pc' := 147) rfl (hb hby at_139) rfl (Jvm.Free.XT.i0_eq_t qo) (by decide) (by decide) k) ?_
      refine own_st (T' := T92) (g' := (mkF m 149 #[.val (.int p0), .val (.int p1), .val (.int p2), .val (.int p3), .val (.int o1), .val (.int o2), .val (.int o3), .val (.ref xa), .val (.ref xb), .val (.ref xc), .val (.ref q1), .val (.ref q2), .val (.ref q3), .val (.ref r), .unset, .unset, .unset, .unset, .unset] [(.int o1)])) (fun _ k => XS.iload X92.here hx rfl (hb hby at_147) rfl k) ?_
      exact J149 _ (by simp [qo])
    · refine own_st (T' := T92) (g' := (mkF m 142 #[.val (.int p0), .val (.int p1), .val (.int p2), .val (.int p3), .val (.int o1), .val (.int o2), .val (.int o3), .val (.ref xa), .val (.ref xb), .val (.ref xc), .val (.ref q1), .val (.ref q2), .val (.ref q3), .val (.ref r), .unset, .unset, .unset, .unset, .unset] [])) (fun _ k => XS.ifNo X92.here hx rfl (hb hby at_139) rfl (Jvm.Free.XT.i0_eq_f qo) k) ?_
      refine own_st (T' := T92) (g' := (mkF m 144 #[.val (.int p0), .val (.int p1), .val (.int p2), .val (.int p3), .val (.int o1), .val (.int o2), .val (.int o3), .val (.ref xa), .val (.ref xb), .val (.ref xc), .val (.ref q1), .val (.ref q2), .val (.ref q3), .val (.ref r), .unset, .unset, .unset, .unset, .unset] [(.int o2)])) (fun _ k => XS.iload X92.here hx rfl (hb hby at_142) rfl k) ?_
      refine own_st (T' := T92) (g' := (mkF m 149 #[.val (.int p0), .val (.int p1), .val (.int p2), .val (.int p3), .val (.int o1), .val (.int o2), .val (.int o3), .val (.ref xa), .val (.ref xb), .val (.ref xc), .val (.ref q1), .val (.ref q2), .val (.ref q3), .val (.ref r), .unset, .unset, .unset, .unset, .unset] [(.int o2)])) (fun _ k => XS.goto X92.here hx rfl (pc0 := 144) (pc' := 149) rfl (hb hby at_144) (by decide) (by decide) k) ?_
      exact J149 _ (by simp [qo])
  exact J15 _ _ _ (own_and3 _) (own_and3 _) (own_and3 _)
set_option maxRecDepth 65536 in
set_option maxHeartbeats 40000000 in
theorem comes_1 {Post : Tables → Env → Array Value → State → Outcome → State → Prop} (hpost : ∀ tb e args s v u, (limb_1_1.after args s (.returned v) u = true ∧ limb_1_2.after args s (.returned v) u = true ∧ True) → FrameEnd s (.returned v) u (Jvm.fieldLocs frame_1_writes args s ++ Jvm.arrayLocs frame_1_arrays args s ++ Jvm.staticLocs frame_1_statics s) 40 192 → Post tb e args s (.returned v) u) :
    ArmFor flags0 classFile x code maxLocals ret World_1 tables_1 room_1 Calls_1 rest_1 Pre_1 Post := by
  intro l hfl _ _ p e ha hc hk s m args below hf hA hF happ hP
  obtain ⟨hcalls, hrest, hpre⟩ := hP
  obtain ⟨-, -, -, hnamed, -, -, -, hat⟩ := (Spec.applies_iff hf).mp happ
  obtain ⟨hg, hn⟩ := and_e (Cond.before_iff.mp (show (Jvm.Cond.and given_1 narrow_1).before args s = true from hpre))
  obtain ⟨hcount, r0⟩ := and_e hg
  obtain ⟨hk0, r1⟩ := and_e r0
  obtain ⟨hk1, r2⟩ := and_e r1
  obtain ⟨hk2, r3⟩ := and_e r2
  have hk3 := r3
  obtain ⟨w0, w1, w2, w3, rfl⟩ : ∃ w0 w1 w2 w3 : Value, args = #[w0, w1, w2, w3] := by
    have hs : args.size = 4 := by simpa [Cond.value, given_1] using hcount
    obtain ⟨L⟩ := args
    match L, hs with
    | [w0, w1, w2, w3], _ => exact ⟨w0, w1, w2, w3, rfl⟩
  have hw := fun d (hd : d ∈ tables_1) => atoms_spec (ws := Jvm.Cond.code x code maxLocals ret :: tables_1) hat d (List.mem_cons_of_mem _ hd)
  have hfit : Fit s := fun {y c} hc i hi => by
    obtain ⟨ha, rfl⟩ := Array.getElem?_eq_some_iff.mp hc
    have q := List.all_eq_true.mp ((Array.all_eq_true_iff_forall_mem.mp hF) _ (Array.getElem_mem ha)) i (List.mem_range.mpr hi)
    simpa [Array.getElem?_eq_getElem hi] using q
  obtain ⟨hsets, hown0⟩ := atoms_of _ (rest_1_c_eq ▸ (show rest_1_c.before _ s = true from hrest))
  obtain ⟨i0, ei0⟩ := is_v hk0
  obtain rfl : w0 = (.int i0) := Option.some.inj ei0
  obtain ⟨i1, ei1⟩ := is_v hk1
  obtain rfl : w1 = (.int i1) := Option.some.inj ei1
  obtain ⟨i2, ei2⟩ := is_v hk2
  obtain rfl : w2 = (.int i2) := Option.some.inj ei2
  obtain ⟨i3, ei3⟩ := is_v hk3
  obtain rfl : w3 = (.int i3) := Option.some.inj ei3
  obtain ⟨aD, evD⟩ := arr_v (Cond.before_iff.mp (hsets _ (List.mem_of_getElem? (i := 6) rfl)))
  have SD := Sta.start evD (Or.inr ⟨(hw _ (List.mem_of_getElem? (i := 3) rfl)), (hsets _ (List.mem_of_getElem? (i := 2) rfl))⟩)
  obtain ⟨cD, AD⟩ := Arr.start evD (Cond.before_iff.mp (hsets _ (List.mem_of_getElem? (i := 6) rfl)))
  have VD := own_len0 AD evD (Cond.before_iff.mp (hsets _ (List.mem_of_getElem? (i := 8) rfl)))
  have nM := Cond.before_iff.mp (hsets _ (List.mem_of_getElem? (i := 11) rfl))
  obtain ⟨aM, evM⟩ := exa_v nM
  have SM := Sta.start evM (Or.inl (hsets _ (List.mem_of_getElem? (i := 10) rfl)))
  have EM := Exa.start evM nM
  obtain ⟨n, o, h1, h2, h3, _, L, rfl, ⟨rfl, N⟩, hq⟩ := own_law l s _ hw tables_1 i0 i1 i2 i3 aD _ aM s.heap s.heap.size (Nat.le_refl _) (Old.start s) SD VD SM EM p e ha hc hk s m _ below hf ((Spec.applies_iff_loose hf).mp happ).1 ⟨rfl, State.Warmed39.refl s, rfl⟩ trivial
  refine ⟨n, _, h1, h2, h3, hpost _ _ _ _ _ _ ⟨Cond.after_iff.mpr rfl, Cond.after_iff.mpr (eq_i res_at (Term.int_eval (1)) rfl), trivial⟩ ⟨hq.1, hq.2.1, (hq.2.2.sift fun y hy => Or.inr (N y hy)).mono (by decide) (by decide)⟩⟩
theorem main_1_1 : Claimed_1_1 := comes_1 fun _ _ _ _ _ _ h hF => ⟨h.1, hF⟩
theorem main_1_2 : Claimed_1_2 := comes_1 fun _ _ _ _ _ _ h hF => ⟨h.2.1, hF⟩
end Jvm.Pilot.@@N@@
namespace Jvm.Pilot.@@N@@
open Jvm Jvm.ClassFile Sem Op Lib Jvm.Free Jvm.Stand Jvm.Pilot.@@N@@.Jvm.D
/-! MADE BY PROGRAM (witnessworld.py) out of the Statement's table words and the real class files: 25 classes; the members and pool entries that the words name. The judged class is class 1, her method 3. -/
namespace start1
open Jvm.ClassFile
def u (s : String) : CpInfo := .utf8 (stringToUtf16 s)
/-- a pool by its gaps: so many unusable entries, then the entry; so many at the end -/
def gap : Nat → List CpInfo → List CpInfo
  | 0, r => r
  | n + 1, r => .unusable :: gap n r
def poolList (es : List (Nat × CpInfo)) (last : Nat) : List CpInfo := es.foldr (fun e r => gap e.1 (e.2 :: r)) (gap last [])
def pool (es : List (Nat × CpInfo)) (last : Nat) : Array CpInfo := ⟨poolList es last⟩
def fileOf (pool : Array CpInfo) (this : Nat) (attrs : Array Attribute := #[]) (ms : Array MethodInfo := #[]) (fl : Nat := 33) (sup : Nat := 0) (ifs : Array Nat := #[]) (fds : Array FieldInfo := #[]) : ClassFile where
  minorVersion := 0
  majorVersion := 65
  constantPool := pool
  accessFlags := fl
  thisClass := this
  superClass := sup
  interfaces := ifs
  fields := fds
  methods := ms
  attributes := attrs
def plain (name : String) (sup : Option ClassId) : Class where
  name := name
  kind := .ordinary
  loader := none
  accessFlags := 33
  super := sup
  interfaces := #[]
  cf := none
  fields := #[]
  methods := #[]
  instanceTypes := #[]
  staticTypes := #[]
  resolved := #[]
  callSites := []
  init := .initialized
  statics := none
  mirror := none

def pool0 : Array CpInfo := pool [(5, u "<init>"), (0, u "()V"), (1, .class_ 10), (1, u "java/lang/Object")] 113

def k0c0 : Code := { maxStack := 0, maxLocals := 1, code := object_method_1_code, exceptionTable := #[], attributes := #[] }
def k0m0 : Method := { name := "<init>", desc := "()V", sig := { parameters := [], returnType := none }, accessFlags := 1, code := some k0c0 }
/-- java/lang/Object -/
def k0 : Class := { plain "java/lang/Object" none with
  accessFlags := 33
  interfaces := #[]
  cf := some (fileOf pool0 8 #[] #[{ accessFlags := 1, nameIndex := 5, descriptorIndex := 6, attributes := #[] }] 33 0 #[] #[])
  fields := #[]
  methods := #[k0m0]
  instanceTypes := #[]
  staticTypes := #[]
  resolved := Array.replicate 124 none
  statics := none }

def pool1 : Array CpInfo := pool [(2, .class_ 4), (0, .nameAndType 5 6), (0, u "java/lang/Object"), (0, u "<init>"), (0, u "()V"), (0, .class_ 8), (0, u "[B"), (0, .methodref 10 11), (0, .class_ 12), (0, .nameAndType 13 14), (0, u "com/example/ovrdue/ovrdue/command/Rewrite"), (0, u "as"), (0, u "([[B)V"), (0, .methodref 10 16), (0, .nameAndType 17 6), (0, u "asNothing"), (0, .interfaceMethodref 19 20), (0, .class_ 21), (0, .nameAndType 22 23), (0, u "java/util/List"), (0, u "size"), (0, u "()I"), (0, .interfaceMethodref 19 25), (0, .nameAndType 26 27), (0, u "get"), (0, u "(I)Ljava/lang/Object;"), (0, .class_ 29), (0, u "java/util/ArrayList"), (0, .methodref 28 3), (0, .methodref 28 32), (0, .nameAndType 33 34), (0, u "add"), (0, u "(Ljava/lang/Object;)Z"), (0, .methodref 10 3), (0, .methodref 37 38), (0, .class_ 39), (0, .nameAndType 40 41), (0, u "com/example/ovrdue/ovrdue/command/RewriteTakePinLaw"), (0, u "apply"), (0, u "(Lcom/example/ovrdue/ovrdue/command/Rewrite;I[B[B[B)V"), (0, .methodref 10 43), (0, .nameAndType 44 45), (0, u "take"), (0, u "(Ljava/util/List;)Ljava/util/List;"), (0, .methodref 37 47), (0, .nameAndType 48 49), (0, u "check"), (0, u "(Ljava/util/List;ILjava/util/List;[B[B[B)Z"), (5, u "law"), (0, u "(IIII)Z")] 2

def k1m0 : Method := { name := "<init>", desc := "()V", sig := { parameters := [], returnType := none }, accessFlags := 1, code := none }
def k1c1 : Code := { maxStack := 5, maxLocals := 5, code := method_2_code, exceptionTable := #[], attributes := #[] }
def k1m1 : Method := { name := "apply", desc := "(Lcom/example/ovrdue/ovrdue/command/Rewrite;I[B[B[B)V", sig := { parameters := [(.object "com/example/ovrdue/ovrdue/command/Rewrite"), .int, (.array .byte), (.array .byte), (.array .byte)], returnType := none }, accessFlags := 10, code := some k1c1 }
def k1c2 : Code := { maxStack := 2, maxLocals := 6, code := method_3_code, exceptionTable := #[], attributes := #[] }
def k1m2 : Method := { name := "check", desc := "(Ljava/util/List;ILjava/util/List;[B[B[B)Z", sig := { parameters := [(.object "java/util/List"), .int, (.object "java/util/List"), (.array .byte), (.array .byte), (.array .byte)], returnType := some .boolean }, accessFlags := 10, code := some k1c2 }
def k1c3 : Code := { maxStack := 6, maxLocals := 19, code := code, exceptionTable := #[], attributes := #[] }
def k1m3 : Method := { name := "law", desc := "(IIII)Z", sig := { parameters := [.int, .int, .int, .int], returnType := some .boolean }, accessFlags := 9, code := some k1c3 }
/-- com/example/ovrdue/ovrdue/command/RewriteTakePinLaw -/
def k1 : Class := { plain "com/example/ovrdue/ovrdue/command/RewriteTakePinLaw" (some 0) with
  accessFlags := 49
  interfaces := #[]
  cf := some (fileOf pool1 37 #[] #[{ accessFlags := 1, nameIndex := 5, descriptorIndex := 6, attributes := #[] }, { accessFlags := 10, nameIndex := 40, descriptorIndex := 41, attributes := #[] }, { accessFlags := 10, nameIndex := 48, descriptorIndex := 49, attributes := #[] }, { accessFlags := 9, nameIndex := 55, descriptorIndex := 56, attributes := #[] }] 49 2 #[] #[])
  fields := #[]
  methods := #[k1m0, k1m1, k1m2, k1m3]
  instanceTypes := #[]
  staticTypes := #[]
  resolved := Array.replicate 59 none
  statics := none }

def pool2 : Array CpInfo := pool [(8, .class_ 10), (1, u "java/lang/Iterable"), (24, .class_ 36), (0, u "java/lang/Object")] 25

/-- java/lang/Iterable -/
def k2 : Class := { plain "java/lang/Iterable" (some 0) with
  accessFlags := 1537
  interfaces := #[]
  cf := some (fileOf pool2 8 #[] #[] 1537 35 #[] #[])
  fields := #[]
  methods := #[]
  instanceTypes := #[]
  staticTypes := #[]
  resolved := Array.replicate 62 none
  statics := none }

def pool3 : Array CpInfo := pool [(10, .class_ 12), (1, u "java/util/Collection"), (47, .class_ 61), (0, u "java/lang/Object"), (0, .class_ 63), (0, u "java/lang/Iterable")] 51

/-- java/util/Collection -/
def k3 : Class := { plain "java/util/Collection" (some 0) with
  accessFlags := 1537
  interfaces := #[2]
  cf := some (fileOf pool3 10 #[] #[] 1537 60 #[62] #[])
  fields := #[]
  methods := #[]
  instanceTypes := #[]
  staticTypes := #[]
  resolved := Array.replicate 115 none
  statics := none }

def pool4 : Array CpInfo := pool [(1, .methodref 2 3), (0, .class_ 4), (0, .nameAndType 5 6), (0, u "java/lang/Object"), (0, u "<init>"), (0, u "()V"), (1, .class_ 10), (1, u "java/util/AbstractCollection"), (66, .class_ 78), (0, u "java/util/Collection")] 81

def k4c0 : Code := { maxStack := 1, maxLocals := 1, code := jdk_22_method_1_code, exceptionTable := #[], attributes := #[] }
def k4m0 : Method := { name := "<init>", desc := "()V", sig := { parameters := [], returnType := none }, accessFlags := 4, code := some k4c0 }
/-- java/util/AbstractCollection -/
def k4 : Class := { plain "java/util/AbstractCollection" (some 0) with
  accessFlags := 1057
  interfaces := #[3]
  cf := some (fileOf pool4 8 #[] #[{ accessFlags := 4, nameIndex := 5, descriptorIndex := 6, attributes := #[] }] 1057 2 #[77] #[])
  fields := #[]
  methods := #[k4m0]
  instanceTypes := #[]
  staticTypes := #[]
  resolved := Array.replicate 160 none
  statics := none }

def pool5 : Array CpInfo := pool [(8, .class_ 10), (1, u "java/util/SequencedCollection"), (15, .class_ 27), (0, u "java/lang/Object"), (0, .class_ 29), (0, u "java/util/Collection")] 27

/-- java/util/SequencedCollection -/
def k5 : Class := { plain "java/util/SequencedCollection" (some 0) with
  accessFlags := 1537
  interfaces := #[3]
  cf := some (fileOf pool5 8 #[] #[] 1537 26 #[28] #[])
  fields := #[]
  methods := #[]
  instanceTypes := #[]
  staticTypes := #[]
  resolved := Array.replicate 57 none
  statics := none }

def pool6 : Array CpInfo := pool [(8, .class_ 10), (1, u "java/util/List"), (20, u "(Ljava/lang/Object;)V"), (16, u "<init>"), (26, u "get"), (0, u "(I)Ljava/lang/Object;"), (2, u "size"), (0, u "()I"), (7, u "of"), (7, .class_ 97), (0, u "java/util/ImmutableCollections$List12"), (0, .methodref 96 99), (0, .nameAndType 48 31), (0, .methodref 96 101), (0, .nameAndType 48 102), (0, u "(Ljava/lang/Object;Ljava/lang/Object;)V"), (0, .class_ 104), (0, u "java/lang/Object"), (3, u "([Ljava/lang/Object;)Ljava/util/List;"), (11, .class_ 121), (0, u "java/util/SequencedCollection")] 129

def k6m0 : Method := { name := "size", desc := "()I", sig := { parameters := [], returnType := some .int }, accessFlags := 1025, code := none }
def k6m1 : Method := { name := "get", desc := "(I)Ljava/lang/Object;", sig := { parameters := [.int], returnType := some (.object "java/lang/Object") }, accessFlags := 1025, code := none }
def k6c2 : Code := { maxStack := 5, maxLocals := 2, code := jdk_40_method_47_code, exceptionTable := #[], attributes := #[] }
def k6m2 : Method := { name := "of", desc := "([Ljava/lang/Object;)Ljava/util/List;", sig := { parameters := [(.array (.object "java/lang/Object"))], returnType := some (.object "java/util/List") }, accessFlags := 137, code := some k6c2 }
/-- java/util/List -/
def k6 : Class := { plain "java/util/List" (some 0) with
  accessFlags := 1537
  interfaces := #[5]
  cf := some (fileOf pool6 8 #[] #[{ accessFlags := 1025, nameIndex := 79, descriptorIndex := 80, attributes := #[] }, { accessFlags := 1025, nameIndex := 75, descriptorIndex := 76, attributes := #[] }, { accessFlags := 137, nameIndex := 88, descriptorIndex := 108, attributes := #[] }] 1537 103 #[120] #[])
  fields := #[]
  methods := #[k6m0, k6m1, k6m2]
  instanceTypes := #[]
  staticTypes := #[]
  resolved := Array.replicate 251 none
  statics := none }

def pool7 : Array CpInfo := pool [(1, .methodref 2 3), (0, .class_ 4), (0, .nameAndType 5 6), (0, u "java/util/AbstractCollection"), (0, u "<init>"), (0, u "()V"), (0, .fieldref 8 9), (0, .class_ 10), (0, .nameAndType 11 12), (0, u "java/util/AbstractList"), (0, u "modCount"), (0, u "I"), (64, .class_ 78), (0, u "java/util/AbstractList$Itr"), (3, .class_ 83), (0, u "java/util/AbstractList$ListItr"), (9, .class_ 94), (0, u "java/util/AbstractList$RandomAccessSubList"), (3, .class_ 99), (0, u "java/util/AbstractList$SubList"), (33, .class_ 134), (0, u "java/util/List"), (73, .class_ 209), (0, u "java/util/AbstractList$SubList$1"), (0, .class_ 211), (0, u "java/util/AbstractList$RandomAccessSpliterator")] 6

def k7c0 : Code := { maxStack := 2, maxLocals := 1, code := jdk_39_method_1_code, exceptionTable := #[], attributes := #[] }
def k7m0 : Method := { name := "<init>", desc := "()V", sig := { parameters := [], returnType := none }, accessFlags := 4, code := some k7c0 }
/-- java/util/AbstractList -/
def k7 : Class := { plain "java/util/AbstractList" (some 4) with
  accessFlags := 1057
  interfaces := #[6]
  cf := some (fileOf pool7 8 #[.nestMembers #[93, 98, 208, 210, 82, 77]] #[{ accessFlags := 4, nameIndex := 5, descriptorIndex := 6, attributes := #[] }] 1057 2 #[133] #[{ accessFlags := 132, nameIndex := 11, descriptorIndex := 12, attributes := #[] }])
  fields := #[{ name := "modCount", type := .int, accessFlags := 132, slot := 0, constantValue := 0 }]
  methods := #[k7m0]
  instanceTypes := #[.int]
  staticTypes := #[]
  resolved := Array.replicate 218 none
  statics := none }

def pool8 : Array CpInfo := pool [(1, .class_ 2), (0, u "java/util/RandomAccess"), (0, .class_ 4), (0, u "java/lang/Object")] 2

/-- java/util/RandomAccess -/
def k8 : Class := { plain "java/util/RandomAccess" (some 0) with
  accessFlags := 1537
  interfaces := #[]
  cf := some (fileOf pool8 1 #[] #[] 1537 3 #[] #[])
  fields := #[]
  methods := #[]
  instanceTypes := #[]
  staticTypes := #[]
  resolved := Array.replicate 7 none
  statics := none }

def pool9 : Array CpInfo := pool [(1, .class_ 2), (0, u "java/lang/Cloneable"), (0, .class_ 4), (0, u "java/lang/Object")] 2

/-- java/lang/Cloneable -/
def k9 : Class := { plain "java/lang/Cloneable" (some 0) with
  accessFlags := 1537
  interfaces := #[]
  cf := some (fileOf pool9 1 #[] #[] 1537 3 #[] #[])
  fields := #[]
  methods := #[]
  instanceTypes := #[]
  staticTypes := #[]
  resolved := Array.replicate 7 none
  statics := none }

def pool10 : Array CpInfo := pool [(1, .class_ 2), (0, u "java/io/Serializable"), (0, .class_ 4), (0, u "java/lang/Object")] 2

/-- java/io/Serializable -/
def k10 : Class := { plain "java/io/Serializable" (some 0) with
  accessFlags := 1537
  interfaces := #[]
  cf := some (fileOf pool10 1 #[] #[] 1537 3 #[] #[])
  fields := #[]
  methods := #[]
  instanceTypes := #[]
  staticTypes := #[]
  resolved := Array.replicate 7 none
  statics := none }

def pool11 : Array CpInfo := pool [(1, .methodref 2 3), (0, .class_ 4), (0, .nameAndType 5 6), (0, u "java/util/AbstractList"), (0, u "<init>"), (0, u "()V"), (0, .class_ 8), (0, u "java/lang/Object"), (0, .fieldref 10 11), (0, .class_ 12), (0, .nameAndType 13 14), (0, u "java/util/ArrayList"), (0, u "elementData"), (0, u "[Ljava/lang/Object;"), (2, u "EMPTY_ELEMENTDATA"), (21, .fieldref 10 40), (0, .nameAndType 41 14), (0, u "DEFAULTCAPACITY_EMPTY_ELEMENTDATA"), (5, u "()[Ljava/lang/Object;"), (0, .fieldref 10 49), (0, .nameAndType 50 51), (0, u "size"), (0, u "I"), (11, .fieldref 10 64), (0, .nameAndType 65 51), (0, u "modCount"), (3, .methodref 10 70), (0, .nameAndType 71 72), (0, u "grow"), (0, u "(I)[Ljava/lang/Object;"), (6, .methodref 80 81), (0, .class_ 82), (0, .nameAndType 83 84), (0, u "java/lang/Math"), (0, u "max"), (0, u "(II)I"), (11, u "(Ljava/lang/Object;)Z"), (32, .methodref 10 130), (0, .nameAndType 71 47), (0, .methodref 10 132), (0, .nameAndType 133 134), (0, u "add"), (0, u "(Ljava/lang/Object;[Ljava/lang/Object;I)V"), (13, .class_ 149), (0, u "java/util/List"), (112, .class_ 263), (0, u "java/util/ArrayList$ListItr"), (3, .class_ 268), (0, u "java/util/ArrayList$Itr"), (7, .class_ 277), (0, u "java/util/ArrayList$SubList"), (12, .class_ 291), (0, u "java/util/ArrayList$ArrayListSpliterator"), (37, .class_ 330), (0, u "java/util/RandomAccess"), (0, .class_ 332), (0, u "java/lang/Cloneable"), (0, .class_ 334), (0, u "java/io/Serializable"), (0, u "serialVersionUID"), (0, u "J"), (3, u "DEFAULT_CAPACITY"), (159, .class_ 501), (0, u "java/util/ArrayList$SubList$2"), (0, .class_ 503), (0, u "java/util/ArrayList$SubList$1")] 5

def k11c0 : Code := { maxStack := 2, maxLocals := 1, code := jdk_38_method_2_code, exceptionTable := #[], attributes := #[] }
def k11m0 : Method := { name := "<init>", desc := "()V", sig := { parameters := [], returnType := none }, accessFlags := 1, code := some k11c0 }
def k11c1 : Code := { maxStack := 4, maxLocals := 4, code := jdk_38_method_6_code, exceptionTable := #[], attributes := #[] }
def k11m1 : Method := { name := "grow", desc := "(I)[Ljava/lang/Object;", sig := { parameters := [.int], returnType := some (.array (.object "java/lang/Object")) }, accessFlags := 2, code := some k11c1 }
def k11c2 : Code := { maxStack := 3, maxLocals := 1, code := jdk_38_method_7_code, exceptionTable := #[], attributes := #[] }
def k11m2 : Method := { name := "grow", desc := "()[Ljava/lang/Object;", sig := { parameters := [], returnType := some (.array (.object "java/lang/Object")) }, accessFlags := 2, code := some k11c2 }
def k11c3 : Code := { maxStack := 3, maxLocals := 4, code := jdk_38_method_24_code, exceptionTable := #[], attributes := #[] }
def k11m3 : Method := { name := "add", desc := "(Ljava/lang/Object;[Ljava/lang/Object;I)V", sig := { parameters := [(.object "java/lang/Object"), (.array (.object "java/lang/Object")), .int], returnType := none }, accessFlags := 2, code := some k11c3 }
def k11c4 : Code := { maxStack := 4, maxLocals := 2, code := jdk_38_method_25_code, exceptionTable := #[], attributes := #[] }
def k11m4 : Method := { name := "add", desc := "(Ljava/lang/Object;)Z", sig := { parameters := [(.object "java/lang/Object")], returnType := some .boolean }, accessFlags := 1, code := some k11c4 }
/-- java/util/ArrayList -/
def k11 : Class := { plain "java/util/ArrayList" (some 7) with
  accessFlags := 33
  interfaces := #[6, 8, 9, 10]
  cf := some (fileOf pool11 10 #[.nestMembers #[290, 276, 500, 502, 262, 267]] #[{ accessFlags := 1, nameIndex := 5, descriptorIndex := 6, attributes := #[] }, { accessFlags := 2, nameIndex := 71, descriptorIndex := 72, attributes := #[] }, { accessFlags := 2, nameIndex := 71, descriptorIndex := 47, attributes := #[] }, { accessFlags := 2, nameIndex := 133, descriptorIndex := 134, attributes := #[] }, { accessFlags := 1, nameIndex := 133, descriptorIndex := 96, attributes := #[] }] 33 2 #[148, 329, 331, 333] #[{ accessFlags := 26, nameIndex := 335, descriptorIndex := 336, attributes := #[] }, { accessFlags := 26, nameIndex := 340, descriptorIndex := 51, attributes := #[] }, { accessFlags := 26, nameIndex := 17, descriptorIndex := 14, attributes := #[] }, { accessFlags := 26, nameIndex := 41, descriptorIndex := 14, attributes := #[] }, { accessFlags := 128, nameIndex := 13, descriptorIndex := 14, attributes := #[] }, { accessFlags := 2, nameIndex := 50, descriptorIndex := 51, attributes := #[] }])
  fields := #[{ name := "serialVersionUID", type := .long, accessFlags := 26, slot := 0, constantValue := 0 }, { name := "DEFAULT_CAPACITY", type := .int, accessFlags := 26, slot := 1, constantValue := 0 }, { name := "EMPTY_ELEMENTDATA", type := (.array (.object "java/lang/Object")), accessFlags := 26, slot := 2, constantValue := 0 }, { name := "DEFAULTCAPACITY_EMPTY_ELEMENTDATA", type := (.array (.object "java/lang/Object")), accessFlags := 26, slot := 3, constantValue := 0 }, { name := "elementData", type := (.array (.object "java/lang/Object")), accessFlags := 128, slot := 1, constantValue := 0 }, { name := "size", type := .int, accessFlags := 2, slot := 2, constantValue := 0 }]
  methods := #[k11m0, k11m1, k11m2, k11m3, k11m4]
  instanceTypes := #[.int, (.array (.object "java/lang/Object")), .int]
  staticTypes := #[.long, .int, (.array (.object "java/lang/Object")), (.array (.object "java/lang/Object"))]
  resolved := Array.replicate 509 none
  statics := some 0 }

def pool12 : Array CpInfo := pool [(1, .class_ 2), (0, u "java/lang/Math"), (1, .class_ 6), (1, u "java/lang/Object"), (0, u "<init>"), (0, u "()V"), (89, .class_ 100), (1, u "java/lang/Math$RandomNumberGeneratorHolder"), (71, u "negativeZeroFloatBits"), (0, u "J"), (2, u "negativeZeroDoubleBits"), (21, u "max"), (46, u "$assertionsDisabled"), (0, u "Z"), (88, u "(II)I"), (2, u "twoToTheDoubleScaleDown"), (0, u "D"), (4, u "twoToTheDoubleScaleUp"), (9, u "E"), (3, u "PI"), (2, u "TAU"), (2, u "DEGREES_TO_RADIANS"), (0, u "RADIANS_TO_DEGREES")] 94

def k12m0 : Method := { name := "<init>", desc := "()V", sig := { parameters := [], returnType := none }, accessFlags := 2, code := none }
def k12c1 : Code := { maxStack := 2, maxLocals := 2, code := jdk_29_method_65_code, exceptionTable := #[], attributes := #[] }
def k12m1 : Method := { name := "max", desc := "(II)I", sig := { parameters := [.int, .int], returnType := some .int }, accessFlags := 9, code := some k12c1 }
/-- java/lang/Math -/
def k12 : Class := { plain "java/lang/Math" (some 0) with
  accessFlags := 49
  interfaces := #[]
  cf := some (fileOf pool12 1 #[.nestMembers #[98]] #[{ accessFlags := 2, nameIndex := 7, descriptorIndex := 8, attributes := #[] }, { accessFlags := 9, nameIndex := 198, descriptorIndex := 335, attributes := #[] }] 49 4 #[] #[{ accessFlags := 25, nameIndex := 354, descriptorIndex := 339, attributes := #[] }, { accessFlags := 25, nameIndex := 358, descriptorIndex := 339, attributes := #[] }, { accessFlags := 25, nameIndex := 361, descriptorIndex := 339, attributes := #[] }, { accessFlags := 26, nameIndex := 364, descriptorIndex := 339, attributes := #[] }, { accessFlags := 26, nameIndex := 365, descriptorIndex := 339, attributes := #[] }, { accessFlags := 26, nameIndex := 172, descriptorIndex := 173, attributes := #[] }, { accessFlags := 26, nameIndex := 176, descriptorIndex := 173, attributes := #[] }, { accessFlags := 8, nameIndex := 344, descriptorIndex := 339, attributes := #[] }, { accessFlags := 8, nameIndex := 338, descriptorIndex := 339, attributes := #[] }, { accessFlags := 4120, nameIndex := 245, descriptorIndex := 246, attributes := #[] }])
  fields := #[{ name := "E", type := .double, accessFlags := 25, slot := 0, constantValue := 0 }, { name := "PI", type := .double, accessFlags := 25, slot := 1, constantValue := 0 }, { name := "TAU", type := .double, accessFlags := 25, slot := 2, constantValue := 0 }, { name := "DEGREES_TO_RADIANS", type := .double, accessFlags := 26, slot := 3, constantValue := 0 }, { name := "RADIANS_TO_DEGREES", type := .double, accessFlags := 26, slot := 4, constantValue := 0 }, { name := "negativeZeroFloatBits", type := .long, accessFlags := 26, slot := 5, constantValue := 0 }, { name := "negativeZeroDoubleBits", type := .long, accessFlags := 26, slot := 6, constantValue := 0 }, { name := "twoToTheDoubleScaleUp", type := .double, accessFlags := 8, slot := 7, constantValue := 0 }, { name := "twoToTheDoubleScaleDown", type := .double, accessFlags := 8, slot := 8, constantValue := 0 }, { name := "$assertionsDisabled", type := .boolean, accessFlags := 4120, slot := 9, constantValue := 0 }]
  methods := #[k12m0, k12m1]
  instanceTypes := #[]
  staticTypes := #[.double, .double, .double, .double, .double, .long, .long, .double, .double, .boolean]
  resolved := Array.replicate 460 none
  statics := none }

def pool13 : Array CpInfo := pool [(1, .methodref 2 3), (0, .class_ 4), (0, .nameAndType 5 6), (0, u "java/lang/Object"), (0, u "<init>"), (0, u "()V"), (0, .interfaceMethodref 8 9), (0, .class_ 10), (0, .nameAndType 11 12), (0, u "java/util/List"), (0, u "of"), (0, u "([Ljava/lang/Object;)Ljava/util/List;"), (0, .fieldref 14 15), (0, .class_ 16), (0, .nameAndType 17 18), (0, u "com/example/ovrdue/ovrdue/command/Rewrite"), (0, u "record"), (0, u "Ljava/util/List;"), (0, .fieldref 14 20), (0, .nameAndType 21 22), (0, u "named"), (0, u "Z"), (4, u "as"), (0, u "([[B)V"), (0, u "asNothing"), (0, u "take"), (0, u "(Ljava/util/List;)Ljava/util/List;")] 4

def k13c0 : Code := { maxStack := 1, maxLocals := 1, code := prog_4_method_1_code, exceptionTable := #[], attributes := #[] }
def k13m0 : Method := { name := "<init>", desc := "()V", sig := { parameters := [], returnType := none }, accessFlags := 0, code := some k13c0 }
def k13c1 : Code := { maxStack := 2, maxLocals := 2, code := prog_4_method_2_code, exceptionTable := #[], attributes := #[] }
def k13m1 : Method := { name := "as", desc := "([[B)V", sig := { parameters := [(.array (.array .byte))], returnType := none }, accessFlags := 128, code := some k13c1 }
def k13c2 : Code := { maxStack := 2, maxLocals := 1, code := prog_4_method_3_code, exceptionTable := #[], attributes := #[] }
def k13m2 : Method := { name := "asNothing", desc := "()V", sig := { parameters := [], returnType := none }, accessFlags := 0, code := some k13c2 }
def k13c3 : Code := { maxStack := 2, maxLocals := 3, code := prog_4_method_4_code, exceptionTable := #[], attributes := #[] }
def k13m3 : Method := { name := "take", desc := "(Ljava/util/List;)Ljava/util/List;", sig := { parameters := [(.object "java/util/List")], returnType := some (.object "java/util/List") }, accessFlags := 0, code := some k13c3 }
/-- com/example/ovrdue/ovrdue/command/Rewrite -/
def k13 : Class := { plain "com/example/ovrdue/ovrdue/command/Rewrite" (some 0) with
  accessFlags := 48
  interfaces := #[]
  cf := some (fileOf pool13 14 #[] #[{ accessFlags := 0, nameIndex := 5, descriptorIndex := 6, attributes := #[] }, { accessFlags := 128, nameIndex := 27, descriptorIndex := 28, attributes := #[] }, { accessFlags := 0, nameIndex := 29, descriptorIndex := 6, attributes := #[] }, { accessFlags := 0, nameIndex := 30, descriptorIndex := 31, attributes := #[] }] 48 2 #[] #[{ accessFlags := 2, nameIndex := 17, descriptorIndex := 18, attributes := #[] }, { accessFlags := 2, nameIndex := 21, descriptorIndex := 22, attributes := #[] }])
  fields := #[{ name := "record", type := (.object "java/util/List"), accessFlags := 2, slot := 0, constantValue := 0 }, { name := "named", type := .boolean, accessFlags := 2, slot := 1, constantValue := 0 }]
  methods := #[k13m0, k13m1, k13m2, k13m3]
  instanceTypes := #[(.object "java/util/List"), .boolean]
  staticTypes := #[]
  resolved := Array.replicate 36 none
  statics := none }

def pool14 : Array CpInfo := pool [(1, .methodref 2 3), (0, .class_ 4), (0, .nameAndType 5 6), (0, u "java/util/AbstractCollection"), (0, u "<init>"), (0, u "()V"), (1, .class_ 10), (1, u "java/util/ImmutableCollections"), (2, .class_ 14), (0, u "java/util/ImmutableCollections$AbstractImmutableCollection")] 41

def k14c0 : Code := { maxStack := 1, maxLocals := 1, code := jdk_47_method_1_code, exceptionTable := #[], attributes := #[] }
def k14m0 : Method := { name := "<init>", desc := "()V", sig := { parameters := [], returnType := none }, accessFlags := 0, code := some k14c0 }
/-- java/util/ImmutableCollections$AbstractImmutableCollection -/
def k14 : Class := { plain "java/util/ImmutableCollections$AbstractImmutableCollection" (some 4) with
  accessFlags := 1056
  interfaces := #[]
  cf := some (fileOf pool14 13 #[.nestHost 8] #[{ accessFlags := 0, nameIndex := 5, descriptorIndex := 6, attributes := #[] }] 1056 2 #[] #[])
  fields := #[]
  methods := #[k14m0]
  instanceTypes := #[]
  staticTypes := #[]
  resolved := Array.replicate 56 none
  statics := none }

def pool15 : Array CpInfo := pool [(1, .methodref 2 3), (0, .class_ 4), (0, .nameAndType 5 6), (0, u "java/util/ImmutableCollections$AbstractImmutableCollection"), (0, u "<init>"), (0, u "()V"), (1, .class_ 10), (1, u "java/util/ImmutableCollections"), (3, .class_ 16), (1, u "java/util/ImmutableCollections$AbstractImmutableList"), (60, .class_ 78), (0, u "java/util/List"), (45, .class_ 125), (0, u "java/util/RandomAccess")] 70

def k15c0 : Code := { maxStack := 1, maxLocals := 1, code := jdk_46_method_1_code, exceptionTable := #[], attributes := #[] }
def k15m0 : Method := { name := "<init>", desc := "()V", sig := { parameters := [], returnType := none }, accessFlags := 0, code := some k15c0 }
/-- java/util/ImmutableCollections$AbstractImmutableList -/
def k15 : Class := { plain "java/util/ImmutableCollections$AbstractImmutableList" (some 14) with
  accessFlags := 1056
  interfaces := #[6, 8]
  cf := some (fileOf pool15 14 #[.nestHost 8] #[{ accessFlags := 0, nameIndex := 5, descriptorIndex := 6, attributes := #[] }] 1056 2 #[77, 124] #[])
  fields := #[]
  methods := #[k15m0]
  instanceTypes := #[]
  staticTypes := #[]
  resolved := Array.replicate 196 none
  statics := none }

def pool16 : Array CpInfo := pool [(1, .methodref 2 3), (0, .class_ 4), (0, .nameAndType 5 6), (0, u "java/util/ImmutableCollections$AbstractImmutableList"), (0, u "<init>"), (0, u "()V"), (0, .methodref 8 9), (0, .class_ 10), (0, .nameAndType 11 12), (0, u "java/util/Objects"), (0, u "requireNonNull"), (0, u "(Ljava/lang/Object;)Ljava/lang/Object;"), (0, .fieldref 14 15), (0, .class_ 16), (0, .nameAndType 17 18), (0, u "java/util/ImmutableCollections$List12"), (0, u "e0"), (0, u "Ljava/lang/Object;"), (0, .fieldref 20 21), (0, .class_ 22), (0, .nameAndType 23 18), (0, u "java/util/ImmutableCollections"), (0, u "EMPTY"), (0, .fieldref 14 25), (0, .nameAndType 26 18), (0, u "e1"), (24, u "size"), (0, u "()I"), (17, .class_ 71), (0, u "java/io/Serializable"), (4, u "(Ljava/lang/Object;)V"), (8, u "(Ljava/lang/Object;Ljava/lang/Object;)V"), (4, u "get"), (0, u "(I)Ljava/lang/Object;")] 33

def k16c0 : Code := { maxStack := 2, maxLocals := 2, code := jdk_44_method_1_code, exceptionTable := #[], attributes := #[] }
def k16m0 : Method := { name := "<init>", desc := "(Ljava/lang/Object;)V", sig := { parameters := [(.object "java/lang/Object")], returnType := none }, accessFlags := 0, code := some k16c0 }
def k16c1 : Code := { maxStack := 2, maxLocals := 3, code := jdk_44_method_2_code, exceptionTable := #[], attributes := #[] }
def k16m1 : Method := { name := "<init>", desc := "(Ljava/lang/Object;Ljava/lang/Object;)V", sig := { parameters := [(.object "java/lang/Object"), (.object "java/lang/Object")], returnType := none }, accessFlags := 0, code := some k16c1 }
def k16c2 : Code := { maxStack := 2, maxLocals := 1, code := jdk_44_method_3_code, exceptionTable := #[], attributes := #[] }
def k16m2 : Method := { name := "size", desc := "()I", sig := { parameters := [], returnType := some .int }, accessFlags := 1, code := some k16c2 }
def k16c3 : Code := { maxStack := 2, maxLocals := 2, code := jdk_44_method_5_code, exceptionTable := #[], attributes := #[] }
def k16m3 : Method := { name := "get", desc := "(I)Ljava/lang/Object;", sig := { parameters := [.int], returnType := some (.object "java/lang/Object") }, accessFlags := 1, code := some k16c3 }
/-- java/util/ImmutableCollections$List12 -/
def k16 : Class := { plain "java/util/ImmutableCollections$List12" (some 15) with
  accessFlags := 48
  interfaces := #[10]
  cf := some (fileOf pool16 14 #[.nestHost 20] #[{ accessFlags := 0, nameIndex := 5, descriptorIndex := 76, attributes := #[] }, { accessFlags := 0, nameIndex := 5, descriptorIndex := 85, attributes := #[] }, { accessFlags := 1, nameIndex := 51, descriptorIndex := 52, attributes := #[] }, { accessFlags := 1, nameIndex := 90, descriptorIndex := 91, attributes := #[] }] 48 2 #[70] #[{ accessFlags := 18, nameIndex := 17, descriptorIndex := 18, attributes := #[] }, { accessFlags := 18, nameIndex := 26, descriptorIndex := 18, attributes := #[] }])
  fields := #[{ name := "e0", type := (.object "java/lang/Object"), accessFlags := 18, slot := 0, constantValue := 0 }, { name := "e1", type := (.object "java/lang/Object"), accessFlags := 18, slot := 1, constantValue := 0 }]
  methods := #[k16m0, k16m1, k16m2, k16m3]
  instanceTypes := #[(.object "java/lang/Object"), (.object "java/lang/Object")]
  staticTypes := #[]
  resolved := Array.replicate 125 none
  statics := none }

def pool17 : Array CpInfo := pool [(2, .class_ 4), (1, u "java/lang/Object"), (0, u "<init>"), (0, u "()V"), (35, .class_ 44), (1, u "java/util/Objects"), (0, u "requireNonNull"), (0, u "(Ljava/lang/Object;)Ljava/lang/Object;")] 137

def k17m0 : Method := { name := "<init>", desc := "()V", sig := { parameters := [], returnType := none }, accessFlags := 2, code := none }
def k17c1 : Code := { maxStack := 2, maxLocals := 1, code := jdk_31_method_10_code, exceptionTable := #[], attributes := #[] }
def k17m1 : Method := { name := "requireNonNull", desc := "(Ljava/lang/Object;)Ljava/lang/Object;", sig := { parameters := [(.object "java/lang/Object")], returnType := some (.object "java/lang/Object") }, accessFlags := 9, code := some k17c1 }
/-- java/util/Objects -/
def k17 : Class := { plain "java/util/Objects" (some 0) with
  accessFlags := 49
  interfaces := #[]
  cf := some (fileOf pool17 42 #[] #[{ accessFlags := 2, nameIndex := 5, descriptorIndex := 6, attributes := #[] }, { accessFlags := 9, nameIndex := 45, descriptorIndex := 46, attributes := #[] }] 49 2 #[] #[])
  fields := #[]
  methods := #[k17m0, k17m1]
  instanceTypes := #[]
  staticTypes := #[]
  resolved := Array.replicate 184 none
  statics := none }

def pool18 : Array CpInfo := pool [(2, .class_ 4), (1, u "java/lang/Object"), (0, u "<init>"), (0, u "()V"), (3, .class_ 11), (0, u "java/util/ImmutableCollections$List12"), (0, .class_ 13), (0, u "java/util/ImmutableCollections$ListN"), (3, u "Z"), (29, .class_ 49), (1, u "java/util/ImmutableCollections"), (0, u "$assertionsDisabled"), (5, u "[Ljava/lang/Object;"), (5, u "EMPTY_LIST"), (0, u "Ljava/util/ImmutableCollections$ListN;"), (8, u "EMPTY_LIST_NULLS"), (22, u "SALT32L"), (0, u "J"), (2, u "REVERSE"), (6, u "archivedObjects"), (2, u "EMPTY"), (0, u "Ljava/lang/Object;"), (0, .class_ 112), (0, u "java/util/ImmutableCollections$SetN"), (5, u "EMPTY_SET"), (0, u "Ljava/util/ImmutableCollections$SetN;"), (0, .class_ 121), (0, u "java/util/ImmutableCollections$MapN"), (3, u "EMPTY_MAP"), (0, u "Ljava/util/ImmutableCollections$MapN;"), (4, u "EXPAND_FACTOR"), (0, u "I"), (36, .class_ 170), (0, u "java/util/ImmutableCollections$MapN$MapNIterator"), (0, .class_ 172), (0, u "java/util/ImmutableCollections$MapN$1"), (0, .class_ 174), (0, u "java/util/ImmutableCollections$Map1"), (0, .class_ 176), (0, u "java/util/ImmutableCollections$AbstractImmutableMap"), (0, .class_ 178), (0, u "java/util/ImmutableCollections$SetN$SetNIterator"), (0, .class_ 180), (0, u "java/util/ImmutableCollections$Set12"), (0, .class_ 182), (0, u "java/util/ImmutableCollections$Set12$1"), (0, .class_ 184), (0, u "java/util/ImmutableCollections$AbstractImmutableSet"), (0, .class_ 186), (0, u "java/util/ImmutableCollections$SubList"), (0, .class_ 188), (0, u "java/util/ImmutableCollections$ListItr"), (0, .class_ 190), (0, u "java/util/ImmutableCollections$AbstractImmutableList"), (0, .class_ 192), (0, u "java/util/ImmutableCollections$AbstractImmutableCollection"), (0, .class_ 194), (0, u "java/util/ImmutableCollections$Access"), (0, .class_ 196), (0, u "java/util/ImmutableCollections$Access$1")] 16

def k18m0 : Method := { name := "<init>", desc := "()V", sig := { parameters := [], returnType := none }, accessFlags := 2, code := none }
/-- java/util/ImmutableCollections -/
def k18 : Class := { plain "java/util/ImmutableCollections" (some 0) with
  accessFlags := 32
  interfaces := #[]
  cf := some (fileOf pool18 47 #[.nestMembers #[120, 169, 171, 173, 175, 111, 177, 179, 181, 183, 12, 10, 185, 187, 189, 191, 193, 195]] #[{ accessFlags := 2, nameIndex := 5, descriptorIndex := 6, attributes := #[] }] 32 2 #[] #[{ accessFlags := 26, nameIndex := 95, descriptorIndex := 96, attributes := #[] }, { accessFlags := 26, nameIndex := 99, descriptorIndex := 17, attributes := #[] }, { accessFlags := 10, nameIndex := 106, descriptorIndex := 56, attributes := #[] }, { accessFlags := 26, nameIndex := 109, descriptorIndex := 110, attributes := #[] }, { accessFlags := 24, nameIndex := 62, descriptorIndex := 63, attributes := #[] }, { accessFlags := 24, nameIndex := 72, descriptorIndex := 63, attributes := #[] }, { accessFlags := 24, nameIndex := 118, descriptorIndex := 119, attributes := #[] }, { accessFlags := 24, nameIndex := 125, descriptorIndex := 126, attributes := #[] }, { accessFlags := 24, nameIndex := 131, descriptorIndex := 132, attributes := #[] }, { accessFlags := 4120, nameIndex := 50, descriptorIndex := 17, attributes := #[] }])
  fields := #[{ name := "SALT32L", type := .long, accessFlags := 26, slot := 0, constantValue := 0 }, { name := "REVERSE", type := .boolean, accessFlags := 26, slot := 1, constantValue := 0 }, { name := "archivedObjects", type := (.array (.object "java/lang/Object")), accessFlags := 10, slot := 2, constantValue := 0 }, { name := "EMPTY", type := (.object "java/lang/Object"), accessFlags := 26, slot := 3, constantValue := 0 }, { name := "EMPTY_LIST", type := (.object "java/util/ImmutableCollections$ListN"), accessFlags := 24, slot := 4, constantValue := 0 }, { name := "EMPTY_LIST_NULLS", type := (.object "java/util/ImmutableCollections$ListN"), accessFlags := 24, slot := 5, constantValue := 0 }, { name := "EMPTY_SET", type := (.object "java/util/ImmutableCollections$SetN"), accessFlags := 24, slot := 6, constantValue := 0 }, { name := "EMPTY_MAP", type := (.object "java/util/ImmutableCollections$MapN"), accessFlags := 24, slot := 7, constantValue := 0 }, { name := "EXPAND_FACTOR", type := .int, accessFlags := 24, slot := 8, constantValue := 0 }, { name := "$assertionsDisabled", type := .boolean, accessFlags := 4120, slot := 9, constantValue := 0 }]
  methods := #[k18m0]
  instanceTypes := #[]
  staticTypes := #[.long, .boolean, (.array (.object "java/lang/Object")), (.object "java/lang/Object"), (.object "java/util/ImmutableCollections$ListN"), (.object "java/util/ImmutableCollections$ListN"), (.object "java/util/ImmutableCollections$SetN"), (.object "java/util/ImmutableCollections$MapN"), .int, .boolean]
  resolved := Array.replicate 213 none
  statics := some 1 }

def pool19 : Array CpInfo := pool [(2, .class_ 4), (1, u "java/util/ImmutableCollections$AbstractImmutableList"), (3, .class_ 10), (1, u "java/util/ImmutableCollections$ListN"), (0, u "elements"), (0, u "[Ljava/lang/Object;"), (2, u "allowNulls"), (0, u "Z"), (42, .class_ 60), (0, u "java/io/Serializable"), (53, .class_ 115), (0, u "java/util/ImmutableCollections")] 3

/-- java/util/ImmutableCollections$ListN -/
def k19 : Class := { plain "java/util/ImmutableCollections$ListN" (some 15) with
  accessFlags := 48
  interfaces := #[10]
  cf := some (fileOf pool19 8 #[.nestHost 114] #[] 48 2 #[59] #[{ accessFlags := 18, nameIndex := 11, descriptorIndex := 12, attributes := #[] }, { accessFlags := 18, nameIndex := 15, descriptorIndex := 16, attributes := #[] }])
  fields := #[{ name := "elements", type := (.array (.object "java/lang/Object")), accessFlags := 18, slot := 0, constantValue := 0 }, { name := "allowNulls", type := .boolean, accessFlags := 18, slot := 1, constantValue := 0 }]
  methods := #[]
  instanceTypes := #[(.array (.object "java/lang/Object")), .boolean]
  staticTypes := #[]
  resolved := Array.replicate 119 none
  statics := none }

/-- the primitive byte -/
def k20 : Class := { plain "byte" none with kind := .primitive 'B', accessFlags := 0x411 }
/-- [B -/
def k21 : Class := { plain "[B" (some 0) with kind := .array 20 .byte, interfaces := #[9, 10], accessFlags := 1041 }

/-- the primitive int -/
def k22 : Class := { plain "int" none with kind := .primitive 'I', accessFlags := 0x411 }
/-- [I -/
def k23 : Class := { plain "[I" (some 0) with kind := .array 22 .int, interfaces := #[9, 10], accessFlags := 1041 }

/-- [Ljava/lang/Object; -/
def k24 : Class := { plain "[Ljava/lang/Object;" (some 0) with kind := .array 0 (.object "java/lang/Object"), interfaces := #[9, 10], accessFlags := 1041 }

/-- [[B -/
def k25 : Class := { plain "[[B" (some 0) with kind := .array 21 (.array .byte), interfaces := #[9, 10], accessFlags := 1041 }
def heap : Heap := #[{ cls := 11, slots := #[.long 0, .int 0, .ref 2, .ref 3], vm := .statics 11 },
  { cls := 18, slots := #[.long 0, .int 0, .null, .ref 4, .ref 5, .null, .null, .null, .int 0, .int 1], vm := .statics 18 },
  { cls := 24, slots := #[], vm := .none },
  { cls := 24, slots := #[], vm := .none },
  { cls := 0, slots := #[], vm := .none },
  { cls := 19, slots := #[.null, .int 0], vm := .none }]
def classes : Array Class := #[k0, k1, k2, k3, k4, k5, k6, k7, k8, k9, k10, k11, k12, k13, k14, k15, k16, k17, k18, k19, k20, k21, k22, k23, k24, k25]
def interned : List (Array UInt16 × Addr) := []
def slotsUsed : Nat := 16
def theMethod : MethodId := ⟨1, 3⟩
def args0 : Array Value := #[.int 5, .int 6, .int 7, .int 8]
def aboutOver (below : List Frame) : State where
  vm := { classes := classes, interned := interned.toArray }
  heap := heap
  slotsUsed := slotsUsed
  threads := #[{ frames := .invoking theMethod args0 :: below }]
def below0 : List Frame := [.native { method := ⟨0, 0⟩, args := #[] }]
def about1 : State := aboutOver below0
def p0 : Program := .bare "" "" ""
def e0 : Env := launch0.env 0 0 0
theorem w_frames : about1.frames = Frame.invoking theMethod args0 :: below0 := rfl
set_option maxRecDepth 65536 in
theorem w_args : argsFit about1.vm theMethod args0 = true := by decide +kernel
set_option maxRecDepth 65536 in
theorem w_heap : heapFits about1 = true := by decide +kernel
set_option maxRecDepth 65536 in
theorem w_runnable : about1.curStatus? = some .runnable := by decide +kernel
set_option maxRecDepth 65536 in
theorem w_alone : about1.alone = true := by decide +kernel
set_option maxRecDepth 65536 in
theorem w_named : about1.methodNamed? x = some theMethod := by decide +kernel
set_option maxRecDepth 65536 in
theorem w_hears : about1.hears theMethod below0 = true := by decide +kernel
set_option maxRecDepth 65536 in
theorem w_ripe : about1.ripe theMethod args0 below0 = true := by decide +kernel
theorem w_running : about1.status = .running := rfl
set_option maxRecDepth 65536 in
theorem w_room : about1.hasRoom e0.platform room_1 = true :=
  launch0.hasRoom_least _ room_1 (by decide +kernel) (by decide +kernel) (by decide +kernel) (by decide +kernel) (by decide +kernel) (by decide +kernel)
theorem allAtoms_all (ts : List Jvm.Cond) (a : Array Jvm.Value) (st : Jvm.State) : (allAtoms ts).before a st = ts.all (fun c => c.before a st) := by
  induction ts with
  | nil => rfl
  | cons c t ih =>
    show (Jvm.Cond.and c (allAtoms t)).before a st = _
    rw [Jvm.Cond.before_and, ih, List.all_cons]
def words1 : List Jvm.Cond := Jvm.Cond.code x code maxLocals ret :: tables_1
/-- a 'code' word, met by the world's own term for the bytes: nothing is compared byte by byte -/
theorem code_word {y : MethodName} {bytes : ByteArray} {mx : Nat} {rt : Option FieldType} {a : Array Value} {s : State} {m : MethodId} {meth : Method} {c : Code} (h1 : s.methodNamed? y = some m) (h2 : s.vm.method? m = some meth) (h3 : meth.code = some c) (h4 : c.code = bytes)
    (h5 : (c.maxLocals == mx && c.exceptionTable.isEmpty && decide (c.maxStack ≤ mostOperands) && decide (meth.sig.returnType = rt) && !meth.locks && decide (parseMethodDescriptor y.desc = some meth.sig)) = true) : (Jvm.Cond.code y bytes mx rt).before a s = true := by
  simp only [Bool.and_eq_true, beq_iff_eq, Bool.not_eq_true', decide_eq_true_eq] at h5
  obtain ⟨⟨⟨⟨⟨g1, g2⟩, g3⟩, g4⟩, g5⟩, g6⟩ := h5
  simp [Cond.before, Cond.holds, Cond.value, h1, h2, h3, h4, g1, g2, g3, g4, g5, g6]
def isCode : Jvm.Cond → Bool
  | .code _ _ _ _ => true
  | _ => false
theorem all_split {L : List Jvm.Cond} {P : Jvm.Cond → Bool} (h1 : L.all (fun c => isCode c || P c) = true) (h2 : ∀ c ∈ L.filter isCode, P c = true) : L.all P = true := by
  refine List.all_eq_true.mpr fun c hc => ?_
  have h := List.all_eq_true.mp h1 c hc
  rcases Bool.eq_false_or_eq_true (isCode c) with hi | hi
  · exact h2 c (List.mem_filter.mpr ⟨hc, hi⟩)
  · simpa [hi] using h
set_option maxRecDepth 65536 in
theorem w_c0 : (Jvm.Cond.code x code maxLocals ret).before args0 about1 = true := code_word (m := ⟨1, 3⟩) (meth := k1m3) (c := k1c3) (by decide +kernel) rfl rfl rfl (by decide +kernel)
set_option maxRecDepth 65536 in
theorem w_c1 : (Jvm.Cond.code ({ cls := "java/util/ArrayList", name := "<init>", desc := "()V" } : Jvm.MethodName) jdk_38_method_2_code (1 : Nat) (Option.none : Option Jvm.ClassFile.FieldType)).before args0 about1 = true := code_word (m := ⟨11, 0⟩) (meth := k11m0) (c := k11c0) (by decide +kernel) rfl rfl rfl (by decide +kernel)
set_option maxRecDepth 65536 in
theorem w_c2 : (Jvm.Cond.code ({ cls := "java/util/AbstractList", name := "<init>", desc := "()V" } : Jvm.MethodName) jdk_39_method_1_code (1 : Nat) (Option.none : Option Jvm.ClassFile.FieldType)).before args0 about1 = true := code_word (m := ⟨7, 0⟩) (meth := k7m0) (c := k7c0) (by decide +kernel) rfl rfl rfl (by decide +kernel)
set_option maxRecDepth 65536 in
theorem w_c3 : (Jvm.Cond.code ({ cls := "java/util/AbstractCollection", name := "<init>", desc := "()V" } : Jvm.MethodName) jdk_22_method_1_code (1 : Nat) (Option.none : Option Jvm.ClassFile.FieldType)).before args0 about1 = true := code_word (m := ⟨4, 0⟩) (meth := k4m0) (c := k4c0) (by decide +kernel) rfl rfl rfl (by decide +kernel)
set_option maxRecDepth 65536 in
theorem w_c4 : (Jvm.Cond.code ({ cls := "java/lang/Object", name := "<init>", desc := "()V" } : Jvm.MethodName) object_method_1_code (1 : Nat) (Option.none : Option Jvm.ClassFile.FieldType)).before args0 about1 = true := code_word (m := ⟨0, 0⟩) (meth := k0m0) (c := k0c0) (by decide +kernel) rfl rfl rfl (by decide +kernel)
set_option maxRecDepth 65536 in
theorem w_c5 : (Jvm.Cond.code ({ cls := "java/util/ArrayList", name := "add", desc := "(Ljava/lang/Object;)Z" } : Jvm.MethodName) jdk_38_method_25_code (2 : Nat) (Option.some Jvm.ClassFile.FieldType.boolean)).before args0 about1 = true := code_word (m := ⟨11, 4⟩) (meth := k11m4) (c := k11c4) (by decide +kernel) rfl rfl rfl (by decide +kernel)
set_option maxRecDepth 65536 in
theorem w_c6 : (Jvm.Cond.code ({ cls := "java/util/ArrayList", name := "add", desc := "(Ljava/lang/Object;[Ljava/lang/Object;I)V" } : Jvm.MethodName) jdk_38_method_24_code (4 : Nat) (Option.none : Option Jvm.ClassFile.FieldType)).before args0 about1 = true := code_word (m := ⟨11, 3⟩) (meth := k11m3) (c := k11c3) (by decide +kernel) rfl rfl rfl (by decide +kernel)
set_option maxRecDepth 65536 in
theorem w_c7 : (Jvm.Cond.code ({ cls := "java/util/ArrayList", name := "grow", desc := "()[Ljava/lang/Object;" } : Jvm.MethodName) jdk_38_method_7_code (1 : Nat) (Option.some (Jvm.ClassFile.FieldType.array (Jvm.ClassFile.FieldType.object "java/lang/Object")))).before args0 about1 = true := code_word (m := ⟨11, 2⟩) (meth := k11m2) (c := k11c2) (by decide +kernel) rfl rfl rfl (by decide +kernel)
set_option maxRecDepth 65536 in
theorem w_c8 : (Jvm.Cond.code ({ cls := "java/util/ArrayList", name := "grow", desc := "(I)[Ljava/lang/Object;" } : Jvm.MethodName) jdk_38_method_6_code (4 : Nat) (Option.some (Jvm.ClassFile.FieldType.array (Jvm.ClassFile.FieldType.object "java/lang/Object")))).before args0 about1 = true := code_word (m := ⟨11, 1⟩) (meth := k11m1) (c := k11c1) (by decide +kernel) rfl rfl rfl (by decide +kernel)
set_option maxRecDepth 65536 in
theorem w_c9 : (Jvm.Cond.code ({ cls := "java/lang/Math", name := "max", desc := "(II)I" } : Jvm.MethodName) jdk_29_method_65_code (2 : Nat) (Option.some Jvm.ClassFile.FieldType.int)).before args0 about1 = true := code_word (m := ⟨12, 1⟩) (meth := k12m1) (c := k12c1) (by decide +kernel) rfl rfl rfl (by decide +kernel)
set_option maxRecDepth 65536 in
theorem w_c10 : (Jvm.Cond.code ({ cls := "com/example/ovrdue/ovrdue/command/Rewrite", name := "<init>", desc := "()V" } : Jvm.MethodName) prog_4_method_1_code (1 : Nat) (Option.none : Option Jvm.ClassFile.FieldType)).before args0 about1 = true := code_word (m := ⟨13, 0⟩) (meth := k13m0) (c := k13c0) (by decide +kernel) rfl rfl rfl (by decide +kernel)
set_option maxRecDepth 65536 in
theorem w_c11 : (Jvm.Cond.code ({ cls := "com/example/ovrdue/ovrdue/command/RewriteTakePinLaw", name := "apply", desc := "(Lcom/example/ovrdue/ovrdue/command/Rewrite;I[B[B[B)V" } : Jvm.MethodName) method_2_code (5 : Nat) (Option.none : Option Jvm.ClassFile.FieldType)).before args0 about1 = true := code_word (m := ⟨1, 1⟩) (meth := k1m1) (c := k1c1) (by decide +kernel) rfl rfl rfl (by decide +kernel)
set_option maxRecDepth 65536 in
theorem w_c12 : (Jvm.Cond.code ({ cls := "com/example/ovrdue/ovrdue/command/Rewrite", name := "as", desc := "([[B)V" } : Jvm.MethodName) prog_4_method_2_code (2 : Nat) (Option.none : Option Jvm.ClassFile.FieldType)).before args0 about1 = true := code_word (m := ⟨13, 1⟩) (meth := k13m1) (c := k13c1) (by decide +kernel) rfl rfl rfl (by decide +kernel)
set_option maxRecDepth 65536 in
theorem w_c13 : (Jvm.Cond.code ({ cls := "java/util/List", name := "of", desc := "([Ljava/lang/Object;)Ljava/util/List;" } : Jvm.MethodName) jdk_40_method_47_code (2 : Nat) (Option.some (Jvm.ClassFile.FieldType.object "java/util/List"))).before args0 about1 = true := code_word (m := ⟨6, 2⟩) (meth := k6m2) (c := k6c2) (by decide +kernel) rfl rfl rfl (by decide +kernel)
set_option maxRecDepth 65536 in
theorem w_c14 : (Jvm.Cond.code ({ cls := "java/util/ImmutableCollections$List12", name := "<init>", desc := "(Ljava/lang/Object;)V" } : Jvm.MethodName) jdk_44_method_1_code (2 : Nat) (Option.none : Option Jvm.ClassFile.FieldType)).before args0 about1 = true := code_word (m := ⟨16, 0⟩) (meth := k16m0) (c := k16c0) (by decide +kernel) rfl rfl rfl (by decide +kernel)
set_option maxRecDepth 65536 in
theorem w_c15 : (Jvm.Cond.code ({ cls := "java/util/ImmutableCollections$AbstractImmutableList", name := "<init>", desc := "()V" } : Jvm.MethodName) jdk_46_method_1_code (1 : Nat) (Option.none : Option Jvm.ClassFile.FieldType)).before args0 about1 = true := code_word (m := ⟨15, 0⟩) (meth := k15m0) (c := k15c0) (by decide +kernel) rfl rfl rfl (by decide +kernel)
set_option maxRecDepth 65536 in
theorem w_c16 : (Jvm.Cond.code ({ cls := "java/util/ImmutableCollections$AbstractImmutableCollection", name := "<init>", desc := "()V" } : Jvm.MethodName) jdk_47_method_1_code (1 : Nat) (Option.none : Option Jvm.ClassFile.FieldType)).before args0 about1 = true := code_word (m := ⟨14, 0⟩) (meth := k14m0) (c := k14c0) (by decide +kernel) rfl rfl rfl (by decide +kernel)
set_option maxRecDepth 65536 in
theorem w_c17 : (Jvm.Cond.code ({ cls := "java/util/Objects", name := "requireNonNull", desc := "(Ljava/lang/Object;)Ljava/lang/Object;" } : Jvm.MethodName) jdk_31_method_10_code (1 : Nat) (Option.some (Jvm.ClassFile.FieldType.object "java/lang/Object"))).before args0 about1 = true := code_word (m := ⟨17, 1⟩) (meth := k17m1) (c := k17c1) (by decide +kernel) rfl rfl rfl (by decide +kernel)
set_option maxRecDepth 65536 in
theorem w_c18 : (Jvm.Cond.code ({ cls := "com/example/ovrdue/ovrdue/command/Rewrite", name := "take", desc := "(Ljava/util/List;)Ljava/util/List;" } : Jvm.MethodName) prog_4_method_4_code (3 : Nat) (Option.some (Jvm.ClassFile.FieldType.object "java/util/List"))).before args0 about1 = true := code_word (m := ⟨13, 3⟩) (meth := k13m3) (c := k13c3) (by decide +kernel) rfl rfl rfl (by decide +kernel)
set_option maxRecDepth 65536 in
theorem w_c19 : (Jvm.Cond.code ({ cls := "com/example/ovrdue/ovrdue/command/RewriteTakePinLaw", name := "check", desc := "(Ljava/util/List;ILjava/util/List;[B[B[B)Z" } : Jvm.MethodName) method_3_code (6 : Nat) (Option.some Jvm.ClassFile.FieldType.boolean)).before args0 about1 = true := code_word (m := ⟨1, 2⟩) (meth := k1m2) (c := k1c2) (by decide +kernel) rfl rfl rfl (by decide +kernel)
set_option maxRecDepth 65536 in
theorem w_c20 : (Jvm.Cond.code ({ cls := "java/util/ImmutableCollections$List12", name := "size", desc := "()I" } : Jvm.MethodName) jdk_44_method_3_code (1 : Nat) (Option.some Jvm.ClassFile.FieldType.int)).before args0 about1 = true := code_word (m := ⟨16, 2⟩) (meth := k16m2) (c := k16c2) (by decide +kernel) rfl rfl rfl (by decide +kernel)
set_option maxRecDepth 65536 in
theorem w_c21 : (Jvm.Cond.code ({ cls := "java/util/ImmutableCollections$List12", name := "get", desc := "(I)Ljava/lang/Object;" } : Jvm.MethodName) jdk_44_method_5_code (2 : Nat) (Option.some (Jvm.ClassFile.FieldType.object "java/lang/Object"))).before args0 about1 = true := code_word (m := ⟨16, 3⟩) (meth := k16m3) (c := k16c3) (by decide +kernel) rfl rfl rfl (by decide +kernel)
set_option maxRecDepth 65536 in
theorem w_c22 : (Jvm.Cond.code ({ cls := "com/example/ovrdue/ovrdue/command/Rewrite", name := "asNothing", desc := "()V" } : Jvm.MethodName) prog_4_method_3_code (1 : Nat) (Option.none : Option Jvm.ClassFile.FieldType)).before args0 about1 = true := code_word (m := ⟨13, 2⟩) (meth := k13m2) (c := k13c2) (by decide +kernel) rfl rfl rfl (by decide +kernel)
set_option maxRecDepth 65536 in
theorem w_c23 : (Jvm.Cond.code ({ cls := "java/util/ImmutableCollections$List12", name := "<init>", desc := "(Ljava/lang/Object;Ljava/lang/Object;)V" } : Jvm.MethodName) jdk_44_method_2_code (3 : Nat) (Option.none : Option Jvm.ClassFile.FieldType)).before args0 about1 = true := code_word (m := ⟨16, 1⟩) (meth := k16m1) (c := k16c1) (by decide +kernel) rfl rfl rfl (by decide +kernel)
def codes1 : List Jvm.Cond := [Jvm.Cond.code x code maxLocals ret, Jvm.Cond.code ({ cls := "java/util/ArrayList", name := "<init>", desc := "()V" } : Jvm.MethodName) jdk_38_method_2_code (1 : Nat) (Option.none : Option Jvm.ClassFile.FieldType), Jvm.Cond.code ({ cls := "java/util/AbstractList", name := "<init>", desc := "()V" } : Jvm.MethodName) jdk_39_method_1_code (1 : Nat) (Option.none : Option Jvm.ClassFile.FieldType), Jvm.Cond.code ({ cls := "java/util/AbstractCollection", name := "<init>", desc := "()V" } : Jvm.MethodName) jdk_22_method_1_code (1 : Nat) (Option.none : Option Jvm.ClassFile.FieldType), Jvm.Cond.code ({ cls := "java/lang/Object", name := "<init>", desc := "()V" } : Jvm.MethodName) object_method_1_code (1 : Nat) (Option.none : Option Jvm.ClassFile.FieldType), Jvm.Cond.code ({ cls := "java/util/ArrayList", name := "add", desc := "(Ljava/lang/Object;)Z" } : Jvm.MethodName) jdk_38_method_25_code (2 : Nat) (Option.some Jvm.ClassFile.FieldType.boolean), Jvm.Cond.code ({ cls := "java/util/ArrayList", name := "add", desc := "(Ljava/lang/Object;[Ljava/lang/Object;I)V" } : Jvm.MethodName) jdk_38_method_24_code (4 : Nat) (Option.none : Option Jvm.ClassFile.FieldType), Jvm.Cond.code ({ cls := "java/util/ArrayList", name := "grow", desc := "()[Ljava/lang/Object;" } : Jvm.MethodName) jdk_38_method_7_code (1 : Nat) (Option.some (Jvm.ClassFile.FieldType.array (Jvm.ClassFile.FieldType.object "java/lang/Object"))), Jvm.Cond.code ({ cls := "java/util/ArrayList", name := "grow", desc := "(I)[Ljava/lang/Object;" } : Jvm.MethodName) jdk_38_method_6_code (4 : Nat) (Option.some (Jvm.ClassFile.FieldType.array (Jvm.ClassFile.FieldType.object "java/lang/Object"))), Jvm.Cond.code ({ cls := "java/lang/Math", name := "max", desc := "(II)I" } : Jvm.MethodName) jdk_29_method_65_code (2 : Nat) (Option.some Jvm.ClassFile.FieldType.int), Jvm.Cond.code ({ cls := "com/example/ovrdue/ovrdue/command/Rewrite", name := "<init>", desc := "()V" } : Jvm.MethodName) prog_4_method_1_code (1 : Nat) (Option.none : Option Jvm.ClassFile.FieldType), Jvm.Cond.code ({ cls := "com/example/ovrdue/ovrdue/command/RewriteTakePinLaw", name := "apply", desc := "(Lcom/example/ovrdue/ovrdue/command/Rewrite;I[B[B[B)V" } : Jvm.MethodName) method_2_code (5 : Nat) (Option.none : Option Jvm.ClassFile.FieldType), Jvm.Cond.code ({ cls := "com/example/ovrdue/ovrdue/command/Rewrite", name := "as", desc := "([[B)V" } : Jvm.MethodName) prog_4_method_2_code (2 : Nat) (Option.none : Option Jvm.ClassFile.FieldType), Jvm.Cond.code ({ cls := "java/util/List", name := "of", desc := "([Ljava/lang/Object;)Ljava/util/List;" } : Jvm.MethodName) jdk_40_method_47_code (2 : Nat) (Option.some (Jvm.ClassFile.FieldType.object "java/util/List")), Jvm.Cond.code ({ cls := "java/util/ImmutableCollections$List12", name := "<init>", desc := "(Ljava/lang/Object;)V" } : Jvm.MethodName) jdk_44_method_1_code (2 : Nat) (Option.none : Option Jvm.ClassFile.FieldType), Jvm.Cond.code ({ cls := "java/util/ImmutableCollections$AbstractImmutableList", name := "<init>", desc := "()V" } : Jvm.MethodName) jdk_46_method_1_code (1 : Nat) (Option.none : Option Jvm.ClassFile.FieldType), Jvm.Cond.code ({ cls := "java/util/ImmutableCollections$AbstractImmutableCollection", name := "<init>", desc := "()V" } : Jvm.MethodName) jdk_47_method_1_code (1 : Nat) (Option.none : Option Jvm.ClassFile.FieldType), Jvm.Cond.code ({ cls := "java/util/Objects", name := "requireNonNull", desc := "(Ljava/lang/Object;)Ljava/lang/Object;" } : Jvm.MethodName) jdk_31_method_10_code (1 : Nat) (Option.some (Jvm.ClassFile.FieldType.object "java/lang/Object")), Jvm.Cond.code ({ cls := "com/example/ovrdue/ovrdue/command/Rewrite", name := "take", desc := "(Ljava/util/List;)Ljava/util/List;" } : Jvm.MethodName) prog_4_method_4_code (3 : Nat) (Option.some (Jvm.ClassFile.FieldType.object "java/util/List")), Jvm.Cond.code ({ cls := "com/example/ovrdue/ovrdue/command/RewriteTakePinLaw", name := "check", desc := "(Ljava/util/List;ILjava/util/List;[B[B[B)Z" } : Jvm.MethodName) method_3_code (6 : Nat) (Option.some Jvm.ClassFile.FieldType.boolean), Jvm.Cond.code ({ cls := "java/util/ImmutableCollections$List12", name := "size", desc := "()I" } : Jvm.MethodName) jdk_44_method_3_code (1 : Nat) (Option.some Jvm.ClassFile.FieldType.int), Jvm.Cond.code ({ cls := "java/util/ImmutableCollections$List12", name := "get", desc := "(I)Ljava/lang/Object;" } : Jvm.MethodName) jdk_44_method_5_code (2 : Nat) (Option.some (Jvm.ClassFile.FieldType.object "java/lang/Object")), Jvm.Cond.code ({ cls := "com/example/ovrdue/ovrdue/command/Rewrite", name := "asNothing", desc := "()V" } : Jvm.MethodName) prog_4_method_3_code (1 : Nat) (Option.none : Option Jvm.ClassFile.FieldType), Jvm.Cond.code ({ cls := "java/util/ImmutableCollections$List12", name := "<init>", desc := "(Ljava/lang/Object;Ljava/lang/Object;)V" } : Jvm.MethodName) jdk_44_method_2_code (3 : Nat) (Option.none : Option Jvm.ClassFile.FieldType)]
set_option maxRecDepth 65536 in
theorem codes_eq : words1.filter isCode = codes1 := rfl
theorem w_codes : ∀ c ∈ words1.filter isCode, c.before args0 about1 = true := by
  rw [codes_eq]
  intro c hc
  simp only [codes1, List.mem_cons, List.not_mem_nil, or_false] at hc
  rcases hc with rfl | rfl | rfl | rfl | rfl | rfl | rfl | rfl | rfl | rfl | rfl | rfl | rfl | rfl | rfl | rfl | rfl | rfl | rfl | rfl | rfl | rfl | rfl | rfl
  · exact w_c0
  · exact w_c1
  · exact w_c2
  · exact w_c3
  · exact w_c4
  · exact w_c5
  · exact w_c6
  · exact w_c7
  · exact w_c8
  · exact w_c9
  · exact w_c10
  · exact w_c11
  · exact w_c12
  · exact w_c13
  · exact w_c14
  · exact w_c15
  · exact w_c16
  · exact w_c17
  · exact w_c18
  · exact w_c19
  · exact w_c20
  · exact w_c21
  · exact w_c22
  · exact w_c23
set_option maxRecDepth 65536 in
theorem w_t1 : (words1.take 24).all (fun c => isCode c || c.before args0 about1) = true := by decide +kernel
set_option maxRecDepth 65536 in
theorem w_t2 : ((words1.drop 24).take 24).all (fun c => isCode c || c.before args0 about1) = true := by decide +kernel
set_option maxRecDepth 65536 in
theorem w_t3 : (((words1.drop 24).drop 24).take 24).all (fun c => isCode c || c.before args0 about1) = true := by decide +kernel
set_option maxRecDepth 65536 in
theorem w_t4 : ((((words1.drop 24).drop 24).drop 24).take 24).all (fun c => isCode c || c.before args0 about1) = true := by decide +kernel
set_option maxRecDepth 65536 in
theorem w_t5 : (((((words1.drop 24).drop 24).drop 24).drop 24).take 24).all (fun c => isCode c || c.before args0 about1) = true := by decide +kernel
set_option maxRecDepth 65536 in
theorem w_t6 : ((((((words1.drop 24).drop 24).drop 24).drop 24).drop 24).take 24).all (fun c => isCode c || c.before args0 about1) = true := by decide +kernel
set_option maxRecDepth 65536 in
theorem w_t7 : ((((((words1.drop 24).drop 24).drop 24).drop 24).drop 24).drop 24).all (fun c => isCode c || c.before args0 about1) = true := by decide +kernel
theorem w_tables : (allAtoms (Jvm.Cond.code x code maxLocals ret :: tables_1)).before args0 about1 = true := by
  rw [allAtoms_all]
  show words1.all (fun c => c.before args0 about1) = true
  refine all_split ?_ w_codes
  rw [← List.take_append_drop 24 words1, List.all_append, w_t1, ← List.take_append_drop 24 (words1.drop 24), List.all_append, w_t2, ← List.take_append_drop 24 ((words1.drop 24).drop 24), List.all_append, w_t3, ← List.take_append_drop 24 (((words1.drop 24).drop 24).drop 24), List.all_append, w_t4, ← List.take_append_drop 24 ((((words1.drop 24).drop 24).drop 24).drop 24), List.all_append, w_t5, ← List.take_append_drop 24 (((((words1.drop 24).drop 24).drop 24).drop 24).drop 24), List.all_append, w_t6, w_t7]
  rfl
set_option maxRecDepth 65536 in
theorem w_rest : rest_1_c.before args0 about1 = true := by decide +kernel
set_option maxRecDepth 65536 in
theorem w_case : (Jvm.Cond.and given_1 narrow_1).before args0 about1 = true := by decide +kernel
theorem w_applies : (headSpec (Jvm.Cond.code x code maxLocals ret :: tables_1) room_1).applies x e0.platform about1 = true :=
  (Spec.applies_iff w_frames).mpr ⟨w_running, w_runnable, w_alone, w_named, w_hears, w_ripe, w_room, w_tables⟩
theorem atStart : AtStart classFile x code maxLocals ret World_1 tables_1 room_1 Calls_1 rest_1 Pre_1 launch0 p0 e0 about1 theMethod args0 below0 :=
  ⟨lists_1, trivial, launch0.admits_env _ _ _, launch0.least_env, fairChoices_fair.cas, fairChoices_fair.clock, w_frames, w_args, w_heap, w_applies, trivial, w_rest, w_case⟩
end start1
theorem witness_1 : WitnessClaimed_1 := ⟨start1.p0, start1.e0, start1.about1, start1.theMethod, start1.args0, start1.below0, start1.atStart⟩
end Jvm.Pilot.@@N@@
