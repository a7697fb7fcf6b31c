import JvmDerived
import JvmDerived.Pilot.@@N@@Statement
import JvmDerived.Pilot.@@N@@Code
set_option linter.unusedVariables false
set_option linter.unusedSimpArgs false
namespace Jvm.Pilot.@@N@@
open Jvm Jvm.ClassFile Sem Op Lib Jvm.Free Jvm.Stand Jvm.LawKit Jvm.RoadKit Bundle Jvm.Pilot.@@N@@.Jvm.D
/-! 0. own tools: the goal that a walk carries; an array's store and load by what is known of it -/
def Go (tb : Tables) (e : Env) (below : List Frame) (P : State → Prop) (s : State) : Prop := ∃ s₂, Steps tb e below s s₂ ∧ P s₂
section OwnTools
variable {tb : Tables} {e : Env} {below : List Frame} {P : State → Prop} {A B : State}
theorem Go.st (h : ∀ t, Steps tb e below A t → Steps tb e below B t) (g : Go tb e below P A) : Go tb e below P B := by
  obtain ⟨s₂, h1, h2⟩ := g
  exact ⟨s₂, h _ h1, h2⟩
theorem Go.tr (h : Steps tb e below B A) (g : Go tb e below P A) : Go tb e below P B := by
  obtain ⟨s₂, h1, h2⟩ := g
  exact ⟨s₂, h.trans h1, h2⟩
theorem Go.start {Q : Outcome → State → Prop} (h : ∀ P : State → Prop, (∀ s₂ o, s₂.status = .running → Ended s₂ below o → Q o s₂ → P s₂) → Go tb e below P A) : ∃ s₂ o, Steps tb e below A s₂ ∧ s₂.status = .running ∧ Ended s₂ below o ∧ Q o s₂ := by
  obtain ⟨s₂, h1, o, h2, h3, h4⟩ := h (fun s₂ => ∃ o, s₂.status = .running ∧ Ended s₂ below o ∧ Q o s₂) (fun s₂ o a b c => ⟨o, a, b, c⟩)
  exact ⟨s₂, o, h1, h2, h3, h4⟩
theorem own_oldsz {Z : State} {n0 : Nat} {h : Heap} (X : Old Z n0 h) : n0 ≤ h.size := by have := X.1; have := X.2.1; omega
theorem own_cat {v : Value} (h : v.isRef = true) : v.category = 1 := by cases v <;> first | rfl | simp [Value.isRef] at h
theorem own_refcase {v : Value} (h : v.isRef = true) : v = .null ∨ ∃ a, v = .ref a := by cases v <;> first | (left; rfl) | (right; exact ⟨_, rfl⟩) | (simp [Value.isRef] at h)
theorem own_nar_ref {v : Value} {t : FieldType} (h : v.isRef = true) : narrow t v = v := by cases v <;> first | (simp [Value.isRef] at h; done) | (cases t <;> rfl)
theorem own_fits_ref {v : Value} {t : FieldType} (h : v.isRef = true) (ht : t.isReference = true := by rfl) : fits t v = true := by cases v <;> first | (simp [Value.isRef] at h; done) | (cases t <;> first | rfl | (simp [FieldType.isReference] at ht))
theorem own_eq_ref {args : Array Value} {first s : State} {o : Option Outcome} {idx : List Nat} {a b : Term} {w : Addr} (hb : b.eval args first o idx s = some (.ref w)) (h : (Cond.eq a b).value args first o s idx = some true) : a.eval args first o idx s = some (.ref w) := by
  cases ha : a.eval args first o idx s with
  | none => simp [Cond.value, ha] at h
  | some x => cases x <;> simp [Cond.value, ha, hb] at h ⊢; exact h
theorem own_len_start {args : Array Value} {s : State} {t : Term} {n : Int32} {a : Addr} {cl : Cell} (h : (Term.length t).eval args s none [] s = some (.int n)) (ht : t.eval args s none [] s = some (.ref a)) (hc : s.heap[a]? = some cl) : cl.slots.size < 2 ^ 31 ∧ cl.slots.size.toInt32 = n := by
  simp only [Term.eval, ht, Option.bind_eq_bind, Option.bind_some] at h
  cases hq : s.arrayAt? a with
  | none => simp [hq] at h
  | some c2 =>
    have e := (State.arrayAt?_spec hq).1
    cases hc.symm.trans e
    simp only [hq, Option.bind_some] at h
    split at h
    · rename_i hlt; exact ⟨hlt, by simpa using h⟩
    · cases h
theorem own_since (s : State) : s.Since s.vm 0 := (State.WarmedH.refl s).since 0
theorem own_and255 (x : Int32) : ¬ (x &&& 255) < 0 ∧ ¬ (255 : Int32) < (x &&& 255) := by
  have h := c_and x 255 (by decide)
  have e0 : (0 : Int32).toInt = 0 := rfl
  have e1 : (255 : Int32).toInt = 255 := rfl
  rw [Int32.lt_iff_toInt_lt, Int32.lt_iff_toInt_lt]
  omega
theorem own_nar_i2c (x : Int32) : nar .char (x.toUInt32.toUInt16.toUInt32.toInt32) = x.toUInt32.toUInt16.toUInt32.toInt32 := by
  show (x.toUInt32.toUInt16.toUInt32.toInt32).toUInt32.toUInt16.toUInt32.toInt32 = _
  rw [UInt32.toUInt32_toInt32, UInt16.toUInt16_toUInt32]
theorem own_nar_i2b (x : Int32) : nar .byte (x.toInt8.toInt32) = x.toInt8.toInt32 := by
  show (x.toInt8.toInt32).toInt8.toInt32 = _
  simp
theorem own_narZ {x : Int32} (h : x = 0 ∨ x = 1) : nar .boolean x = x := by rcases h with rfl | rfl <;> rfl
theorem own_up (cs : List Int32) (h : ∀ c ∈ cs, ¬ c < 0 ∧ ¬ (255 : Int32) < c) : ∀ c ∈ cs, ¬ c < 0 ∧ ¬ (65535 : Int32) < c := fun c hc => ⟨(h c hc).1, fun q => (h c hc).2 (by rw [Int32.lt_iff_toInt_lt] at q ⊢; have e1 : (65535 : Int32).toInt = 65535 := rfl; have e2 : (255 : Int32).toInt = 255 := rfl; omega)⟩
theorem own_narC {x : Int32} (h : ¬ x < 0 ∧ ¬ (255 : Int32) < x) : nar .char x = x := by
  have e0 : (0 : Int32).toInt = 0 := rfl
  have e1 : (255 : Int32).toInt = 255 := rfl
  have a := h.1
  have b := h.2
  rw [Int32.lt_iff_toInt_lt, e0] at a
  rw [Int32.lt_iff_toInt_lt, e1] at b
  have c := c_i2c x
  exact Int32.toInt_inj.mp (show x.toUInt32.toUInt16.toUInt32.toInt32.toInt = x.toInt by omega)
theorem own_int {r : Int32} {k : Int} (h : r.toInt = k) {q : Int32} (hq : q.toInt = k) : r = q := Int32.toInt_inj.mp (by rw [h, hq])
end OwnTools
section OwnArrays
variable {p : Program} {l : Launch} {e : Env} {R : Room} {s : State} {m : MethodId} {args : Array Value} {below : List Frame} {meth : Method} {c : Code} {T : State} {locs : List Loc} {cells slots : Nat} {Z : State} {h : Heap} {a : Addr} {k : ClassId} {z : Int32} {vs : List Value} {dv : Value}
theorem own_stC (X : Stand p l e R s m args below meth c T locs cells slots) (hx : p.tables.exec = Jvm.exec) (hZ : Z.Warmed39 s.vm) (eT : T.heap = h) (V : Arv Z h a k .char z vs dv) {j x : Int32} {i : Nat} (hj : ¬ j < 0 ∧ j < z) (hji : j.toNatClampNeg = i) (hi : i < vs.length) {g : JFrame} (hg : g.method = m) {rest : List Value} (hs : g.stack = .int x :: .int j :: .ref a :: rest) (hd : decode c.code g.pc = .ok (.castore, 1)) :
    ∃ T' h', Stand p l e R s m args below meth c T' (locs ++ [⟨a, j.toNatClampNeg⟩]) cells slots ∧ T'.heap = h' ∧ Wr h h' a j.toNatClampNeg (.int (nar .char x)) ∧ Arv Z h' a k .char z (vs.set i (.int (nar .char x))) dv ∧ ∀ target, Steps p.tables e below (T'.setTop { g with pc := g.pc + 1, stack := rest }) target → Steps p.tables e below (T.setTop g) target := by
  obtain ⟨cl, A, q1, S, q3, H, G⟩ := V
  obtain ⟨T', h', X', e', W, st⟩ := stC X hx hZ eT A (inb_of S hj) hg hs hd
  exact ⟨T', h', X', e', W, Arv.set A q1 S q3 H G (fits_nar_char x) W i hji hi, st⟩
theorem own_stI (X : Stand p l e R s m args below meth c T locs cells slots) (hx : p.tables.exec = Jvm.exec) (hZ : Z.Warmed39 s.vm) (eT : T.heap = h) (V : Arv Z h a k .int z vs dv) {j x : Int32} {i : Nat} (hj : ¬ j < 0 ∧ j < z) (hji : j.toNatClampNeg = i) (hi : i < vs.length) {g : JFrame} (hg : g.method = m) {rest : List Value} (hs : g.stack = .int x :: .int j :: .ref a :: rest) (hd : decode c.code g.pc = .ok (.iastore, 1)) :
    ∃ T' h', Stand p l e R s m args below meth c T' (locs ++ [⟨a, j.toNatClampNeg⟩]) cells slots ∧ T'.heap = h' ∧ Wr h h' a j.toNatClampNeg (.int x) ∧ Arv Z h' a k .int z (vs.set i (.int x)) dv ∧ ∀ target, Steps p.tables e below (T'.setTop { g with pc := g.pc + 1, stack := rest }) target → Steps p.tables e below (T.setTop g) target := by
  obtain ⟨cl, A, q1, S, q3, H, G⟩ := V
  obtain ⟨T', h', X', e', W, st⟩ := stI X hx hZ eT A (inb_of S hj) hg hs hd
  exact ⟨T', h', X', e', W, Arv.set A q1 S q3 H G rfl W i hji hi, st⟩
theorem own_stZ (X : Stand p l e R s m args below meth c T locs cells slots) (hx : p.tables.exec = Jvm.exec) (hZ : Z.Warmed39 s.vm) (eT : T.heap = h) (V : Arv Z h a k .boolean z vs dv) {j x : Int32} {i : Nat} (hj : ¬ j < 0 ∧ j < z) (hji : j.toNatClampNeg = i) (hi : i < vs.length) {g : JFrame} (hg : g.method = m) {rest : List Value} (hs : g.stack = .int x :: .int j :: .ref a :: rest) (hd : decode c.code g.pc = .ok (.bastore, 1)) :
    ∃ T' h', Stand p l e R s m args below meth c T' (locs ++ [⟨a, j.toNatClampNeg⟩]) cells slots ∧ T'.heap = h' ∧ Wr h h' a j.toNatClampNeg (.int (nar .boolean x)) ∧ Arv Z h' a k .boolean z (vs.set i (.int (nar .boolean x))) dv ∧ ∀ target, Steps p.tables e below (T'.setTop { g with pc := g.pc + 1, stack := rest }) target → Steps p.tables e below (T.setTop g) target := by
  obtain ⟨cl, A, q1, S, q3, H, G⟩ := V
  obtain ⟨T', h', X', e', W, st⟩ := stZ X hx hZ eT A (inb_of S hj) hg hs hd
  exact ⟨T', h', X', e', W, Arv.set A q1 S q3 H G (fits_nar_bool x) W i hji hi, st⟩
theorem own_stB (X : Stand p l e R s m args below meth c T locs cells slots) (hx : p.tables.exec = Jvm.exec) (hZ : Z.Warmed39 s.vm) (eT : T.heap = h) (V : Arv Z h a k .byte z vs dv) {j x : Int32} {i : Nat} (hj : ¬ j < 0 ∧ j < z) (hji : j.toNatClampNeg = i) (hi : i < vs.length) {g : JFrame} (hg : g.method = m) {rest : List Value} (hs : g.stack = .int x :: .int j :: .ref a :: rest) (hd : decode c.code g.pc = .ok (.bastore, 1)) :
    ∃ T' h', Stand p l e R s m args below meth c T' (locs ++ [⟨a, j.toNatClampNeg⟩]) cells slots ∧ T'.heap = h' ∧ Wr h h' a j.toNatClampNeg (.int (nar .byte x)) ∧ Arv Z h' a k .byte z (vs.set i (.int (nar .byte x))) dv ∧ ∀ target, Steps p.tables e below (T'.setTop { g with pc := g.pc + 1, stack := rest }) target → Steps p.tables e below (T.setTop g) target := by
  obtain ⟨cl, A, q1, S, q3, H, G⟩ := V
  obtain ⟨T', h', X', e', W, st⟩ := stB X hx hZ eT A (inb_of S hj) hg hs hd
  exact ⟨T', h', X', e', W, Arv.set A q1 S q3 H G (fits_nar_byte x) W i hji hi, st⟩
theorem own_stD (X : Stand p l e R s m args below meth c T locs cells slots) (hx : p.tables.exec = Jvm.exec) (hZ : Z.Warmed39 s.vm) (eT : T.heap = h) (V : Arv Z h a k .double z vs dv) {j : Int32} {x : UInt64} {i : Nat} (hj : ¬ j < 0 ∧ j < z) (hji : j.toNatClampNeg = i) (hi : i < vs.length) {g : JFrame} (hg : g.method = m) {rest : List Value} (hs : g.stack = .double x :: .int j :: .ref a :: rest) (hd : decode c.code g.pc = .ok (.dastore, 1)) :
    ∃ T' h', Stand p l e R s m args below meth c T' (locs ++ [⟨a, j.toNatClampNeg⟩]) cells slots ∧ T'.heap = h' ∧ Wr h h' a j.toNatClampNeg (.double x) ∧ Arv Z h' a k .double z (vs.set i (.double x)) dv ∧ ∀ target, Steps p.tables e below (T'.setTop { g with pc := g.pc + 1, stack := rest }) target → Steps p.tables e below (T.setTop g) target := by
  obtain ⟨cl, A, q1, S, q3, H, G⟩ := V
  obtain ⟨T', h', X', e', W, st⟩ := stD X hx hZ eT A (inb_of S hj) hg hs hd
  exact ⟨T', h', X', e', W, Arv.set A q1 S q3 H G rfl W i hji hi, st⟩
theorem own_at {ty : FieldType} (V : Arv Z h a k ty z vs dv) {j : Int32} {i : Nat} {v : Value} (hj : ¬ j < 0 ∧ j < z) (hji : j.toNatClampNeg = i) (hv : vs.getD i dv = v) : ∃ cl : Cell, Arr Z h a cl ty ∧ ¬ (j < 0 ∨ cl.slots.size ≤ j.toNatClampNeg) ∧ cl.slots[j.toNatClampNeg]? = some v := by
  obtain ⟨cl, A, q1, S, q3, H, G⟩ := V
  exact ⟨cl, A, inb_of S hj, Has.at H (inb_of S hj) (by rw [hji]; exact hv)⟩
theorem own_ldI (X : Stand p l e R s m args below meth c T locs cells slots) (hx : p.tables.exec = Jvm.exec) (hZ : Z.Warmed39 s.vm) (eT : T.heap = h) (V : Arv Z h a k .int z vs dv) {j : Int32} {i : Nat} {v : Value} (hj : ¬ j < 0 ∧ j < z) (hji : j.toNatClampNeg = i) (hv : vs.getD i dv = v) {g : JFrame} (hg : g.method = m) {rest : List Value} (hs : g.stack = .int j :: .ref a :: rest) (hd : decode c.code g.pc = .ok (.iaload, 1)) (target : State) :
    Steps p.tables e below (T.setTop { g with pc := g.pc + 1, stack := v :: rest }) target → Steps p.tables e below (T.setTop g) target := by
  obtain ⟨cl, A, hin, hat⟩ := own_at V hj hji hv
  exact X.iaload hx (by rw [eT]; exact A.1) (State.isArrayOf_alike hZ.alike A.2.1) A.2.2 hin hat hg hs hd target
theorem own_ldC (X : Stand p l e R s m args below meth c T locs cells slots) (hx : p.tables.exec = Jvm.exec) (hZ : Z.Warmed39 s.vm) (eT : T.heap = h) (V : Arv Z h a k .char z vs dv) {j : Int32} {i : Nat} {v : Value} (hj : ¬ j < 0 ∧ j < z) (hji : j.toNatClampNeg = i) (hv : vs.getD i dv = v) {g : JFrame} (hg : g.method = m) {rest : List Value} (hs : g.stack = .int j :: .ref a :: rest) (hd : decode c.code g.pc = .ok (.caload, 1)) (target : State) :
    Steps p.tables e below (T.setTop { g with pc := g.pc + 1, stack := v :: rest }) target → Steps p.tables e below (T.setTop g) target := by
  obtain ⟨cl, A, hin, hat⟩ := own_at V hj hji hv
  exact X.caload hx (by rw [eT]; exact A.1) (State.isArrayOf_alike hZ.alike A.2.1) A.2.2 hin hat hg hs hd target
theorem own_ldZ (X : Stand p l e R s m args below meth c T locs cells slots) (hx : p.tables.exec = Jvm.exec) (hZ : Z.Warmed39 s.vm) (eT : T.heap = h) (V : Arv Z h a k .boolean z vs dv) {j : Int32} {i : Nat} {v : Value} (hj : ¬ j < 0 ∧ j < z) (hji : j.toNatClampNeg = i) (hv : vs.getD i dv = v) {g : JFrame} (hg : g.method = m) {rest : List Value} (hs : g.stack = .int j :: .ref a :: rest) (hd : decode c.code g.pc = .ok (.baload, 1)) (target : State) :
    Steps p.tables e below (T.setTop { g with pc := g.pc + 1, stack := v :: rest }) target → Steps p.tables e below (T.setTop g) target := by
  obtain ⟨cl, A, hin, hat⟩ := own_at V hj hji hv
  exact X.baloadBooleans hx (by rw [eT]; exact A.1) (State.isArrayOf_alike hZ.alike A.2.1) A.2.2 hin hat hg hs hd target
theorem own_ldB (X : Stand p l e R s m args below meth c T locs cells slots) (hx : p.tables.exec = Jvm.exec) (hZ : Z.Warmed39 s.vm) (eT : T.heap = h) (V : Arv Z h a k .byte z vs dv) {j : Int32} {i : Nat} {v : Value} (hj : ¬ j < 0 ∧ j < z) (hji : j.toNatClampNeg = i) (hv : vs.getD i dv = v) {g : JFrame} (hg : g.method = m) {rest : List Value} (hs : g.stack = .int j :: .ref a :: rest) (hd : decode c.code g.pc = .ok (.baload, 1)) (target : State) :
    Steps p.tables e below (T.setTop { g with pc := g.pc + 1, stack := v :: rest }) target → Steps p.tables e below (T.setTop g) target := by
  obtain ⟨cl, A, hin, hat⟩ := own_at V hj hji hv
  exact X.baloadBytes hx (by rw [eT]; exact A.1) (State.isArrayOf_alike hZ.alike A.2.1) A.2.2 hin hat hg hs hd target
theorem own_ldD (X : Stand p l e R s m args below meth c T locs cells slots) (hx : p.tables.exec = Jvm.exec) (hZ : Z.Warmed39 s.vm) (eT : T.heap = h) (V : Arv Z h a k .double z vs dv) {j : Int32} {i : Nat} {v : Value} (hj : ¬ j < 0 ∧ j < z) (hji : j.toNatClampNeg = i) (hv : vs.getD i dv = v) {g : JFrame} (hg : g.method = m) {rest : List Value} (hs : g.stack = .int j :: .ref a :: rest) (hd : decode c.code g.pc = .ok (.daload, 1)) (target : State) :
    Steps p.tables e below (T.setTop { g with pc := g.pc + 1, stack := v :: rest }) target → Steps p.tables e below (T.setTop g) target := by
  obtain ⟨cl, A, hin, hat⟩ := own_at V hj hji hv
  exact X.daload hx (by rw [eT]; exact A.1) (State.isArrayOf_alike hZ.alike A.2.1) A.2.2 hin hat hg hs hd target
theorem own_ldR {C : String} (X : Stand p l e R s m args below meth c T locs cells slots) (hx : p.tables.exec = Jvm.exec) (hZ : Z.Warmed39 s.vm) (eT : T.heap = h) (V : Arv Z h a k (.object C) z vs dv) {j : Int32} {i : Nat} {v : Value} (hj : ¬ j < 0 ∧ j < z) (hji : j.toNatClampNeg = i) (hv : vs.getD i dv = v) {g : JFrame} (hg : g.method = m) {rest : List Value} (hs : g.stack = .int j :: .ref a :: rest) (hd : decode c.code g.pc = .ok (.aaload, 1)) (target : State) :
    Steps p.tables e below (T.setTop { g with pc := g.pc + 1, stack := v :: rest }) target → Steps p.tables e below (T.setTop g) target := by
  obtain ⟨cl, A, hin, hat⟩ := own_at V hj hji hv
  exact X.aaload hx (by rw [eT]; exact A.1) (State.isArrayOf_alike hZ.alike A.2.1) rfl A.2.2 hin hat hg hs hd target
theorem own_len {ty : FieldType} (X : Stand p l e R s m args below meth c T locs cells slots) (hx : p.tables.exec = Jvm.exec) (hZ : Z.Warmed39 s.vm) (eT : T.heap = h) (V : Arv Z h a k ty z vs dv) {g : JFrame} (hg : g.method = m) {rest : List Value} (hs : g.stack = .ref a :: rest) (hd : decode c.code g.pc = .ok (.arraylength, 1)) (target : State) :
    Steps p.tables e below (T.setTop { g with pc := g.pc + 1, stack := .int z :: rest }) target → Steps p.tables e below (T.setTop g) target := by
  obtain ⟨cl, A, q1, S, q3, H, G⟩ := V
  have q := X.arraylength hx (by rw [eT]; exact A.1) (State.isArrayOf_alike hZ.alike A.2.1) hg hs hd target
  rw [len_of S q3] at q
  exact q
theorem own_getD_int (xs : List Int32) (i : Nat) : (xs.map Value.int).getD i (.int 0) = .int (xs.getD i 0) := by
  simp only [List.getD_eq_getElem?_getD, List.getElem?_map]
  cases xs[i]? <;> rfl
theorem own_arv_set {ty : FieldType} {xs : List Int32} {i : Nat} {v : Int32} (V : Arv Z h a k ty z ((xs.map Value.int).set i (.int v)) dv) : Arv Z h a k ty z ((xs.set i v).map Value.int) dv := by rw [List.map_set]; exact V
end OwnArrays

section OwnFloat
open Jvm.FP.Core
def own_z (a : UInt64) : Int := zval b64 (val64 a)
def own_p (j : Nat) : Nat := if h : j = 0 then 1 else 2 * own_p (j - 1)
termination_by j
decreasing_by omega
theorem own_p_def (j : Nat) : own_p j = 2 ^ j := by
  induction j with
  | zero => rw [own_p]; simp
  | succ j ih => rw [own_p, dif_neg (Nat.succ_ne_zero j), Nat.add_sub_cancel, ih, Nat.pow_succ, Nat.mul_comm]
theorem own_p_pos (j : Nat) : 0 < own_p j := by rw [own_p_def]; exact Nat.two_pow_pos j
theorem own_p_add (i j : Nat) : own_p (i + j) = own_p i * own_p j := by rw [own_p_def, own_p_def, own_p_def]; exact Nat.pow_add 2 i j
theorem own_p_le {i j : Nat} (h : i ≤ j) : own_p i ≤ own_p j := by rw [own_p_def, own_p_def]; exact Nat.pow_le_pow_right (by decide) h
theorem own_R_le {s : Bool} {n Y : Nat} {V : Datum} (hY : 0 < Y) (hV : FP.Core.fits b64 V) (hn : V ≠ .nan) (h : n ≤ zmag b64 V * Y) : zmag b64 (roundRatio b64 s n Y (-1074)) ≤ zmag b64 V := by
  refine zmag_roundRatio_le good_b64 (e0 := -1074) hY hV hn (Int.le_of_eq qmin_b64.symm) (Int.le_refl _) ?_
  rw [qmin_b64]
  show n * 2 ^ ((-1074 : Int) - -1074).toNat ≤ zmag b64 V * 2 ^ ((-1074 : Int) - -1074).toNat * Y
  rw [show ((-1074 : Int) - -1074).toNat = 0 from rfl, Nat.pow_zero, Nat.mul_one, Nat.mul_one]
  exact h
theorem own_R_ge {s : Bool} {n Y : Nat} {V : Datum} (hY : 0 < Y) (hV : FP.Core.fits b64 V) (h : zmag b64 V * Y ≤ n) : zmag b64 V ≤ zmag b64 (roundRatio b64 s n Y (-1074)) := by
  refine zmag_roundRatio_ge good_b64 (e0 := -1074) hY hV (Int.le_of_eq qmin_b64.symm) (Int.le_refl _) ?_
  rw [qmin_b64]
  show zmag b64 V * 2 ^ ((-1074 : Int) - -1074).toNat * Y ≤ n * 2 ^ ((-1074 : Int) - -1074).toNat
  rw [show ((-1074 : Int) - -1074).toNat = 0 from rfl, Nat.pow_zero, Nat.mul_one, Nat.mul_one]
  exact h
def own_Rd (X : Int) (Y : Nat) (r : UInt64) : Prop := ∃ s n, val64 r = roundRatio b64 s n Y (-1074) ∧ signed s n = X
theorem own_rd_nan {X : Int} {Y : Nat} {r : UInt64} (H : own_Rd X Y r) : val64 r ≠ .nan := by
  obtain ⟨s, n, h, _⟩ := H
  rw [h]; exact roundRatio_ne_nan _ _ _ _ _
theorem own_sF (n : Nat) : signed false n = (n : Int) := rfl
theorem own_sT (n : Nat) : signed true n = -(n : Int) := rfl
theorem own_mul0 {v Y : Nat} (hY : 0 < Y) (h : v * Y = 0) : v = 0 := by
  rcases Nat.mul_eq_zero.mp h with h | h <;> omega
theorem own_rd_le {X : Int} {Y : Nat} {r : UInt64} (hY : 0 < Y) (H : own_Rd X Y r) {V : Datum} (hV : FP.Core.fits b64 V) (hn : V ≠ .nan) (h : X ≤ zval b64 V * (Y : Int)) : own_z r ≤ zval b64 V := by
  obtain ⟨s, n, h1, rfl⟩ := H
  have hle := own_R_le (s := s) (n := n) hY hV hn
  have hge := own_R_ge (s := s) (n := n) hY hV
  have e : own_z r = signed s (zmag b64 (roundRatio b64 s n Y (-1074))) := by
    show signed (sgn (val64 r)) (zmag b64 (val64 r)) = _
    rw [h1, sgn_roundRatio]
  rw [e]
  have e2 : zval b64 V = signed (sgn V) (zmag b64 V) := rfl
  rw [e2, ← signed_mul] at h
  rw [e2]
  have hz := own_mul0 (v := zmag b64 V) hY
  generalize zmag b64 (roundRatio b64 s n Y (-1074)) = w at *
  generalize zmag b64 V * Y = vP at *
  generalize zmag b64 V = v at *
  generalize sgn V = t at *
  cases s <;> cases t <;> simp only [own_sF, own_sT] at h ⊢
  · have := hle (by omega); omega
  · have := hle (by omega); have := hz (by omega); omega
  · omega
  · have := hge (by omega); omega
theorem own_rd_ge {X : Int} {Y : Nat} {r : UInt64} (hY : 0 < Y) (H : own_Rd X Y r) {V : Datum} (hV : FP.Core.fits b64 V) (hn : V ≠ .nan) (h : zval b64 V * (Y : Int) ≤ X) : zval b64 V ≤ own_z r := by
  obtain ⟨s, n, h1, rfl⟩ := H
  have hle := own_R_le (s := s) (n := n) hY hV hn
  have hge := own_R_ge (s := s) (n := n) hY hV
  have e : own_z r = signed s (zmag b64 (roundRatio b64 s n Y (-1074))) := by
    show signed (sgn (val64 r)) (zmag b64 (val64 r)) = _
    rw [h1, sgn_roundRatio]
  rw [e]
  have e2 : zval b64 V = signed (sgn V) (zmag b64 V) := rfl
  rw [e2, ← signed_mul] at h
  rw [e2]
  have hz := own_mul0 (v := zmag b64 V) hY
  generalize zmag b64 (roundRatio b64 s n Y (-1074)) = w at *
  generalize zmag b64 V * Y = vP at *
  generalize zmag b64 V = v at *
  generalize sgn V = t at *
  cases s <;> cases t <;> simp only [own_sF, own_sT] at h ⊢
  · have := hge (by omega); omega
  · omega
  · have := hle (by omega); have := hz (by omega); omega
  · have := hle (by omega); omega
theorem own_qmax : b64.qmax = 971 := by decide
theorem own_signed_abs (m : Int) : signed (decide (m < 0)) m.natAbs = m := by
  by_cases h : m < 0
  · rw [decide_eq_true h, own_sT]; omega
  · rw [decide_eq_false h, own_sF]; omega
theorem own_Vk {m : Int} {j c k : Nat} (hc : c < 2 ^ 53) (hk : k ≤ 2045) (he : c * own_p k = m.natAbs * own_p j) : ∃ V, FP.Core.fits b64 V ∧ V ≠ .nan ∧ zval b64 V = m * (own_p j : Int) := by
  obtain ⟨c', q', h1, h2⟩ := round_exact good_b64 (decide (m < 0)) (c := c) (q := (k : Int) - 1074) hc (by rw [qmin_b64]; omega) (by rw [own_qmax]; omega)
  refine ⟨.fin (decide (m < 0)) c' q', by rw [← h1]; exact round_fits good_b64 _, Datum.noConfusion, ?_⟩
  show signed (decide (m < 0)) (inUnits c' q' b64.qmin) = _
  rw [h2]
  show signed (decide (m < 0)) (c * 2 ^ ((k : Int) - 1074 - b64.qmin).toNat) = _
  rw [qmin_b64, show ((k : Int) - 1074 - -1074).toNat = k by omega, ← own_p_def k, he, signed_mul, own_signed_abs]
theorem own_V (m : Int) (j : Nat) (hm : m.natAbs ≤ 2 ^ 53) (hj : j ≤ 2044) : ∃ V, FP.Core.fits b64 V ∧ V ≠ .nan ∧ zval b64 V = m * (own_p j : Int) := by
  by_cases h : m.natAbs = 2 ^ 53
  · refine own_Vk (c := 2 ^ 52) (k := j + 1) (by decide) (by omega) ?_
    rw [h, own_p_add, show own_p 1 = 2 from own_p_def 1]
    generalize own_p j = x
    omega
  · exact own_Vk (c := m.natAbs) (k := j) (by omega) (by omega) rfl
theorem own_rd_up {X : Int} {Y : Nat} {r : UInt64} (hY : 0 < Y) (H : own_Rd X Y r) (m : Int) (j : Nat) (hm : m.natAbs ≤ 2 ^ 53) (hj : j ≤ 2044) (h : X ≤ m * (own_p j : Int) * (Y : Int)) : own_z r ≤ m * (own_p j : Int) := by
  obtain ⟨V, h1, h2, h3⟩ := own_V m j hm hj
  rw [← h3] at h ⊢
  exact own_rd_le hY H h1 h2 h
theorem own_rd_dn {X : Int} {Y : Nat} {r : UInt64} (hY : 0 < Y) (H : own_Rd X Y r) (m : Int) (j : Nat) (hm : m.natAbs ≤ 2 ^ 53) (hj : j ≤ 2044) (h : m * (own_p j : Int) * (Y : Int) ≤ X) : m * (own_p j : Int) ≤ own_z r := by
  obtain ⟨V, h1, h2, h3⟩ := own_V m j hm hj
  rw [← h3] at h ⊢
  exact own_rd_ge hY H h1 h2 h
theorem own_top : b64.tails * 2 ^ (b64.exps - 2) = 2 * (2 ^ 53 * own_p 2044) := by (repeat rw [own_p_def]); decide +kernel
theorem own_fin {r : UInt64} (hn : val64 r ≠ .nan) (h : (own_z r).natAbs ≤ 2 ^ 53 * own_p 2044) : DFin r := by
  cases hd : val64 r with
  | nan => exact absurd hd hn
  | inf s =>
    exfalso
    have e : own_z r = signed s (b64.tails * 2 ^ (b64.exps - 2)) := by
      show zval b64 (val64 r) = _
      rw [hd]; rfl
    rw [e, natAbs_signed, own_top] at h
    have := own_p_pos 2044
    omega
  | fin s c q => exact ⟨s, c, q, hd⟩
theorem own_rd_fin {X : Int} {Y : Nat} {r : UInt64} (hY : 0 < Y) (H : own_Rd X Y r) (m : Nat) (j : Nat) (hm : m ≤ 2 ^ 53) (hj : j ≤ 2044) (h1 : X ≤ (m : Int) * (own_p j : Int) * (Y : Int)) (h2 : -((m : Int) * (own_p j : Int) * (Y : Int)) ≤ X) : DFin r := by
  have a := own_rd_up hY H (m : Int) j (by omega) hj h1
  have b := own_rd_dn hY H (-(m : Int)) j (by omega) hj (by rw [Int.neg_mul, Int.neg_mul]; exact h2)
  refine own_fin (own_rd_nan H) ?_
  rw [Int.neg_mul] at b
  have c : m * own_p j ≤ 2 ^ 53 * own_p 2044 := Nat.mul_le_mul hm (own_p_le hj)
  rw [← Int.natCast_mul] at a b
  omega
theorem own_rd_eq {X : Int} {Y : Nat} {r : UInt64} (hY : 0 < Y) (H : own_Rd X Y r) (m : Int) (j : Nat) (hm : m.natAbs ≤ 2 ^ 53) (hj : j ≤ 2044) (h : X = m * (own_p j : Int) * (Y : Int)) : DFin r ∧ own_z r = m * (own_p j : Int) := by
  have a := own_rd_up hY H m j hm hj (Int.le_of_eq h)
  have b := own_rd_dn hY H m j hm hj (Int.le_of_eq h.symm)
  have c := Int.le_antisymm a b
  refine ⟨own_fin (own_rd_nan H) ?_, c⟩
  rw [c, Int.natAbs_mul]
  exact Nat.mul_le_mul hm (own_p_le hj)
theorem own_dadd {a b : UInt64} (ha : DFin a) (hb : DFin b) : own_Rd (own_z a + own_z b) 1 (dadd a b) := by
  obtain ⟨s, c, q, ha⟩ := ha
  obtain ⟨t, d, r, hb⟩ := hb
  have fa := val64_fits a
  have fb := val64_fits b
  have ea : own_z a = zval b64 (.fin s c q) := by show zval b64 (val64 a) = _; rw [ha]
  have eb : own_z b = zval b64 (.fin t d r) := by show zval b64 (val64 b) = _; rw [hb]
  rw [ha] at fa
  rw [hb] at fb
  obtain ⟨sg, n, e, h1, h2, h3⟩ := sum_units fa fb
  rw [ea, eb]
  refine ⟨sg, inUnits n e b64.qmin, ?_, h3⟩
  rw [val64_dadd, ha, hb, h1]
  show roundRatio b64 sg n 1 e = _
  refine roundRatio_congr (by decide) (by decide) ?_
  show n * 1 * 2 ^ (e - -1074).toNat = n * 2 ^ (e - b64.qmin).toNat * 1 * 2 ^ (-1074 - e).toNat
  rw [qmin_b64] at h2 ⊢
  rw [show (-1074 - e).toNat = 0 by omega]
  simp
theorem own_pw (c d k x1 x2 x3 x4 : Nat) (h : k + x1 = x2 + x3 + x4) : c * d * 2 ^ k * 2 ^ x1 = c * 2 ^ x2 * (d * 2 ^ x3) * 1 * 2 ^ x4 := by
  have e : 2 ^ k * 2 ^ x1 = 2 ^ x2 * 2 ^ x3 * 2 ^ x4 := by rw [← Nat.pow_add, ← Nat.pow_add, ← Nat.pow_add, h]
  generalize 2 ^ k = A at *
  generalize 2 ^ x1 = B at *
  generalize 2 ^ x2 = C at *
  generalize 2 ^ x3 = D at *
  generalize 2 ^ x4 = E at *
  rw [Nat.mul_one, Nat.mul_assoc (c * d), e]
  ac_rfl
theorem own_pw2 (c d k x1 x2 x3 x4 : Nat) (h : x3 + x1 = x2 + k + x4) : c * (d * 2 ^ x3) * 2 ^ x1 = c * 2 ^ x2 * 2 ^ k * d * 2 ^ x4 := by
  have e : 2 ^ x3 * 2 ^ x1 = 2 ^ x2 * 2 ^ k * 2 ^ x4 := by rw [← Nat.pow_add, ← Nat.pow_add, ← Nat.pow_add, h]
  generalize 2 ^ k = A at *
  generalize 2 ^ x1 = B at *
  generalize 2 ^ x2 = C at *
  generalize 2 ^ x3 = D at *
  generalize 2 ^ x4 = E at *
  rw [← Nat.mul_assoc, Nat.mul_assoc (c * d), e]
  ac_rfl
theorem own_dmul {a b : UInt64} (ha : DFin a) (hb : DFin b) : own_Rd (own_z a * own_z b) (own_p 1074) (dmul a b) := by
  obtain ⟨s, c, q, ha⟩ := ha
  obtain ⟨t, d, r, hb⟩ := hb
  have fa := val64_fits a
  have fb := val64_fits b
  have ea : own_z a = signed s (inUnits c q b64.qmin) := by show zval b64 (val64 a) = _; rw [ha]; rfl
  have eb : own_z b = signed t (inUnits d r b64.qmin) := by show zval b64 (val64 b) = _; rw [hb]; rfl
  rw [ha] at fa
  rw [hb] at fb
  have ga := fa.2.1
  have gb := fb.2.1
  rw [qmin_b64] at ga gb
  rw [ea, eb]
  refine ⟨s != t, inUnits c q b64.qmin * inUnits d r b64.qmin, ?_, signed_xor _ _ _ _⟩
  rw [val64_dmul, ha, hb]
  show roundRatio b64 (s != t) (c * d) 1 (q + r) = _
  refine roundRatio_congr (by decide) (own_p_pos _) ?_
  rw [own_p_def]
  show c * d * 2 ^ 1074 * 2 ^ (q + r - -1074).toNat = c * 2 ^ (q - b64.qmin).toNat * (d * 2 ^ (r - b64.qmin).toNat) * 1 * 2 ^ (-1074 - (q + r)).toNat
  rw [qmin_b64]
  exact own_pw c d 1074 _ _ _ _ (by omega)
theorem own_bne (s : Bool) : (s != false) = s := by cases s <;> rfl
theorem own_ddiv {a b : UInt64} (ha : DFin a) (hb : DFin b) (hp : 0 < own_z b) : own_Rd (own_z a * (own_p 1074 : Int)) (own_z b).toNat (ddiv a b) := by
  obtain ⟨s, c, q, ha⟩ := ha
  obtain ⟨t, d, r, hb⟩ := hb
  have fa := val64_fits a
  have fb := val64_fits b
  have ea : own_z a = signed s (inUnits c q b64.qmin) := by show zval b64 (val64 a) = _; rw [ha]; rfl
  have eb : own_z b = signed t (inUnits d r b64.qmin) := by show zval b64 (val64 b) = _; rw [hb]; rfl
  rw [ha] at fa
  rw [hb] at fb
  have ga := fa.2.1
  have gb := fb.2.1
  rw [qmin_b64] at ga gb
  rw [eb] at hp
  have ht : t = false := by
    cases t
    · rfl
    · rw [own_sT] at hp; omega
  subst ht
  rw [own_sF] at hp
  have hd : ¬ d = 0 := by
    rintro rfl
    rw [show inUnits 0 r b64.qmin = 0 from Nat.zero_mul _] at hp
    omega
  rw [ea, eb, own_sF, Int.toNat_natCast]
  refine ⟨s, inUnits c q b64.qmin * own_p 1074, ?_, signed_mul _ _ _⟩
  rw [val64_ddiv, ha, hb]
  show (if d = 0 then (if c = 0 then Datum.nan else .inf (s != false)) else roundRatio b64 (s != false) c d (q - r)) = _
  rw [if_neg hd, own_bne]
  refine roundRatio_congr (by omega) (by omega) ?_
  rw [own_p_def]
  show c * (d * 2 ^ (r - b64.qmin).toNat) * 2 ^ (q - r - -1074).toNat = c * 2 ^ (q - b64.qmin).toNat * 2 ^ 1074 * d * 2 ^ (-1074 - (q - r)).toNat
  rw [qmin_b64]
  exact own_pw2 c d 1074 _ _ _ _ (by omega)
theorem own_notnan {a : UInt64} (h : DFin a) : Fl.NoNaN64 a := Fl.noNaN64_no.mpr h.notNaN
theorem own_cmpeq {a b : UInt64} (ha : DFin a) (hb : DFin b) (h : own_z a = own_z b) (o : CmpOp) : cmpValue (FP.dcmp a b) o = 0 := by
  have e : FP.dcmp a b = some .eq := dcmp_eq.mpr ⟨ha.ne_nan, hb.ne_nan, h⟩
  rw [e]; rfl
theorem own_cmplt {a b : UInt64} (ha : DFin a) (hb : DFin b) (h : own_z a < own_z b) (o : CmpOp) : cmpValue (FP.dcmp a b) o = -1 := by
  have e : FP.dcmp a b = some .lt := dcmp_lt.mpr ⟨ha.ne_nan, hb.ne_nan, h⟩
  rw [e]; rfl
theorem own_cmpgt {a b : UInt64} (ha : DFin a) (hb : DFin b) (h : own_z b < own_z a) (o : CmpOp) : cmpValue (FP.dcmp a b) o = 1 := by
  have e : FP.dcmp a b = some .gt := dcmp_gt.mpr ⟨ha.ne_nan, hb.ne_nan, h⟩
  rw [e]; rfl
theorem own_cmple {a b : UInt64} (ha : DFin a) (hb : DFin b) (h : own_z a ≤ own_z b) (o : CmpOp) : cmpValue (FP.dcmp a b) o ≤ 0 := by
  rcases Int.lt_or_eq_of_le h with h | h
  · rw [own_cmplt ha hb h]; decide
  · rw [own_cmpeq ha hb h]; decide
theorem own_cmpge {a b : UInt64} (ha : DFin a) (hb : DFin b) (h : own_z b ≤ own_z a) (o : CmpOp) : 0 ≤ cmpValue (FP.dcmp a b) o := by
  rcases Int.lt_or_eq_of_le h with h | h
  · rw [own_cmpgt ha hb h]; decide
  · rw [own_cmpeq ha hb h.symm]; decide
theorem own_one : (one64 : Int) = (own_p 1074 : Int) := by rw [own_p_def]; rfl
theorem own_i2d (v : Int32) : DFin (i2d v) ∧ own_z (i2d v) = v.toInt * (own_p 1074 : Int) := ⟨i2d_fin v, by rw [← own_one]; exact DInt_zval (i2d_int v)⟩
theorem own_l2d {v : Int64} (h : v.toInt.natAbs ≤ 2 ^ 53) : DFin (l2d v) ∧ own_z (l2d v) = v.toInt * (own_p 1074 : Int) := ⟨l2d_fin v, by rw [← own_one]; exact DInt_zval (l2d_int h)⟩
theorem own_finlit {a : UInt64} (h : a.toNat % 2 ^ 63 < 9218868437227405312) : DFin a := (fin_bits a).mpr h
theorem own_p_lt {i j : Nat} (h : i < j) : own_p i < own_p j := by rw [own_p_def, own_p_def]; exact Nat.pow_lt_pow_right (by decide) h
theorem own_p_log {n : Nat} (h : n ≠ 0) : own_p n.log2 ≤ n := by rw [own_p_def]; exact Nat.log2_self_le h
theorem own_p_log2 {n : Nat} : n < own_p (n.log2 + 1) := by rw [own_p_def]; exact Nat.lt_log2_self
end OwnFloat

section OwnLen
open Jvm.FP.Core
theorem own_z75 : own_z 4604930618986332160 = 3 * (own_p 1072 : Int) := by (repeat rw [own_p_def]); decide +kernel
theorem own_z25 : own_z 4598175219545276416 = (own_p 1072 : Int) := by (repeat rw [own_p_def]); decide +kernel
theorem own_z1 : own_z FP.dconst1 = (own_p 1074 : Int) := by (repeat rw [own_p_def]); decide +kernel
theorem own_z4 : own_z 4616189618054758400 = 4 * (own_p 1074 : Int) := by (repeat rw [own_p_def]); decide +kernel
theorem own_f75 : DFin 4604930618986332160 := own_finlit (by decide)
theorem own_f25 : DFin 4598175219545276416 := own_finlit (by decide)
theorem own_f1 : DFin FP.dconst1 := own_finlit (by decide)
theorem own_f4 : DFin 4616189618054758400 := own_finlit (by decide)
theorem own_u4 : (own_p 1074 : Int) = 4 * (own_p 1072 : Int) := by (repeat rw [own_p_def]); decide +kernel
theorem own_pZ (i j : Nat) : (own_p (i + j) : Int) = (own_p i : Int) * (own_p j : Int) := by rw [own_p_add, Int.natCast_mul]
theorem own_x1 (L : Int32) : DFin (FP.dmul (4604930618986332160 : UInt64) (FP.i2d L)) ∧ own_z (FP.dmul (4604930618986332160 : UInt64) (FP.i2d L)) = 3 * L.toInt * (own_p 1072 : Int) := by
  have hr := rng32 L
  refine own_rd_eq (own_p_pos _) (own_dmul own_f75 (own_i2d L).1) (3 * L.toInt) 1072 (by omega) (by decide) ?_
  rw [own_z75, (own_i2d L).2]
  generalize (own_p 1072 : Int) = G
  generalize (own_p 1074 : Int) = U
  ac_rfl
theorem own_div {L : Int32} {A : UInt64} {K : Nat} (hA : DFin A) (hz : own_z A = (K : Int)) (hK : 0 < K) : own_Rd (3 * L.toInt * (own_p 1072 : Int) * (own_p 1074 : Int)) K (FP.ddiv (FP.dmul (4604930618986332160 : UInt64) (FP.i2d L)) A) := by
  have H := own_ddiv (own_x1 L).1 hA (by rw [hz]; exact Int.natCast_pos.mpr hK)
  rw [hz, Int.toNat_natCast, (own_x1 L).2] at H
  exact H
theorem own_sum {L : Int32} {A : UInt64} (h : DFin (FP.ddiv (FP.dmul (4604930618986332160 : UInt64) (FP.i2d L)) A)) : own_Rd ((own_p 1072 : Int) + own_z (FP.ddiv (FP.dmul (4604930618986332160 : UInt64) (FP.i2d L)) A)) 1 (FP.dadd (4598175219545276416 : UInt64) (FP.ddiv (FP.dmul (4604930618986332160 : UInt64) (FP.i2d L)) A)) := by
  have H := own_dadd own_f25 h
  rw [own_z25] at H
  exact H
theorem own_plt {k : Nat} (h : k < 34) : own_p k < 2 ^ 34 := Nat.lt_of_lt_of_le (own_p_lt h) (Nat.le_of_eq (own_p_def _))
/-- the average is a power of two that is one or more -/
theorem own_A1 {L : Int32} {k : Nat} (hk : k < 32) {A N D : UInt64} (hA : DFin A ∧ own_z A = (own_p k : Int) * (own_p 1074 : Int)) (hN : DFin N ∧ own_z N = (3 * L.toInt + (own_p k : Int)) * (own_p 1074 : Int)) (hD : DFin D ∧ own_z D = (own_p (k + 2) : Int) * (own_p 1074 : Int)) :
    DFin (FP.ddiv (FP.dmul (4604930618986332160 : UInt64) (FP.i2d L)) A) ∧ DFin (FP.dadd (4598175219545276416 : UInt64) (FP.ddiv (FP.dmul (4604930618986332160 : UInt64) (FP.i2d L)) A)) ∧ DFin (FP.ddiv N D) ∧ own_z (FP.dadd (4598175219545276416 : UInt64) (FP.ddiv (FP.dmul (4604930618986332160 : UInt64) (FP.i2d L)) A)) = own_z (FP.ddiv N D) := by
  have hr := rng32 L
  have hp := own_plt (k := k) (by omega)
  have hG : (own_p 1072 : Int) = (own_p (1072 - k) : Int) * (own_p k : Int) := by rw [← own_pZ, Nat.sub_add_cancel (by omega)]
  have a := own_rd_eq (Nat.mul_pos (own_p_pos _) (own_p_pos _)) (own_div (L := L) hA.1 (by rw [hA.2, ← Int.natCast_mul]) (Nat.mul_pos (own_p_pos _) (own_p_pos _))) (3 * L.toInt) (1072 - k) (by omega) (by omega) (by
    rw [hG, Int.natCast_mul]
    generalize (own_p (1072 - k) : Int) = H
    generalize (own_p 1074 : Int) = U
    generalize (own_p k : Int) = E
    ac_rfl)
  have b := own_rd_eq (by decide) (own_sum a.1) (3 * L.toInt + (own_p k : Int)) (1072 - k) (by omega) (by omega) (by
    rw [a.2, hG]
    generalize (own_p (1072 - k) : Int) = H
    generalize (own_p k : Int) = E
    rw [Int.add_mul, Int.mul_comm E H]
    omega)
  have H := own_ddiv hN.1 hD.1 (by rw [hD.2, ← Int.natCast_mul]; exact Int.natCast_pos.mpr (Nat.mul_pos (own_p_pos _) (own_p_pos _)))
  rw [hD.2, hN.2, ← Int.natCast_mul, Int.toNat_natCast] at H
  have c := own_rd_eq (Nat.mul_pos (own_p_pos _) (own_p_pos _)) H (3 * L.toInt + (own_p k : Int)) (1072 - k) (by omega) (by omega) (by
    rw [Int.natCast_mul, own_pZ k 2, show (own_p 2 : Int) = 4 by (repeat rw [own_p_def]); decide +kernel]
    have e : (own_p 1074 : Int) = (own_p (1072 - k) : Int) * ((own_p k : Int) * 4) := by rw [own_u4, hG]; generalize (own_p (1072 - k) : Int) = Hh; generalize (own_p k : Int) = E; ac_rfl
    generalize 3 * L.toInt + (own_p k : Int) = M
    generalize (own_p k : Int) * 4 = E at e ⊢
    generalize (own_p (1072 - k) : Int) = Hh at e ⊢
    generalize (own_p 1074 : Int) = U at e ⊢
    rw [Int.mul_assoc M Hh, ← Int.mul_assoc Hh E, ← e]
    ac_rfl)
  exact ⟨a.1, b.1, c.1, b.2.trans c.2.symm⟩
/-- the average is a power of two below one -/
theorem own_A2 {L : Int32} {k : Nat} (hk : k ≤ 16) {B N : UInt64} (hB : DFin B ∧ own_z B = (own_p k : Int) * (own_p 1074 : Int)) (hN : DFin N ∧ own_z N = (3 * L.toInt * (own_p k : Int) + 1) * (own_p 1074 : Int)) (hM : (3 * L.toInt * (own_p k : Int) + 1).natAbs ≤ 2 ^ 53) :
    DFin (FP.ddiv FP.dconst1 B) ∧ DFin (FP.ddiv (FP.dmul (4604930618986332160 : UInt64) (FP.i2d L)) (FP.ddiv FP.dconst1 B)) ∧ DFin (FP.dadd (4598175219545276416 : UInt64) (FP.ddiv (FP.dmul (4604930618986332160 : UInt64) (FP.i2d L)) (FP.ddiv FP.dconst1 B))) ∧ DFin (FP.ddiv N 4616189618054758400) ∧ own_z (FP.dadd (4598175219545276416 : UInt64) (FP.ddiv (FP.dmul (4604930618986332160 : UInt64) (FP.i2d L)) (FP.ddiv FP.dconst1 B))) = own_z (FP.ddiv N 4616189618054758400) := by
  have hr := rng32 L
  have hU : (own_p 1074 : Int) = (own_p (1074 - k) : Int) * (own_p k : Int) := by rw [← own_pZ, Nat.sub_add_cancel (by omega)]
  have H0 := own_ddiv own_f1 hB.1 (by rw [hB.2, ← Int.natCast_mul]; exact Int.natCast_pos.mpr (Nat.mul_pos (own_p_pos _) (own_p_pos _)))
  rw [hB.2, own_z1, ← Int.natCast_mul (own_p k), Int.toNat_natCast] at H0
  have av := own_rd_eq (Nat.mul_pos (own_p_pos _) (own_p_pos _)) H0 1 (1074 - k) (by decide) (by omega) (by
    rw [Int.natCast_mul, Int.one_mul]
    generalize (own_p 1074 : Int) = U at *
    rw [← Int.mul_assoc, ← hU])
  have a := own_rd_eq (own_p_pos _) (own_div (L := L) av.1 (by rw [av.2, Int.one_mul]) (own_p_pos _)) (3 * L.toInt) (1072 + k) (by omega) (by omega) (by
    rw [own_pZ 1072 k]
    generalize (own_p 1072 : Int) = G at *
    generalize (own_p 1074 : Int) = U at *
    rw [hU]
    generalize (own_p (1074 - k) : Int) = H
    generalize (own_p k : Int) = E
    ac_rfl)
  have b := own_rd_eq (by decide) (own_sum a.1) (3 * L.toInt * (own_p k : Int) + 1) 1072 hM (by decide) (by
    rw [a.2, own_pZ 1072 k]
    generalize (own_p 1072 : Int) = G
    generalize (own_p k : Int) = E
    rw [Int.add_mul, Int.one_mul, Int.mul_comm G E, ← Int.mul_assoc]
    omega)
  have H := own_ddiv hN.1 own_f4 (by rw [own_z4]; have := own_p_pos 1074; omega)
  rw [own_z4, hN.2, show (4 : Int) * (own_p 1074 : Int) = ((4 * own_p 1074 : Nat) : Int) from (Int.natCast_mul 4 _).symm, Int.toNat_natCast] at H
  have c := own_rd_eq (Nat.mul_pos (by decide) (own_p_pos _)) H (3 * L.toInt * (own_p k : Int) + 1) 1072 hM (by decide) (by
    rw [Int.natCast_mul, show ((4 : Nat) : Int) = 4 from rfl]
    have e := own_u4
    generalize (own_p 1074 : Int) = U at *
    generalize (own_p 1072 : Int) = G at *
    generalize 3 * L.toInt * (own_p k : Int) + 1 = M
    subst e
    ac_rfl)
  exact ⟨av.1, a.1, b.1, c.1, b.2.trans c.2.symm⟩
/-- the average is any int above 0 -/
theorem own_B {L A : Int32} (hA : 0 < A.toInt) : DFin (FP.ddiv (FP.dmul (4604930618986332160 : UInt64) (FP.i2d L)) (FP.i2d A)) ∧ DFin (FP.dadd (4598175219545276416 : UInt64) (FP.ddiv (FP.dmul (4604930618986332160 : UInt64) (FP.i2d L)) (FP.i2d A))) ∧ (A.toInt < L.toInt → own_z FP.dconst1 < own_z (FP.dadd (4598175219545276416 : UInt64) (FP.ddiv (FP.dmul (4604930618986332160 : UInt64) (FP.i2d L)) (FP.i2d A)))) ∧ (L.toInt < A.toInt → own_z (FP.dadd (4598175219545276416 : UInt64) (FP.ddiv (FP.dmul (4604930618986332160 : UInt64) (FP.i2d L)) (FP.i2d A))) < own_z FP.dconst1) ∧ (L.toInt = A.toInt → own_z (FP.dadd (4598175219545276416 : UInt64) (FP.ddiv (FP.dmul (4604930618986332160 : UInt64) (FP.i2d L)) (FP.i2d A))) = own_z FP.dconst1) ∧ (0 ≤ L.toInt → own_z 4598175219545276416 ≤ own_z (FP.dadd (4598175219545276416 : UInt64) (FP.ddiv (FP.dmul (4604930618986332160 : UInt64) (FP.i2d L)) (FP.i2d A)))) := by
  have hr := rng32 L
  have hs := rng32 A
  have hA2 := own_i2d A
  have hU := own_p_pos 1074
  have hK : (A.toInt * (own_p 1074 : Int)) = ((A.toInt.toNat * own_p 1074 : Nat) : Int) := by rw [Int.natCast_mul, Int.toNat_of_nonneg (by omega)]
  have hY : 0 < A.toInt.toNat * own_p 1074 := Nat.mul_pos (by omega) hU
  have H := own_div (L := L) hA2.1 (by rw [hA2.2, hK]) hY
  have e0 : (own_p 1072 : Int) = 4294967296 * (own_p 1040 : Int) := by (repeat rw [own_p_def]); decide +kernel
  have eu : (own_p 1074 : Int) = 17179869184 * (own_p 1040 : Int) := by (repeat rw [own_p_def]); decide +kernel
  have hq := own_p_pos 1040
  have hm : ∀ (m Q : Int), m * Q * ((A.toInt.toNat * own_p 1074 : Nat) : Int) = m * A.toInt * (Q * (own_p 1074 : Int)) := by
    intro m Q
    rw [← hK]
    generalize (own_p 1074 : Int) = U
    ac_rfl
  have hx : 3 * L.toInt * (own_p 1072 : Int) * (own_p 1074 : Int) = (3 * L.toInt) * ((own_p 1072 : Int) * (own_p 1074 : Int)) := Int.mul_assoc _ _ _
  have hx2 : 3 * L.toInt * (own_p 1072 : Int) * (own_p 1074 : Int) = (12884901888 * L.toInt) * ((own_p 1040 : Int) * (own_p 1074 : Int)) := by
    rw [e0]
    generalize (own_p 1040 : Int) = Q
    generalize (own_p 1074 : Int) = U
    rw [show 3 * L.toInt * (4294967296 * Q) * U = (3 * 4294967296) * L.toInt * (Q * U) by ac_rfl]
    rfl
  have hW : 0 ≤ (own_p 1040 : Int) * (own_p 1074 : Int) := Int.mul_nonneg (by omega) (by omega)
  have hW2 : 0 ≤ (own_p 1072 : Int) * (own_p 1074 : Int) := Int.mul_nonneg (by omega) (by omega)
  have up : ∀ m : Int, m.natAbs ≤ 2 ^ 53 → 12884901888 * L.toInt ≤ m * A.toInt → own_z (FP.ddiv (FP.dmul (4604930618986332160 : UInt64) (FP.i2d L)) (FP.i2d A)) ≤ m * (own_p 1040 : Int) := by
    intro m h1 h2
    refine own_rd_up hY H m 1040 h1 (by decide) ?_
    rw [hm, hx2]
    exact Int.mul_le_mul_of_nonneg_right h2 hW
  have dn : ∀ m : Int, m.natAbs ≤ 2 ^ 53 → m * A.toInt ≤ 12884901888 * L.toInt → m * (own_p 1040 : Int) ≤ own_z (FP.ddiv (FP.dmul (4604930618986332160 : UInt64) (FP.i2d L)) (FP.i2d A)) := by
    intro m h1 h2
    refine own_rd_dn hY H m 1040 h1 (by decide) ?_
    rw [hm, hx2]
    exact Int.mul_le_mul_of_nonneg_right h2 hW
  have upG : ∀ m : Int, m.natAbs ≤ 2 ^ 53 → 3 * L.toInt ≤ m * A.toInt → own_z (FP.ddiv (FP.dmul (4604930618986332160 : UInt64) (FP.i2d L)) (FP.i2d A)) ≤ m * (own_p 1072 : Int) := by
    intro m h1 h2
    refine own_rd_up hY H m 1072 h1 (by decide) ?_
    rw [hm, hx]
    exact Int.mul_le_mul_of_nonneg_right h2 hW2
  have dnG : ∀ m : Int, m.natAbs ≤ 2 ^ 53 → m * A.toInt ≤ 3 * L.toInt → m * (own_p 1072 : Int) ≤ own_z (FP.ddiv (FP.dmul (4604930618986332160 : UInt64) (FP.i2d L)) (FP.i2d A)) := by
    intro m h1 h2
    refine own_rd_dn hY H m 1072 h1 (by decide) ?_
    rw [hm, hx]
    exact Int.mul_le_mul_of_nonneg_right h2 hW2
  have f2a := upG 6442450944 (by decide) (by omega)
  have f2b := dnG (-6442450944) (by decide) (by omega)
  have hqG := own_p_pos 1072
  have f2 : DFin (FP.ddiv (FP.dmul (4604930618986332160 : UInt64) (FP.i2d L)) (FP.i2d A)) := by
    refine own_fin (own_rd_nan H) ?_
    have c : 6442450944 * own_p 1072 ≤ 2 ^ 53 * own_p 2044 := Nat.mul_le_mul (by decide) (own_p_le (by decide))
    omega
  have S := own_sum f2
  have f3 : DFin (FP.dadd (4598175219545276416 : UInt64) (FP.ddiv (FP.dmul (4604930618986332160 : UInt64) (FP.i2d L)) (FP.i2d A))) := by
    refine own_rd_fin (by decide) S 6442450945 1072 (by decide) (by decide) ?_ ?_
    · omega
    · omega
  refine ⟨f2, f3, ?_, ?_, ?_, ?_⟩
  · intro h
    have a := dn 12884901889 (by decide) (by omega)
    have b := own_rd_dn (by decide) S 17179869185 1040 (by decide) (by decide) (by omega)
    rw [own_z1]; omega
  · intro h
    have a := up 12884901887 (by decide) (by omega)
    have b := own_rd_up (by decide) S 17179869183 1040 (by decide) (by decide) (by omega)
    rw [own_z1]; omega
  · intro h
    have a := upG 3 (by decide) (by omega)
    have a' := dnG 3 (by decide) (by omega)
    have b := own_rd_eq (by decide) S 4 1072 (by decide) (by decide) (by omega)
    rw [own_z1]; have := b.2; omega
  · intro h
    have a := dnG 0 (by decide) (by omega)
    have b := own_rd_dn (by decide) S 1 1072 (by decide) (by decide) (by omega)
    rw [own_z25]; omega
end OwnLen
section OwnShift
open Jvm.FP.Core
theorem own_shk0 : ∀ k : Nat, k < 36 → ((1 : Int64) <<< (Int32.ofNat k &&& 0x3f).toInt64).toInt = ((2 ^ k : Nat) : Int) := by decide +kernel
theorem own_shk (k : Nat) (hk : k < 36) : ((1 : Int64) <<< (Int32.ofNat k &&& 0x3f).toInt64).toInt = (own_p k : Int) := by rw [own_p_def]; exact own_shk0 k hk
theorem own_ofk : ∀ k : Nat, k < 36 → (Int32.ofNat k).toInt = (k : Int) := by (repeat rw [own_p_def]); decide +kernel
theorem own_sh {e : Int32} {k : Nat} (h : e.toInt = (k : Int)) (hk : k < 36) : ((1 : Int64) <<< (e &&& 0x3f).toInt64).toInt = (own_p k : Int) := by
  have : e = Int32.ofNat k := own_int h (own_ofk k hk)
  rw [this]; exact own_shk k hk
theorem own_e (x : Int32) : ∃ e : Int32, ((x &&& (2147483647 : Int32)) % (48 : Int32)) - (16 : Int32) = e ∧ -16 ≤ e.toInt ∧ e.toInt ≤ 31 := by
  have h : (x &&& 2147483647).toInt = x.toInt % (2 ^ 31 : Nat) := c_mask x 2147483647 31 (by decide) (by decide)
  have g := (c_irem (x &&& 2147483647) 48 48 (by decide)).1 (by omega)
  have i := c_isub ((x &&& 2147483647) % 48) 16
  have j := rng32 ((x &&& 2147483647) % 48 - 16)
  have k : (16 : Int32).toInt = 16 := rfl
  refine ⟨_, rfl, ?_, ?_⟩ <;> omega
theorem own_a1 {L e : Int32} (h0 : ¬ e < 0) (hr : -16 ≤ e.toInt ∧ e.toInt ≤ 31) : DFin (FP.ddiv (FP.dmul (4604930618986332160 : UInt64) (FP.i2d L)) (FP.l2d ((1 : Int64) <<< (e &&& 0x3f).toInt64))) ∧ DFin (FP.dadd (4598175219545276416 : UInt64) (FP.ddiv (FP.dmul (4604930618986332160 : UInt64) (FP.i2d L)) (FP.l2d ((1 : Int64) <<< (e &&& 0x3f).toInt64)))) ∧ DFin (FP.ddiv (FP.l2d (((3 : Int64) * L.toInt64) + ((1 : Int64) <<< (e &&& 0x3f).toInt64))) (FP.l2d ((1 : Int64) <<< ((e + (2 : Int32)) &&& 0x3f).toInt64))) ∧ own_z (FP.dadd (4598175219545276416 : UInt64) (FP.ddiv (FP.dmul (4604930618986332160 : UInt64) (FP.i2d L)) (FP.l2d ((1 : Int64) <<< (e &&& 0x3f).toInt64)))) = own_z (FP.ddiv (FP.l2d (((3 : Int64) * L.toInt64) + ((1 : Int64) <<< (e &&& 0x3f).toInt64))) (FP.l2d ((1 : Int64) <<< ((e + (2 : Int32)) &&& 0x3f).toInt64))) := by
  have z0 : (0 : Int32).toInt = 0 := rfl
  rw [Int32.lt_iff_toInt_lt, z0] at h0
  obtain ⟨k, hk⟩ : ∃ k : Nat, e.toInt = (k : Int) := ⟨e.toInt.toNat, by omega⟩
  have hL := rng32 L
  have hp := own_plt (k := k) (by omega)
  have hp2 := own_plt (k := k + 2) (by omega)
  have s1 := own_sh hk (by omega)
  have q : (e + (2 : Int32)).toInt = ((k + 2 : Nat) : Int) := by
    have a := c_iadd e 2
    have b := rng32 (e + 2)
    have c : (2 : Int32).toInt = 2 := rfl
    omega
  have s2 := own_sh q (by omega)
  have n1 : ((3 : Int64) * L.toInt64).toInt = 3 * L.toInt := by
    have a := c_lmul 3 L.toInt64
    have b := c_i2l L
    have c := rng64 ((3 : Int64) * L.toInt64)
    have d : (3 : Int64).toInt = 3 := rfl
    rw [d] at a
    omega
  have n2 : (((3 : Int64) * L.toInt64) + ((1 : Int64) <<< (e &&& 0x3f).toInt64)).toInt = 3 * L.toInt + (own_p k : Int) := by
    have a := c_ladd ((3 : Int64) * L.toInt64) ((1 : Int64) <<< (e &&& 0x3f).toInt64)
    have c := rng64 (((3 : Int64) * L.toInt64) + ((1 : Int64) <<< (e &&& 0x3f).toInt64))
    omega
  have A := own_l2d (v := (1 : Int64) <<< (e &&& 0x3f).toInt64) (by omega)
  have N := own_l2d (v := ((3 : Int64) * L.toInt64) + ((1 : Int64) <<< (e &&& 0x3f).toInt64)) (by omega)
  have D := own_l2d (v := (1 : Int64) <<< ((e + (2 : Int32)) &&& 0x3f).toInt64) (by omega)
  rw [s1] at A
  rw [n2] at N
  rw [s2] at D
  exact own_A1 (by omega) A N D
theorem own_a2 {L e : Int32} (h0 : e < 0) (hr : -16 ≤ e.toInt ∧ e.toInt ≤ 31) : DFin (FP.ddiv FP.dconst1 (FP.l2d ((1 : Int64) <<< ((-e) &&& 0x3f).toInt64))) ∧ DFin (FP.ddiv (FP.dmul (4604930618986332160 : UInt64) (FP.i2d L)) (FP.ddiv FP.dconst1 (FP.l2d ((1 : Int64) <<< ((-e) &&& 0x3f).toInt64)))) ∧ DFin (FP.dadd (4598175219545276416 : UInt64) (FP.ddiv (FP.dmul (4604930618986332160 : UInt64) (FP.i2d L)) (FP.ddiv FP.dconst1 (FP.l2d ((1 : Int64) <<< ((-e) &&& 0x3f).toInt64))))) ∧ DFin (FP.ddiv (FP.l2d ((((3 : Int64) * L.toInt64) * ((1 : Int64) <<< ((-e) &&& 0x3f).toInt64)) + (1 : Int64))) (4616189618054758400 : UInt64)) ∧ own_z (FP.dadd (4598175219545276416 : UInt64) (FP.ddiv (FP.dmul (4604930618986332160 : UInt64) (FP.i2d L)) (FP.ddiv FP.dconst1 (FP.l2d ((1 : Int64) <<< ((-e) &&& 0x3f).toInt64))))) = own_z (FP.ddiv (FP.l2d ((((3 : Int64) * L.toInt64) * ((1 : Int64) <<< ((-e) &&& 0x3f).toInt64)) + (1 : Int64))) (4616189618054758400 : UInt64)) := by
  have z0 : (0 : Int32).toInt = 0 := rfl
  rw [Int32.lt_iff_toInt_lt, z0] at h0
  obtain ⟨k, hk⟩ : ∃ k : Nat, -e.toInt = (k : Int) := ⟨(-e.toInt).toNat, by omega⟩
  have hL := rng32 L
  have hp : own_p k ≤ 65536 := Nat.le_trans (own_p_le (j := 16) (by omega)) (by (repeat rw [own_p_def]); decide +kernel)
  have q : (-e).toInt = (k : Int) := by
    have a := c_ineg e
    have b := rng32 (-e)
    omega
  have s1 := own_sh q (by omega)
  have n1 : ((3 : Int64) * L.toInt64).toInt = 3 * L.toInt := by
    have a := c_lmul 3 L.toInt64
    have b := c_i2l L
    have c := rng64 ((3 : Int64) * L.toInt64)
    have d : (3 : Int64).toInt = 3 := rfl
    rw [d] at a
    omega
  have m1 : 3 * L.toInt * (own_p k : Int) ≤ 6442450944 * 65536 := by
    rcases Int.le_total 0 (3 * L.toInt) with h | h
    · exact Int.mul_le_mul (by omega) (by omega) (by omega) (by decide)
    · exact Int.le_trans (Int.mul_nonpos_of_nonpos_of_nonneg h (by omega)) (by decide)
  have m2 : -(6442450944 * 65536) ≤ 3 * L.toInt * (own_p k : Int) := by
    have : -(3 * L.toInt) * (own_p k : Int) ≤ 6442450944 * 65536 := by
      rcases Int.le_total 0 (-(3 * L.toInt)) with h | h
      · exact Int.mul_le_mul (by omega) (by omega) (by omega) (by decide)
      · exact Int.le_trans (Int.mul_nonpos_of_nonpos_of_nonneg h (by omega)) (by decide)
    rw [Int.neg_mul] at this
    omega
  have n2 : (((3 : Int64) * L.toInt64) * ((1 : Int64) <<< ((-e) &&& 0x3f).toInt64)).toInt = 3 * L.toInt * (own_p k : Int) := by
    have a := c_lmul ((3 : Int64) * L.toInt64) ((1 : Int64) <<< ((-e) &&& 0x3f).toInt64)
    rw [n1, s1] at a
    have c := rng64 (((3 : Int64) * L.toInt64) * ((1 : Int64) <<< ((-e) &&& 0x3f).toInt64))
    generalize 3 * L.toInt * (own_p k : Int) = M at *
    omega
  have n3 : ((((3 : Int64) * L.toInt64) * ((1 : Int64) <<< ((-e) &&& 0x3f).toInt64)) + (1 : Int64)).toInt = 3 * L.toInt * (own_p k : Int) + 1 := by
    have a := c_ladd (((3 : Int64) * L.toInt64) * ((1 : Int64) <<< ((-e) &&& 0x3f).toInt64)) 1
    rw [n2] at a
    have c := rng64 ((((3 : Int64) * L.toInt64) * ((1 : Int64) <<< ((-e) &&& 0x3f).toInt64)) + (1 : Int64))
    have d : (1 : Int64).toInt = 1 := rfl
    generalize 3 * L.toInt * (own_p k : Int) = M at *
    omega
  have hM : (3 * L.toInt * (own_p k : Int) + 1).natAbs ≤ 2 ^ 53 := by generalize 3 * L.toInt * (own_p k : Int) = M at *; omega
  have A := own_l2d (v := (1 : Int64) <<< ((-e) &&& 0x3f).toInt64) (by omega)
  have N := own_l2d (v := (((3 : Int64) * L.toInt64) * ((1 : Int64) <<< ((-e) &&& 0x3f).toInt64)) + (1 : Int64)) (by rw [n3]; exact hM)
  rw [s1] at A
  rw [n3] at N
  exact own_A2 (by omega) A N hM
theorem own_apos {x : Int32} (h : ¬ (x &&& (2147483647 : Int32)) = 0) : 0 < (x &&& (2147483647 : Int32)).toInt := by
  have a : (x &&& 2147483647).toInt = x.toInt % (2 ^ 31 : Nat) := c_mask x 2147483647 31 (by decide) (by decide)
  have b : (x &&& 2147483647).toInt ≠ 0 := fun e => h (own_int e rfl)
  omega
theorem own_i_eq {L A : Int32} (h1 : ¬ A < L) (h2 : ¬ L < A) : L.toInt = A.toInt := by
  rw [Int32.lt_iff_toInt_lt] at h1 h2
  omega
theorem own_i_nn {L : Int32} (h : ¬ L < 0) : 0 ≤ L.toInt := by
  have z0 : (0 : Int32).toInt = 0 := rfl
  rw [Int32.lt_iff_toInt_lt, z0] at h
  omega
end OwnShift
theorem own_ef_rm_lf (m : MethodId) (x0 : Int32) (x1 : UInt64) : entryFrame m #[(.int x0), (.double x1)] 3 = mkF m 0 #[.val (.int x0), .val (.double x1), .second] [] := by first | (simp [entryFrame, mkF, argsToLocals, Value.category]; done) | rfl
theorem own_pn0 : plainName "com/example/otsi/otsi/Bm25" = true := by first | (simp [plainName, overriddenIn]; done) | decide +kernel
theorem own_d_prog_2_method_4_code_0 : decode prog_2_method_4_code 0 = .ok (.ldc2_w 94, 3) := by decide +kernel
theorem own_d_prog_2_method_4_code_3 : decode prog_2_method_4_code 3 = .ok (.ldc2_w 96, 3) := by decide +kernel
theorem own_d_prog_2_method_4_code_6 : decode prog_2_method_4_code 6 = .ok (.iload_n 0, 1) := by decide +kernel
theorem own_d_prog_2_method_4_code_7 : decode prog_2_method_4_code 7 = .ok (.i2d, 1) := by decide +kernel
theorem own_d_prog_2_method_4_code_8 : decode prog_2_method_4_code 8 = .ok (.dmul, 1) := by decide +kernel
theorem own_d_prog_2_method_4_code_9 : decode prog_2_method_4_code 9 = .ok (.dload_n 1, 1) := by decide +kernel
theorem own_d_prog_2_method_4_code_10 : decode prog_2_method_4_code 10 = .ok (.ddiv, 1) := by decide +kernel
theorem own_d_prog_2_method_4_code_11 : decode prog_2_method_4_code 11 = .ok (.dadd, 1) := by decide +kernel
theorem own_d_prog_2_method_4_code_12 : decode prog_2_method_4_code 12 = .ok (.dreturn, 1) := by decide +kernel
def Q_rm_lf (Z : State) (p0 : Int32) (p1 : UInt64) (h0 : Heap) (n0 : Nat) (v : Option Value) (h : Heap) (L : List Loc) : Prop := v = some (.double (FP.dadd (4598175219545276416 : UInt64) (FP.ddiv (FP.dmul (4604930618986332160 : UInt64) (FP.i2d p0)) p1))) ∧ Fr n0 L ∧ h = h0
set_option maxRecDepth 65536 in
set_option maxHeartbeats 40000000 in
theorem rm_lf (l : Launch) (Z : State) (a0 : Array Value) (hw : ∀ d ∈ tables_1, d.before a0 Z = true) (ws : List Jvm.Cond) (p0 : Int32) (p1 : UInt64) (h0 : Heap) (n0 : Nat) (X00 : Old Z n0 h0) (hn1 : Fl.NoNaN64 (FP.dmul (4604930618986332160 : UInt64) (FP.i2d p0))) (hn2 : Fl.NoNaN64 (FP.ddiv (FP.dmul (4604930618986332160 : UInt64) (FP.i2d p0)) p1)) (hn3 : Fl.NoNaN64 (FP.dadd (4598175219545276416 : UInt64) (FP.ddiv (FP.dmul (4604930618986332160 : UInt64) (FP.i2d p0)) p1))) :
    MetFree l (⟨"com/example/otsi/otsi/Bm25", "lengthFactor", "(ID)D"⟩ : MethodName) (head1 (Jvm.Cond.code (⟨"com/example/otsi/otsi/Bm25", "lengthFactor", "(ID)D"⟩ : MethodName) prog_2_method_4_code 3 (some .double) :: ws) ({ frames := 0, cells := 0, slots := 0, locals := 0 } : Room)) (fun a U => a = #[(.int p0), (.double p1)] ∧ Z.Warmed39 U.vm ∧ U.heap = h0) (fun _ _ _ _ _ => True) (fun _ U o U' => ∃ v L, o = .returned v ∧ Q_rm_lf Z p0 p1 h0 n0 v U'.heap L ∧ FrameEnd U o U' L ({ frames := 0, cells := 0, slots := 0, locals := 0 } : Room).cells ({ frames := 0, cells := 0, slots := 0, locals := 0 } : Room).slots) := by
  refine MetFree.of_bodySF (plainFor_of_name own_pn0) hisR ?_
  intro p e s m args below meth c s₁ Bd hml0 hP hK
  obtain ⟨rfl, hZ, hh⟩ := hP
  have hx := Bd.exec
  have hby := Bd.bytes
  have hml : c.maxLocals = 3 := hml0
  have hown : s.vm.findClass "com/example/otsi/otsi/Bm25" = some m.cls := findClass_of_methodNamed Bd.named
  have hnm := (name_of_methodNamed Bd.named Bd.method).1
  have X0 : Stand p l e ({ frames := 0, cells := 0, slots := 0, locals := 0 } : Room) s m #[(.int p0), (.double p1)] below meth c s₁ [] 0 0 := Stand.of_body Bd
  have e0 : s₁.heap = h0 := by rw [← hh, Bd.state]; rfl
  have N0 := Fr.nil n0
  refine Go.start fun P hPend => ?_
  refine Go.st (fun _ k => castTop (own_ef_rm_lf m p0 p1) k) ?_
  show Go p.tables e below P (s₁.setTop (mkF m 0 #[.val (.int p0), .val (.double p1), .second] []))
  refine Go.st (fun _ => X0.ldc2DoubleC hx hown (mvT hZ (hw _ (List.mem_of_getElem? (i := 7) rfl))) (g := (mkF m 0 #[.val (.int p0), .val (.double p1), .second] [])) rfl (hb hby own_d_prog_2_method_4_code_0) _) ?_
  show Go p.tables e below P (s₁.setTop (mkF m 3 #[.val (.int p0), .val (.double p1), .second] [(.double (4598175219545276416 : UInt64))]))
  refine Go.st (fun _ => X0.ldc2DoubleC hx hown (mvT hZ (hw _ (List.mem_of_getElem? (i := 8) rfl))) (g := (mkF m 3 #[.val (.int p0), .val (.double p1), .second] [(.double (4598175219545276416 : UInt64))])) rfl (hb hby own_d_prog_2_method_4_code_3) _) ?_
  show Go p.tables e below P (s₁.setTop (mkF m 6 #[.val (.int p0), .val (.double p1), .second] [(.double (4604930618986332160 : UInt64)), (.double (4598175219545276416 : UInt64))]))
  refine Go.st (fun _ => XS.iloadN X0.here hx rfl (hb hby own_d_prog_2_method_4_code_6) rfl) ?_
  show Go p.tables e below P (s₁.setTop (mkF m 7 #[.val (.int p0), .val (.double p1), .second] [(.int p0), (.double (4604930618986332160 : UInt64)), (.double (4598175219545276416 : UInt64))]))
  refine Go.st (fun _ => XS.i2dS X0.here hx rfl (hb hby own_d_prog_2_method_4_code_7) rfl rfl) ?_
  show Go p.tables e below P (s₁.setTop (mkF m 8 #[.val (.int p0), .val (.double p1), .second] [(.double (FP.i2d p0)), (.double (4604930618986332160 : UInt64)), (.double (4598175219545276416 : UInt64))]))
  refine Go.st (fun _ => XS.dmulS X0.here hx rfl (hb hby own_d_prog_2_method_4_code_8) rfl hn1 rfl) ?_
  show Go p.tables e below P (s₁.setTop (mkF m 9 #[.val (.int p0), .val (.double p1), .second] [(.double (FP.dmul (4604930618986332160 : UInt64) (FP.i2d p0))), (.double (4598175219545276416 : UInt64))]))
  refine Go.st (fun _ => XS.dloadN X0.here hx rfl (hb hby own_d_prog_2_method_4_code_9) rfl) ?_
  show Go p.tables e below P (s₁.setTop (mkF m 10 #[.val (.int p0), .val (.double p1), .second] [(.double p1), (.double (FP.dmul (4604930618986332160 : UInt64) (FP.i2d p0))), (.double (4598175219545276416 : UInt64))]))
  refine Go.st (fun _ => XS.ddivS X0.here hx rfl (hb hby own_d_prog_2_method_4_code_10) rfl hn2 rfl) ?_
  show Go p.tables e below P (s₁.setTop (mkF m 11 #[.val (.int p0), .val (.double p1), .second] [(.double (FP.ddiv (FP.dmul (4604930618986332160 : UInt64) (FP.i2d p0)) p1)), (.double (4598175219545276416 : UInt64))]))
  refine Go.st (fun _ => XS.daddS X0.here hx rfl (hb hby own_d_prog_2_method_4_code_11) rfl hn3 rfl) ?_
  show Go p.tables e below P (s₁.setTop (mkF m 12 #[.val (.int p0), .val (.double p1), .second] [(.double (FP.dadd (4598175219545276416 : UInt64) (FP.ddiv (FP.dmul (4604930618986332160 : UInt64) (FP.i2d p0)) p1)))]))
  obtain ⟨fs, hr, hrun, hended, hW, hsame⟩ := X0.leave (v := some (.double (FP.dadd (4598175219545276416 : UInt64) (FP.ddiv (FP.dmul (4604930618986332160 : UInt64) (FP.i2d p0)) p1)))) (fun h => by rw [Bd.returns] at h; cases h)
  refine ⟨_, ?_, hPend _ _ hrun hended ⟨_, _, rfl, ?_, ⟨_, rfl⟩, hW, hsame.mono (by decide) (by decide)⟩⟩
  · exact retOut X0 hx (t := .double) Bd.returns rfl (Or.inr (Or.inr (Or.inl ⟨rfl, rfl, _, rfl⟩))) (hb hby own_d_prog_2_method_4_code_12) hr
  · show Q_rm_lf Z _ _ h0 n0 _ s₁.heap _
    rw [e0]
    exact ⟨rfl, N0, rfl⟩
theorem own_ef_rm_law (m : MethodId) (x0 : Int32) (x1 : Int32) (x2 : Int32) (x3 : Int32) : entryFrame m #[(.int x0), (.int x1), (.int x2), (.int x3)] maxLocals = mkF m 0 #[.val (.int x0), .val (.int x1), .val (.int x2), .val (.int x3), .unset, .unset, .unset, .unset, .unset, .unset, .unset, .unset] [] := by first | (simp [entryFrame, mkF, argsToLocals, Value.category, maxLocals]; done) | rfl
theorem own_pn1 : plainName "com/example/otsi/otsi/Bm25LengthFactorPinLaw" = true := by first | (simp [plainName, overriddenIn]; done) | decide +kernel
theorem own_pd0 : parseMethodDescriptor "(ID)D" = some ⟨[.int, .double], some .double⟩ := by decide +kernel
def Q_rm_law (Z : State) (p0 : Int32) (p1 : Int32) (p2 : Int32) (p3 : Int32) (h0 : Heap) (n0 : Nat) (v : Option Value) (h : Heap) (L : List Loc) : Prop := v = some (.int (1 : Int32)) ∧ Fr n0 L ∧ h = h0
set_option maxRecDepth 65536 in
set_option maxHeartbeats 40000000 in
theorem rm_law (l : Launch) (Z : State) (a0 : Array Value) (hw : ∀ d ∈ tables_1, d.before a0 Z = true) (ws : List Jvm.Cond) (p0 : Int32) (p1 : Int32) (p2 : Int32) (p3 : Int32) (h0 : Heap) (n0 : Nat) (X00 : Old Z n0 h0)  :
    MetFree l x (head1 (Jvm.Cond.code x code maxLocals ret :: ws) room_1) (fun a U => a = #[(.int p0), (.int p1), (.int p2), (.int p3)] ∧ Z.Warmed39 U.vm ∧ U.heap = h0) (fun _ _ _ _ _ => True) (fun _ U o U' => ∃ v L, o = .returned v ∧ Q_rm_law Z p0 p1 p2 p3 h0 n0 v U'.heap L ∧ FrameEnd U o U' L 0 0) := by
  refine MetFree.of_bodySF (plainFor_of_name own_pn1) hisR ?_
  intro p e s m args below meth c s₁ Bd hml0 hP hK
  obtain ⟨rfl, hZ, hh⟩ := hP
  have hx := Bd.exec
  have hby := Bd.bytes
  have hml : c.maxLocals = 12 := hml0
  have hown : s.vm.findClass "com/example/otsi/otsi/Bm25LengthFactorPinLaw" = some m.cls := findClass_of_methodNamed Bd.named
  have hnm := (name_of_methodNamed Bd.named Bd.method).1
  have X0 : Stand p l e room_1 s m #[(.int p0), (.int p1), (.int p2), (.int p3)] below meth c s₁ [] 0 0 := Stand.of_body Bd
  have e0 : s₁.heap = h0 := by rw [← hh, Bd.state]; rfl
  have N0 := Fr.nil n0
  refine Go.start fun P hPend => ?_
  refine Go.st (fun _ k => castTop (own_ef_rm_law m p0 p1 p2 p3) k) ?_
  show Go p.tables e below P (s₁.setTop (mkF m 0 #[.val (.int p0), .val (.int p1), .val (.int p2), .val (.int p3), .unset, .unset, .unset, .unset, .unset, .unset, .unset, .unset] []))
  refine Go.st (fun _ => XS.iloadN X0.here hx rfl (hb hby at_0) rfl) ?_
  show Go p.tables e below P (s₁.setTop (mkF m 1 #[.val (.int p0), .val (.int p1), .val (.int p2), .val (.int p3), .unset, .unset, .unset, .unset, .unset, .unset, .unset, .unset] [(.int p3)]))
  refine Go.st (fun _ => XS.iconst X0.here hx rfl (hb hby at_1)) ?_
  show Go p.tables e below P (s₁.setTop (mkF m 2 #[.val (.int p0), .val (.int p1), .val (.int p2), .val (.int p3), .unset, .unset, .unset, .unset, .unset, .unset, .unset, .unset] [(.int (1 : Int32)), (.int p3)]))
  refine Go.st (fun _ => XS.iand X0.here hx rfl (hb hby at_2) rfl) ?_
  show Go p.tables e below P (s₁.setTop (mkF m 3 #[.val (.int p0), .val (.int p1), .val (.int p2), .val (.int p3), .unset, .unset, .unset, .unset, .unset, .unset, .unset, .unset] [(.int (p3 &&& (1 : Int32)))]))
  by_cases hc1 : (p3 &&& (1 : Int32)) = (0 : Int32)
  · skip
    refine Go.st (fun _ => XS.ifYes X0.here hx rfl (pc0 := 3) (pc' := 115) rfl (hb hby at_3) rfl ((if0 _ _).trans (teq hc1).1) (by decide) (by decide)) ?_
    show Go p.tables e below P (s₁.setTop (mkF m 115 #[.val (.int p0), .val (.int p1), .val (.int p2), .val (.int p3), .unset, .unset, .unset, .unset, .unset, .unset, .unset, .unset] []))
    refine Go.st (fun _ => XS.iloadN X0.here hx rfl (hb hby at_115) rfl) ?_
    show Go p.tables e below P (s₁.setTop (mkF m 116 #[.val (.int p0), .val (.int p1), .val (.int p2), .val (.int p3), .unset, .unset, .unset, .unset, .unset, .unset, .unset, .unset] [(.int p2)]))
    refine Go.st (fun _ => X0.ldcInt hx hown (mvT hZ (hw _ (List.mem_of_getElem? (i := 0) rfl))) (g := (mkF m 116 #[.val (.int p0), .val (.int p1), .val (.int p2), .val (.int p3), .unset, .unset, .unset, .unset, .unset, .unset, .unset, .unset] [(.int p2)])) rfl (hb hby at_116) _) ?_
    show Go p.tables e below P (s₁.setTop (mkF m 118 #[.val (.int p0), .val (.int p1), .val (.int p2), .val (.int p3), .unset, .unset, .unset, .unset, .unset, .unset, .unset, .unset] [(.int (2147483647 : Int32)), (.int p2)]))
    refine Go.st (fun _ => XS.iand X0.here hx rfl (hb hby at_118) rfl) ?_
    show Go p.tables e below P (s₁.setTop (mkF m 119 #[.val (.int p0), .val (.int p1), .val (.int p2), .val (.int p3), .unset, .unset, .unset, .unset, .unset, .unset, .unset, .unset] [(.int (p2 &&& (2147483647 : Int32)))]))
    refine Go.st (fun _ => XS.istore X0.here hx rfl (hb hby at_119) rfl (l' := #[.val (.int p0), .val (.int p1), .val (.int p2), .val (.int p3), .val (.int (p2 &&& (2147483647 : Int32))), .unset, .unset, .unset, .unset, .unset, .unset, .unset]) rfl) ?_
    show Go p.tables e below P (s₁.setTop (mkF m 121 #[.val (.int p0), .val (.int p1), .val (.int p2), .val (.int p3), .val (.int (p2 &&& (2147483647 : Int32))), .unset, .unset, .unset, .unset, .unset, .unset, .unset] []))
    refine Go.st (fun _ => XS.iload X0.here hx rfl (hb hby at_121) rfl) ?_
    show Go p.tables e below P (s₁.setTop (mkF m 123 #[.val (.int p0), .val (.int p1), .val (.int p2), .val (.int p3), .val (.int (p2 &&& (2147483647 : Int32))), .unset, .unset, .unset, .unset, .unset, .unset, .unset] [(.int (p2 &&& (2147483647 : Int32)))]))
    have J2 : ∀ (ja : Int32), 0 < ja.toInt → Go p.tables e below P (s₁.setTop (mkF m 129 #[.val (.int p0), .val (.int p1), .val (.int p2), .val (.int p3), .val (.int ja), .unset, .unset, .unset, .unset, .unset, .unset, .unset] [])) := by
      intro ja hjJ2
      show Go p.tables e below P (s₁.setTop (mkF m 129 #[.val (.int p0), .val (.int p1), .val (.int p2), .val (.int p3), .val (.int ja), .unset, .unset, .unset, .unset, .unset, .unset, .unset] []))
      have hja := hjJ2
      refine Go.st (fun _ => XS.iloadN X0.here hx rfl (hb hby at_129) rfl) ?_
      show Go p.tables e below P (s₁.setTop (mkF m 130 #[.val (.int p0), .val (.int p1), .val (.int p2), .val (.int p3), .val (.int ja), .unset, .unset, .unset, .unset, .unset, .unset, .unset] [(.int p3)]))
      refine Go.st (fun _ => XS.iconst X0.here hx rfl (hb hby at_130)) ?_
      show Go p.tables e below P (s₁.setTop (mkF m 131 #[.val (.int p0), .val (.int p1), .val (.int p2), .val (.int p3), .val (.int ja), .unset, .unset, .unset, .unset, .unset, .unset, .unset] [(.int (2 : Int32)), (.int p3)]))
      refine Go.st (fun _ => XS.iand X0.here hx rfl (hb hby at_131) rfl) ?_
      show Go p.tables e below P (s₁.setTop (mkF m 132 #[.val (.int p0), .val (.int p1), .val (.int p2), .val (.int p3), .val (.int ja), .unset, .unset, .unset, .unset, .unset, .unset, .unset] [(.int (p3 &&& (2 : Int32)))]))
      have J3 : ∀ (jl : Int32), True → Go p.tables e below P (s₁.setTop (mkF m 141 #[.val (.int p0), .val (.int p1), .val (.int p2), .val (.int p3), .val (.int ja), .unset, .unset, .unset, .unset, .unset, .unset, .unset] [(.int jl)])) := by
        intro jl hjJ3
        show Go p.tables e below P (s₁.setTop (mkF m 141 #[.val (.int p0), .val (.int p1), .val (.int p2), .val (.int p3), .val (.int ja), .unset, .unset, .unset, .unset, .unset, .unset, .unset] [(.int jl)]))
        refine Go.st (fun _ => XS.istore X0.here hx rfl (hb hby at_141) rfl (l' := #[.val (.int p0), .val (.int p1), .val (.int p2), .val (.int p3), .val (.int ja), .val (.int jl), .unset, .unset, .unset, .unset, .unset, .unset]) rfl) ?_
        show Go p.tables e below P (s₁.setTop (mkF m 143 #[.val (.int p0), .val (.int p1), .val (.int p2), .val (.int p3), .val (.int ja), .val (.int jl), .unset, .unset, .unset, .unset, .unset, .unset] []))
        have hB := own_B (L := jl) (A := ja) hja
        refine Go.st (fun _ => XS.iload X0.here hx rfl (hb hby at_143) rfl) ?_
        show Go p.tables e below P (s₁.setTop (mkF m 145 #[.val (.int p0), .val (.int p1), .val (.int p2), .val (.int p3), .val (.int ja), .val (.int jl), .unset, .unset, .unset, .unset, .unset, .unset] [(.int jl)]))
        refine Go.st (fun _ => XS.iload X0.here hx rfl (hb hby at_145) rfl) ?_
        show Go p.tables e below P (s₁.setTop (mkF m 147 #[.val (.int p0), .val (.int p1), .val (.int p2), .val (.int p3), .val (.int ja), .val (.int jl), .unset, .unset, .unset, .unset, .unset, .unset] [(.int ja), (.int jl)]))
        refine Go.st (fun _ => XS.i2dS X0.here hx rfl (hb hby at_147) rfl rfl) ?_
        show Go p.tables e below P (s₁.setTop (mkF m 148 #[.val (.int p0), .val (.int p1), .val (.int p2), .val (.int p3), .val (.int ja), .val (.int jl), .unset, .unset, .unset, .unset, .unset, .unset] [(.double (FP.i2d ja)), (.int jl)]))
        obtain ⟨_, _, ⟨T4, L4, k4, n4⟩, -, X4, ⟨Lc4, hQ4, l4, y4, z4⟩, st4⟩ := Jvm.LawKit.callS X0 hx (y := (⟨"com/example/otsi/otsi/Bm25", "lengthFactor", "(ID)D"⟩ : MethodName)) hown (mvT hZ (hw _ (List.mem_of_getElem? (i := 3) rfl))) (mvT hZ (hw _ (List.mem_of_getElem? (i := 4) rfl))) (mvT hZ (hw _ (List.mem_of_getElem? (i := 5) rfl))) (mvT hZ (hw _ (List.mem_of_getElem? (i := 6) rfl))) (by decide) (backOf (W := 0) (rm_lf l Z a0 hw [] jl (FP.i2d ja) h0 n0 X00 (own_notnan (own_x1 _).1) (own_notnan hB.1) (own_notnan hB.2.1)) hZ (hw _ (List.mem_of_getElem? (i := 6) rfl)) (hw _ (List.mem_of_getElem? (i := 5) rfl)) (by decide) (by decide)) (g := (mkF m 148 #[.val (.int p0), .val (.int p1), .val (.int p2), .val (.int p3), .val (.int ja), .val (.int jl), .unset, .unset, .unset, .unset, .unset, .unset] [(.double (FP.i2d ja)), (.int jl)])) rfl (by rw [hml]; rfl) (argsL := [(.int jl), (.double (FP.i2d ja))]) (rest := []) (lenOf own_pd0 rfl) rfl (by show 2 * 0 + _ ≤ _; exact Nat.le_of_eq rfl) (hb hby at_148) (fun _ _ => ⟨rfl, e0, (by decide : 0 + 0 ≤ _), (by decide : 0 + 0 ≤ _)⟩)
        dsimp only [Pt.U, Pt.locs, Pt.cells, Pt.slots] at X4 l4 y4 z4 st4 hQ4
        subst l4 y4 z4
        refine Go.st st4 ?_
        obtain ⟨rfl, N4q, e4⟩ := hQ4
        have N4 := Fr.app N0 N4q
        show Go p.tables e below P (T4.setTop (mkF m 151 #[.val (.int p0), .val (.int p1), .val (.int p2), .val (.int p3), .val (.int ja), .val (.int jl), .unset, .unset, .unset, .unset, .unset, .unset] [(.double (FP.dadd (4598175219545276416 : UInt64) (FP.ddiv (FP.dmul (4604930618986332160 : UInt64) (FP.i2d jl)) (FP.i2d ja))))]))
        refine Go.st (fun _ => XS.dstore X4.here hx rfl (hb hby at_151) rfl (l' := #[.val (.int p0), .val (.int p1), .val (.int p2), .val (.int p3), .val (.int ja), .val (.int jl), .val (.double (FP.dadd (4598175219545276416 : UInt64) (FP.ddiv (FP.dmul (4604930618986332160 : UInt64) (FP.i2d jl)) (FP.i2d ja)))), .second, .unset, .unset, .unset, .unset]) rfl) ?_
        show Go p.tables e below P (T4.setTop (mkF m 153 #[.val (.int p0), .val (.int p1), .val (.int p2), .val (.int p3), .val (.int ja), .val (.int jl), .val (.double (FP.dadd (4598175219545276416 : UInt64) (FP.ddiv (FP.dmul (4604930618986332160 : UInt64) (FP.i2d jl)) (FP.i2d ja)))), .second, .unset, .unset, .unset, .unset] []))
        refine Go.st (fun _ => XS.iload X4.here hx rfl (hb hby at_153) rfl) ?_
        show Go p.tables e below P (T4.setTop (mkF m 155 #[.val (.int p0), .val (.int p1), .val (.int p2), .val (.int p3), .val (.int ja), .val (.int jl), .val (.double (FP.dadd (4598175219545276416 : UInt64) (FP.ddiv (FP.dmul (4604930618986332160 : UInt64) (FP.i2d jl)) (FP.i2d ja)))), .second, .unset, .unset, .unset, .unset] [(.int jl)]))
        refine Go.st (fun _ => XS.iload X4.here hx rfl (hb hby at_155) rfl) ?_
        show Go p.tables e below P (T4.setTop (mkF m 157 #[.val (.int p0), .val (.int p1), .val (.int p2), .val (.int p3), .val (.int ja), .val (.int jl), .val (.double (FP.dadd (4598175219545276416 : UInt64) (FP.ddiv (FP.dmul (4604930618986332160 : UInt64) (FP.i2d jl)) (FP.i2d ja)))), .second, .unset, .unset, .unset, .unset] [(.int ja), (.int jl)]))
        by_cases hc5 : ja < jl
        · skip
          refine Go.st (fun _ => XS.icmpNo X4.here hx rfl (hb hby at_157) rfl (tlt hc5).2.2.2) ?_
          show Go p.tables e below P (T4.setTop (mkF m 160 #[.val (.int p0), .val (.int p1), .val (.int p2), .val (.int p3), .val (.int ja), .val (.int jl), .val (.double (FP.dadd (4598175219545276416 : UInt64) (FP.ddiv (FP.dmul (4604930618986332160 : UInt64) (FP.i2d jl)) (FP.i2d ja)))), .second, .unset, .unset, .unset, .unset] []))
          refine Go.st (fun _ => XS.dload X4.here hx rfl (hb hby at_160) rfl) ?_
          show Go p.tables e below P (T4.setTop (mkF m 162 #[.val (.int p0), .val (.int p1), .val (.int p2), .val (.int p3), .val (.int ja), .val (.int jl), .val (.double (FP.dadd (4598175219545276416 : UInt64) (FP.ddiv (FP.dmul (4604930618986332160 : UInt64) (FP.i2d jl)) (FP.i2d ja)))), .second, .unset, .unset, .unset, .unset] [(.double (FP.dadd (4598175219545276416 : UInt64) (FP.ddiv (FP.dmul (4604930618986332160 : UInt64) (FP.i2d jl)) (FP.i2d ja))))]))
          refine Go.st (fun _ => XS.dconst1 X4.here hx rfl (hb hby at_162) rfl) ?_
          show Go p.tables e below P (T4.setTop (mkF m 163 #[.val (.int p0), .val (.int p1), .val (.int p2), .val (.int p3), .val (.int ja), .val (.int jl), .val (.double (FP.dadd (4598175219545276416 : UInt64) (FP.ddiv (FP.dmul (4604930618986332160 : UInt64) (FP.i2d jl)) (FP.i2d ja)))), .second, .unset, .unset, .unset, .unset] [(.double FP.dconst1), (.double (FP.dadd (4598175219545276416 : UInt64) (FP.ddiv (FP.dmul (4604930618986332160 : UInt64) (FP.i2d jl)) (FP.i2d ja))))]))
          refine Go.st (fun _ => XS.dcmpS X4.here hx rfl (hb hby at_163) rfl rfl) ?_
          show Go p.tables e below P (T4.setTop (mkF m 164 #[.val (.int p0), .val (.int p1), .val (.int p2), .val (.int p3), .val (.int ja), .val (.int jl), .val (.double (FP.dadd (4598175219545276416 : UInt64) (FP.ddiv (FP.dmul (4604930618986332160 : UInt64) (FP.i2d jl)) (FP.i2d ja)))), .second, .unset, .unset, .unset, .unset] [(.int (cmpValue (FP.dcmp (FP.dadd (4598175219545276416 : UInt64) (FP.ddiv (FP.dmul (4604930618986332160 : UInt64) (FP.i2d jl)) (FP.i2d ja))) FP.dconst1) .l))]))
          have hb6 : (0 : Int32) < (cmpValue (FP.dcmp (FP.dadd (4598175219545276416 : UInt64) (FP.ddiv (FP.dmul (4604930618986332160 : UInt64) (FP.i2d jl)) (FP.i2d ja))) FP.dconst1) .l) := by rw [own_cmpgt hB.2.1 own_f1 (hB.2.2.1 (Int32.lt_iff_toInt_lt.mp (by assumption)))]; decide
          refine Go.st (fun _ => XS.ifNo X4.here hx rfl (hb hby at_164) rfl ((if0 _ _).trans (tlt hb6).2.2.2)) ?_
          show Go p.tables e below P (T4.setTop (mkF m 167 #[.val (.int p0), .val (.int p1), .val (.int p2), .val (.int p3), .val (.int ja), .val (.int jl), .val (.double (FP.dadd (4598175219545276416 : UInt64) (FP.ddiv (FP.dmul (4604930618986332160 : UInt64) (FP.i2d jl)) (FP.i2d ja)))), .second, .unset, .unset, .unset, .unset] []))
          refine Go.st (fun _ => XS.iconst X4.here hx rfl (hb hby at_167)) ?_
          show Go p.tables e below P (T4.setTop (mkF m 168 #[.val (.int p0), .val (.int p1), .val (.int p2), .val (.int p3), .val (.int ja), .val (.int jl), .val (.double (FP.dadd (4598175219545276416 : UInt64) (FP.ddiv (FP.dmul (4604930618986332160 : UInt64) (FP.i2d jl)) (FP.i2d ja)))), .second, .unset, .unset, .unset, .unset] [(.int (1 : Int32))]))
          refine Go.st (fun _ => XS.goto X4.here hx rfl (pc0 := 168) (pc' := 172) rfl (hb hby at_168) (by decide) (by decide)) ?_
          show Go p.tables e below P (T4.setTop (mkF m 172 #[.val (.int p0), .val (.int p1), .val (.int p2), .val (.int p3), .val (.int ja), .val (.int jl), .val (.double (FP.dadd (4598175219545276416 : UInt64) (FP.ddiv (FP.dmul (4604930618986332160 : UInt64) (FP.i2d jl)) (FP.i2d ja)))), .second, .unset, .unset, .unset, .unset] [(.int (1 : Int32))]))
          refine Go.st (fun _ => XS.istore X4.here hx rfl (hb hby at_172) rfl (l' := #[.val (.int p0), .val (.int p1), .val (.int p2), .val (.int p3), .val (.int ja), .val (.int jl), .val (.double (FP.dadd (4598175219545276416 : UInt64) (FP.ddiv (FP.dmul (4604930618986332160 : UInt64) (FP.i2d jl)) (FP.i2d ja)))), .second, .val (.int (1 : Int32)), .unset, .unset, .unset]) rfl) ?_
          show Go p.tables e below P (T4.setTop (mkF m 174 #[.val (.int p0), .val (.int p1), .val (.int p2), .val (.int p3), .val (.int ja), .val (.int jl), .val (.double (FP.dadd (4598175219545276416 : UInt64) (FP.ddiv (FP.dmul (4604930618986332160 : UInt64) (FP.i2d jl)) (FP.i2d ja)))), .second, .val (.int (1 : Int32)), .unset, .unset, .unset] []))
          refine Go.st (fun _ => XS.goto X4.here hx rfl (pc0 := 174) (pc' := 215) rfl (hb hby at_174) (by decide) (by decide)) ?_
          show Go p.tables e below P (T4.setTop (mkF m 215 #[.val (.int p0), .val (.int p1), .val (.int p2), .val (.int p3), .val (.int ja), .val (.int jl), .val (.double (FP.dadd (4598175219545276416 : UInt64) (FP.ddiv (FP.dmul (4604930618986332160 : UInt64) (FP.i2d jl)) (FP.i2d ja)))), .second, .val (.int (1 : Int32)), .unset, .unset, .unset] []))
          refine Go.st (fun _ => XS.iload X4.here hx rfl (hb hby at_215) rfl) ?_
          show Go p.tables e below P (T4.setTop (mkF m 217 #[.val (.int p0), .val (.int p1), .val (.int p2), .val (.int p3), .val (.int ja), .val (.int jl), .val (.double (FP.dadd (4598175219545276416 : UInt64) (FP.ddiv (FP.dmul (4604930618986332160 : UInt64) (FP.i2d jl)) (FP.i2d ja)))), .second, .val (.int (1 : Int32)), .unset, .unset, .unset] [(.int jl)]))
          by_cases hc7 : jl < (0 : Int32)
          · skip
            refine Go.st (fun _ => XS.ifYes X4.here hx rfl (pc0 := 217) (pc' := 229) rfl (hb hby at_217) rfl ((if0 _ _).trans (tlt hc7).1) (by decide) (by decide)) ?_
            show Go p.tables e below P (T4.setTop (mkF m 229 #[.val (.int p0), .val (.int p1), .val (.int p2), .val (.int p3), .val (.int ja), .val (.int jl), .val (.double (FP.dadd (4598175219545276416 : UInt64) (FP.ddiv (FP.dmul (4604930618986332160 : UInt64) (FP.i2d jl)) (FP.i2d ja)))), .second, .val (.int (1 : Int32)), .unset, .unset, .unset] []))
            refine Go.st (fun _ => XS.iconst X4.here hx rfl (hb hby at_229)) ?_
            show Go p.tables e below P (T4.setTop (mkF m 230 #[.val (.int p0), .val (.int p1), .val (.int p2), .val (.int p3), .val (.int ja), .val (.int jl), .val (.double (FP.dadd (4598175219545276416 : UInt64) (FP.ddiv (FP.dmul (4604930618986332160 : UInt64) (FP.i2d jl)) (FP.i2d ja)))), .second, .val (.int (1 : Int32)), .unset, .unset, .unset] [(.int (1 : Int32))]))
            refine Go.st (fun _ => XS.goto X4.here hx rfl (pc0 := 230) (pc' := 234) rfl (hb hby at_230) (by decide) (by decide)) ?_
            show Go p.tables e below P (T4.setTop (mkF m 234 #[.val (.int p0), .val (.int p1), .val (.int p2), .val (.int p3), .val (.int ja), .val (.int jl), .val (.double (FP.dadd (4598175219545276416 : UInt64) (FP.ddiv (FP.dmul (4604930618986332160 : UInt64) (FP.i2d jl)) (FP.i2d ja)))), .second, .val (.int (1 : Int32)), .unset, .unset, .unset] [(.int (1 : Int32))]))
            refine Go.st (fun _ => XS.istore X4.here hx rfl (hb hby at_234) rfl (l' := #[.val (.int p0), .val (.int p1), .val (.int p2), .val (.int p3), .val (.int ja), .val (.int jl), .val (.double (FP.dadd (4598175219545276416 : UInt64) (FP.ddiv (FP.dmul (4604930618986332160 : UInt64) (FP.i2d jl)) (FP.i2d ja)))), .second, .val (.int (1 : Int32)), .val (.int (1 : Int32)), .unset, .unset]) rfl) ?_
            show Go p.tables e below P (T4.setTop (mkF m 236 #[.val (.int p0), .val (.int p1), .val (.int p2), .val (.int p3), .val (.int ja), .val (.int jl), .val (.double (FP.dadd (4598175219545276416 : UInt64) (FP.ddiv (FP.dmul (4604930618986332160 : UInt64) (FP.i2d jl)) (FP.i2d ja)))), .second, .val (.int (1 : Int32)), .val (.int (1 : Int32)), .unset, .unset] []))
            refine Go.st (fun _ => XS.iload X4.here hx rfl (hb hby at_236) rfl) ?_
            show Go p.tables e below P (T4.setTop (mkF m 238 #[.val (.int p0), .val (.int p1), .val (.int p2), .val (.int p3), .val (.int ja), .val (.int jl), .val (.double (FP.dadd (4598175219545276416 : UInt64) (FP.ddiv (FP.dmul (4604930618986332160 : UInt64) (FP.i2d jl)) (FP.i2d ja)))), .second, .val (.int (1 : Int32)), .val (.int (1 : Int32)), .unset, .unset] [(.int (1 : Int32))]))
            refine Go.st (fun _ => XS.ifNo X4.here hx rfl (hb hby at_238) rfl ((if0 _ _).trans (feq (by decide)).1)) ?_
            show Go p.tables e below P (T4.setTop (mkF m 241 #[.val (.int p0), .val (.int p1), .val (.int p2), .val (.int p3), .val (.int ja), .val (.int jl), .val (.double (FP.dadd (4598175219545276416 : UInt64) (FP.ddiv (FP.dmul (4604930618986332160 : UInt64) (FP.i2d jl)) (FP.i2d ja)))), .second, .val (.int (1 : Int32)), .val (.int (1 : Int32)), .unset, .unset] []))
            refine Go.st (fun _ => XS.iload X4.here hx rfl (hb hby at_241) rfl) ?_
            show Go p.tables e below P (T4.setTop (mkF m 243 #[.val (.int p0), .val (.int p1), .val (.int p2), .val (.int p3), .val (.int ja), .val (.int jl), .val (.double (FP.dadd (4598175219545276416 : UInt64) (FP.ddiv (FP.dmul (4604930618986332160 : UInt64) (FP.i2d jl)) (FP.i2d ja)))), .second, .val (.int (1 : Int32)), .val (.int (1 : Int32)), .unset, .unset] [(.int (1 : Int32))]))
            refine Go.st (fun _ => XS.ifNo X4.here hx rfl (hb hby at_243) rfl ((if0 _ _).trans (feq (by decide)).1)) ?_
            show Go p.tables e below P (T4.setTop (mkF m 246 #[.val (.int p0), .val (.int p1), .val (.int p2), .val (.int p3), .val (.int ja), .val (.int jl), .val (.double (FP.dadd (4598175219545276416 : UInt64) (FP.ddiv (FP.dmul (4604930618986332160 : UInt64) (FP.i2d jl)) (FP.i2d ja)))), .second, .val (.int (1 : Int32)), .val (.int (1 : Int32)), .unset, .unset] []))
            refine Go.st (fun _ => XS.iconst X4.here hx rfl (hb hby at_246)) ?_
            show Go p.tables e below P (T4.setTop (mkF m 247 #[.val (.int p0), .val (.int p1), .val (.int p2), .val (.int p3), .val (.int ja), .val (.int jl), .val (.double (FP.dadd (4598175219545276416 : UInt64) (FP.ddiv (FP.dmul (4604930618986332160 : UInt64) (FP.i2d jl)) (FP.i2d ja)))), .second, .val (.int (1 : Int32)), .val (.int (1 : Int32)), .unset, .unset] [(.int (1 : Int32))]))
            refine Go.st (fun _ => XS.goto X4.here hx rfl (pc0 := 247) (pc' := 251) rfl (hb hby at_247) (by decide) (by decide)) ?_
            show Go p.tables e below P (T4.setTop (mkF m 251 #[.val (.int p0), .val (.int p1), .val (.int p2), .val (.int p3), .val (.int ja), .val (.int jl), .val (.double (FP.dadd (4598175219545276416 : UInt64) (FP.ddiv (FP.dmul (4604930618986332160 : UInt64) (FP.i2d jl)) (FP.i2d ja)))), .second, .val (.int (1 : Int32)), .val (.int (1 : Int32)), .unset, .unset] [(.int (1 : Int32))]))
            obtain ⟨fs, hr, hrun, hended, hW, hsame⟩ := X4.leave (v := some (.int (1 : Int32))) (fun h => by rw [Bd.returns] at h; cases h)
            refine ⟨_, ?_, hPend _ _ hrun hended ⟨_, _, rfl, ?_, ⟨_, rfl⟩, hW, hsame.mono (by decide) (by decide)⟩⟩
            · exact retN X4 hx (t := .boolean) Bd.returns (by simp) (hb hby at_251) hr
            · show Q_rm_law Z _ _ _ _ h0 n0 _ T4.heap _
              rw [e4]
              exact ⟨rfl, N4, rfl⟩
          · skip
            refine Go.st (fun _ => XS.ifNo X4.here hx rfl (hb hby at_217) rfl ((if0 _ _).trans (flt hc7).1)) ?_
            show Go p.tables e below P (T4.setTop (mkF m 220 #[.val (.int p0), .val (.int p1), .val (.int p2), .val (.int p3), .val (.int ja), .val (.int jl), .val (.double (FP.dadd (4598175219545276416 : UInt64) (FP.ddiv (FP.dmul (4604930618986332160 : UInt64) (FP.i2d jl)) (FP.i2d ja)))), .second, .val (.int (1 : Int32)), .unset, .unset, .unset] []))
            refine Go.st (fun _ => XS.dload X4.here hx rfl (hb hby at_220) rfl) ?_
            show Go p.tables e below P (T4.setTop (mkF m 222 #[.val (.int p0), .val (.int p1), .val (.int p2), .val (.int p3), .val (.int ja), .val (.int jl), .val (.double (FP.dadd (4598175219545276416 : UInt64) (FP.ddiv (FP.dmul (4604930618986332160 : UInt64) (FP.i2d jl)) (FP.i2d ja)))), .second, .val (.int (1 : Int32)), .unset, .unset, .unset] [(.double (FP.dadd (4598175219545276416 : UInt64) (FP.ddiv (FP.dmul (4604930618986332160 : UInt64) (FP.i2d jl)) (FP.i2d ja))))]))
            refine Go.st (fun _ => X4.ldc2DoubleC hx hown (mvT hZ (hw _ (List.mem_of_getElem? (i := 9) rfl))) (g := (mkF m 222 #[.val (.int p0), .val (.int p1), .val (.int p2), .val (.int p3), .val (.int ja), .val (.int jl), .val (.double (FP.dadd (4598175219545276416 : UInt64) (FP.ddiv (FP.dmul (4604930618986332160 : UInt64) (FP.i2d jl)) (FP.i2d ja)))), .second, .val (.int (1 : Int32)), .unset, .unset, .unset] [(.double (FP.dadd (4598175219545276416 : UInt64) (FP.ddiv (FP.dmul (4604930618986332160 : UInt64) (FP.i2d jl)) (FP.i2d ja))))])) rfl (hb hby at_222) _) ?_
            show Go p.tables e below P (T4.setTop (mkF m 225 #[.val (.int p0), .val (.int p1), .val (.int p2), .val (.int p3), .val (.int ja), .val (.int jl), .val (.double (FP.dadd (4598175219545276416 : UInt64) (FP.ddiv (FP.dmul (4604930618986332160 : UInt64) (FP.i2d jl)) (FP.i2d ja)))), .second, .val (.int (1 : Int32)), .unset, .unset, .unset] [(.double (4598175219545276416 : UInt64)), (.double (FP.dadd (4598175219545276416 : UInt64) (FP.ddiv (FP.dmul (4604930618986332160 : UInt64) (FP.i2d jl)) (FP.i2d ja))))]))
            refine Go.st (fun _ => XS.dcmpS X4.here hx rfl (hb hby at_225) rfl rfl) ?_
            show Go p.tables e below P (T4.setTop (mkF m 226 #[.val (.int p0), .val (.int p1), .val (.int p2), .val (.int p3), .val (.int ja), .val (.int jl), .val (.double (FP.dadd (4598175219545276416 : UInt64) (FP.ddiv (FP.dmul (4604930618986332160 : UInt64) (FP.i2d jl)) (FP.i2d ja)))), .second, .val (.int (1 : Int32)), .unset, .unset, .unset] [(.int (cmpValue (FP.dcmp (FP.dadd (4598175219545276416 : UInt64) (FP.ddiv (FP.dmul (4604930618986332160 : UInt64) (FP.i2d jl)) (FP.i2d ja))) (4598175219545276416 : UInt64)) .l))]))
            have hb8 : ¬ ((cmpValue (FP.dcmp (FP.dadd (4598175219545276416 : UInt64) (FP.ddiv (FP.dmul (4604930618986332160 : UInt64) (FP.i2d jl)) (FP.i2d ja))) (4598175219545276416 : UInt64)) .l) < (0 : Int32)) := by have := own_cmpge hB.2.1 own_f25 (hB.2.2.2.2.2 (own_i_nn (by assumption))) .l; exact Int32.not_lt.mpr this
            refine Go.st (fun _ => XS.ifNo X4.here hx rfl (hb hby at_226) rfl ((if0 _ _).trans (flt hb8).1)) ?_
            show Go p.tables e below P (T4.setTop (mkF m 229 #[.val (.int p0), .val (.int p1), .val (.int p2), .val (.int p3), .val (.int ja), .val (.int jl), .val (.double (FP.dadd (4598175219545276416 : UInt64) (FP.ddiv (FP.dmul (4604930618986332160 : UInt64) (FP.i2d jl)) (FP.i2d ja)))), .second, .val (.int (1 : Int32)), .unset, .unset, .unset] []))
            refine Go.st (fun _ => XS.iconst X4.here hx rfl (hb hby at_229)) ?_
            show Go p.tables e below P (T4.setTop (mkF m 230 #[.val (.int p0), .val (.int p1), .val (.int p2), .val (.int p3), .val (.int ja), .val (.int jl), .val (.double (FP.dadd (4598175219545276416 : UInt64) (FP.ddiv (FP.dmul (4604930618986332160 : UInt64) (FP.i2d jl)) (FP.i2d ja)))), .second, .val (.int (1 : Int32)), .unset, .unset, .unset] [(.int (1 : Int32))]))
            refine Go.st (fun _ => XS.goto X4.here hx rfl (pc0 := 230) (pc' := 234) rfl (hb hby at_230) (by decide) (by decide)) ?_
            show Go p.tables e below P (T4.setTop (mkF m 234 #[.val (.int p0), .val (.int p1), .val (.int p2), .val (.int p3), .val (.int ja), .val (.int jl), .val (.double (FP.dadd (4598175219545276416 : UInt64) (FP.ddiv (FP.dmul (4604930618986332160 : UInt64) (FP.i2d jl)) (FP.i2d ja)))), .second, .val (.int (1 : Int32)), .unset, .unset, .unset] [(.int (1 : Int32))]))
            refine Go.st (fun _ => XS.istore X4.here hx rfl (hb hby at_234) rfl (l' := #[.val (.int p0), .val (.int p1), .val (.int p2), .val (.int p3), .val (.int ja), .val (.int jl), .val (.double (FP.dadd (4598175219545276416 : UInt64) (FP.ddiv (FP.dmul (4604930618986332160 : UInt64) (FP.i2d jl)) (FP.i2d ja)))), .second, .val (.int (1 : Int32)), .val (.int (1 : Int32)), .unset, .unset]) rfl) ?_
            show Go p.tables e below P (T4.setTop (mkF m 236 #[.val (.int p0), .val (.int p1), .val (.int p2), .val (.int p3), .val (.int ja), .val (.int jl), .val (.double (FP.dadd (4598175219545276416 : UInt64) (FP.ddiv (FP.dmul (4604930618986332160 : UInt64) (FP.i2d jl)) (FP.i2d ja)))), .second, .val (.int (1 : Int32)), .val (.int (1 : Int32)), .unset, .unset] []))
            refine Go.st (fun _ => XS.iload X4.here hx rfl (hb hby at_236) rfl) ?_
            show Go p.tables e below P (T4.setTop (mkF m 238 #[.val (.int p0), .val (.int p1), .val (.int p2), .val (.int p3), .val (.int ja), .val (.int jl), .val (.double (FP.dadd (4598175219545276416 : UInt64) (FP.ddiv (FP.dmul (4604930618986332160 : UInt64) (FP.i2d jl)) (FP.i2d ja)))), .second, .val (.int (1 : Int32)), .val (.int (1 : Int32)), .unset, .unset] [(.int (1 : Int32))]))
            refine Go.st (fun _ => XS.ifNo X4.here hx rfl (hb hby at_238) rfl ((if0 _ _).trans (feq (by decide)).1)) ?_
            show Go p.tables e below P (T4.setTop (mkF m 241 #[.val (.int p0), .val (.int p1), .val (.int p2), .val (.int p3), .val (.int ja), .val (.int jl), .val (.double (FP.dadd (4598175219545276416 : UInt64) (FP.ddiv (FP.dmul (4604930618986332160 : UInt64) (FP.i2d jl)) (FP.i2d ja)))), .second, .val (.int (1 : Int32)), .val (.int (1 : Int32)), .unset, .unset] []))
            refine Go.st (fun _ => XS.iload X4.here hx rfl (hb hby at_241) rfl) ?_
            show Go p.tables e below P (T4.setTop (mkF m 243 #[.val (.int p0), .val (.int p1), .val (.int p2), .val (.int p3), .val (.int ja), .val (.int jl), .val (.double (FP.dadd (4598175219545276416 : UInt64) (FP.ddiv (FP.dmul (4604930618986332160 : UInt64) (FP.i2d jl)) (FP.i2d ja)))), .second, .val (.int (1 : Int32)), .val (.int (1 : Int32)), .unset, .unset] [(.int (1 : Int32))]))
            refine Go.st (fun _ => XS.ifNo X4.here hx rfl (hb hby at_243) rfl ((if0 _ _).trans (feq (by decide)).1)) ?_
            show Go p.tables e below P (T4.setTop (mkF m 246 #[.val (.int p0), .val (.int p1), .val (.int p2), .val (.int p3), .val (.int ja), .val (.int jl), .val (.double (FP.dadd (4598175219545276416 : UInt64) (FP.ddiv (FP.dmul (4604930618986332160 : UInt64) (FP.i2d jl)) (FP.i2d ja)))), .second, .val (.int (1 : Int32)), .val (.int (1 : Int32)), .unset, .unset] []))
            refine Go.st (fun _ => XS.iconst X4.here hx rfl (hb hby at_246)) ?_
            show Go p.tables e below P (T4.setTop (mkF m 247 #[.val (.int p0), .val (.int p1), .val (.int p2), .val (.int p3), .val (.int ja), .val (.int jl), .val (.double (FP.dadd (4598175219545276416 : UInt64) (FP.ddiv (FP.dmul (4604930618986332160 : UInt64) (FP.i2d jl)) (FP.i2d ja)))), .second, .val (.int (1 : Int32)), .val (.int (1 : Int32)), .unset, .unset] [(.int (1 : Int32))]))
            refine Go.st (fun _ => XS.goto X4.here hx rfl (pc0 := 247) (pc' := 251) rfl (hb hby at_247) (by decide) (by decide)) ?_
            show Go p.tables e below P (T4.setTop (mkF m 251 #[.val (.int p0), .val (.int p1), .val (.int p2), .val (.int p3), .val (.int ja), .val (.int jl), .val (.double (FP.dadd (4598175219545276416 : UInt64) (FP.ddiv (FP.dmul (4604930618986332160 : UInt64) (FP.i2d jl)) (FP.i2d ja)))), .second, .val (.int (1 : Int32)), .val (.int (1 : Int32)), .unset, .unset] [(.int (1 : Int32))]))
            obtain ⟨fs, hr, hrun, hended, hW, hsame⟩ := X4.leave (v := some (.int (1 : Int32))) (fun h => by rw [Bd.returns] at h; cases h)
            refine ⟨_, ?_, hPend _ _ hrun hended ⟨_, _, rfl, ?_, ⟨_, rfl⟩, hW, hsame.mono (by decide) (by decide)⟩⟩
            · exact retN X4 hx (t := .boolean) Bd.returns (by simp) (hb hby at_251) hr
            · show Q_rm_law Z _ _ _ _ h0 n0 _ T4.heap _
              rw [e4]
              exact ⟨rfl, N4, rfl⟩
        · skip
          refine Go.st (fun _ => XS.icmpYes X4.here hx rfl (pc0 := 157) (pc' := 177) rfl (hb hby at_157) rfl (flt hc5).2.2.2 (by decide) (by decide)) ?_
          show Go p.tables e below P (T4.setTop (mkF m 177 #[.val (.int p0), .val (.int p1), .val (.int p2), .val (.int p3), .val (.int ja), .val (.int jl), .val (.double (FP.dadd (4598175219545276416 : UInt64) (FP.ddiv (FP.dmul (4604930618986332160 : UInt64) (FP.i2d jl)) (FP.i2d ja)))), .second, .unset, .unset, .unset, .unset] []))
          refine Go.st (fun _ => XS.iload X4.here hx rfl (hb hby at_177) rfl) ?_
          show Go p.tables e below P (T4.setTop (mkF m 179 #[.val (.int p0), .val (.int p1), .val (.int p2), .val (.int p3), .val (.int ja), .val (.int jl), .val (.double (FP.dadd (4598175219545276416 : UInt64) (FP.ddiv (FP.dmul (4604930618986332160 : UInt64) (FP.i2d jl)) (FP.i2d ja)))), .second, .unset, .unset, .unset, .unset] [(.int jl)]))
          refine Go.st (fun _ => XS.iload X4.here hx rfl (hb hby at_179) rfl) ?_
          show Go p.tables e below P (T4.setTop (mkF m 181 #[.val (.int p0), .val (.int p1), .val (.int p2), .val (.int p3), .val (.int ja), .val (.int jl), .val (.double (FP.dadd (4598175219545276416 : UInt64) (FP.ddiv (FP.dmul (4604930618986332160 : UInt64) (FP.i2d jl)) (FP.i2d ja)))), .second, .unset, .unset, .unset, .unset] [(.int ja), (.int jl)]))
          by_cases hc9 : jl < ja
          · skip
            refine Go.st (fun _ => XS.icmpNo X4.here hx rfl (hb hby at_181) rfl (tlt hc9).2.1) ?_
            show Go p.tables e below P (T4.setTop (mkF m 184 #[.val (.int p0), .val (.int p1), .val (.int p2), .val (.int p3), .val (.int ja), .val (.int jl), .val (.double (FP.dadd (4598175219545276416 : UInt64) (FP.ddiv (FP.dmul (4604930618986332160 : UInt64) (FP.i2d jl)) (FP.i2d ja)))), .second, .unset, .unset, .unset, .unset] []))
            refine Go.st (fun _ => XS.dload X4.here hx rfl (hb hby at_184) rfl) ?_
            show Go p.tables e below P (T4.setTop (mkF m 186 #[.val (.int p0), .val (.int p1), .val (.int p2), .val (.int p3), .val (.int ja), .val (.int jl), .val (.double (FP.dadd (4598175219545276416 : UInt64) (FP.ddiv (FP.dmul (4604930618986332160 : UInt64) (FP.i2d jl)) (FP.i2d ja)))), .second, .unset, .unset, .unset, .unset] [(.double (FP.dadd (4598175219545276416 : UInt64) (FP.ddiv (FP.dmul (4604930618986332160 : UInt64) (FP.i2d jl)) (FP.i2d ja))))]))
            refine Go.st (fun _ => XS.dconst1 X4.here hx rfl (hb hby at_186) rfl) ?_
            show Go p.tables e below P (T4.setTop (mkF m 187 #[.val (.int p0), .val (.int p1), .val (.int p2), .val (.int p3), .val (.int ja), .val (.int jl), .val (.double (FP.dadd (4598175219545276416 : UInt64) (FP.ddiv (FP.dmul (4604930618986332160 : UInt64) (FP.i2d jl)) (FP.i2d ja)))), .second, .unset, .unset, .unset, .unset] [(.double FP.dconst1), (.double (FP.dadd (4598175219545276416 : UInt64) (FP.ddiv (FP.dmul (4604930618986332160 : UInt64) (FP.i2d jl)) (FP.i2d ja))))]))
            refine Go.st (fun _ => XS.dcmpS X4.here hx rfl (hb hby at_187) rfl rfl) ?_
            show Go p.tables e below P (T4.setTop (mkF m 188 #[.val (.int p0), .val (.int p1), .val (.int p2), .val (.int p3), .val (.int ja), .val (.int jl), .val (.double (FP.dadd (4598175219545276416 : UInt64) (FP.ddiv (FP.dmul (4604930618986332160 : UInt64) (FP.i2d jl)) (FP.i2d ja)))), .second, .unset, .unset, .unset, .unset] [(.int (cmpValue (FP.dcmp (FP.dadd (4598175219545276416 : UInt64) (FP.ddiv (FP.dmul (4604930618986332160 : UInt64) (FP.i2d jl)) (FP.i2d ja))) FP.dconst1) .g))]))
            have hb10 : (cmpValue (FP.dcmp (FP.dadd (4598175219545276416 : UInt64) (FP.ddiv (FP.dmul (4604930618986332160 : UInt64) (FP.i2d jl)) (FP.i2d ja))) FP.dconst1) .g) < (0 : Int32) := by rw [own_cmplt hB.2.1 own_f1 (hB.2.2.2.1 (Int32.lt_iff_toInt_lt.mp (by assumption)))]; decide
            refine Go.st (fun _ => XS.ifNo X4.here hx rfl (hb hby at_188) rfl ((if0 _ _).trans (tlt hb10).2.1)) ?_
            show Go p.tables e below P (T4.setTop (mkF m 191 #[.val (.int p0), .val (.int p1), .val (.int p2), .val (.int p3), .val (.int ja), .val (.int jl), .val (.double (FP.dadd (4598175219545276416 : UInt64) (FP.ddiv (FP.dmul (4604930618986332160 : UInt64) (FP.i2d jl)) (FP.i2d ja)))), .second, .unset, .unset, .unset, .unset] []))
            refine Go.st (fun _ => XS.iconst X4.here hx rfl (hb hby at_191)) ?_
            show Go p.tables e below P (T4.setTop (mkF m 192 #[.val (.int p0), .val (.int p1), .val (.int p2), .val (.int p3), .val (.int ja), .val (.int jl), .val (.double (FP.dadd (4598175219545276416 : UInt64) (FP.ddiv (FP.dmul (4604930618986332160 : UInt64) (FP.i2d jl)) (FP.i2d ja)))), .second, .unset, .unset, .unset, .unset] [(.int (1 : Int32))]))
            refine Go.st (fun _ => XS.goto X4.here hx rfl (pc0 := 192) (pc' := 196) rfl (hb hby at_192) (by decide) (by decide)) ?_
            show Go p.tables e below P (T4.setTop (mkF m 196 #[.val (.int p0), .val (.int p1), .val (.int p2), .val (.int p3), .val (.int ja), .val (.int jl), .val (.double (FP.dadd (4598175219545276416 : UInt64) (FP.ddiv (FP.dmul (4604930618986332160 : UInt64) (FP.i2d jl)) (FP.i2d ja)))), .second, .unset, .unset, .unset, .unset] [(.int (1 : Int32))]))
            refine Go.st (fun _ => XS.istore X4.here hx rfl (hb hby at_196) rfl (l' := #[.val (.int p0), .val (.int p1), .val (.int p2), .val (.int p3), .val (.int ja), .val (.int jl), .val (.double (FP.dadd (4598175219545276416 : UInt64) (FP.ddiv (FP.dmul (4604930618986332160 : UInt64) (FP.i2d jl)) (FP.i2d ja)))), .second, .val (.int (1 : Int32)), .unset, .unset, .unset]) rfl) ?_
            show Go p.tables e below P (T4.setTop (mkF m 198 #[.val (.int p0), .val (.int p1), .val (.int p2), .val (.int p3), .val (.int ja), .val (.int jl), .val (.double (FP.dadd (4598175219545276416 : UInt64) (FP.ddiv (FP.dmul (4604930618986332160 : UInt64) (FP.i2d jl)) (FP.i2d ja)))), .second, .val (.int (1 : Int32)), .unset, .unset, .unset] []))
            refine Go.st (fun _ => XS.goto X4.here hx rfl (pc0 := 198) (pc' := 215) rfl (hb hby at_198) (by decide) (by decide)) ?_
            show Go p.tables e below P (T4.setTop (mkF m 215 #[.val (.int p0), .val (.int p1), .val (.int p2), .val (.int p3), .val (.int ja), .val (.int jl), .val (.double (FP.dadd (4598175219545276416 : UInt64) (FP.ddiv (FP.dmul (4604930618986332160 : UInt64) (FP.i2d jl)) (FP.i2d ja)))), .second, .val (.int (1 : Int32)), .unset, .unset, .unset] []))
            refine Go.st (fun _ => XS.iload X4.here hx rfl (hb hby at_215) rfl) ?_
            show Go p.tables e below P (T4.setTop (mkF m 217 #[.val (.int p0), .val (.int p1), .val (.int p2), .val (.int p3), .val (.int ja), .val (.int jl), .val (.double (FP.dadd (4598175219545276416 : UInt64) (FP.ddiv (FP.dmul (4604930618986332160 : UInt64) (FP.i2d jl)) (FP.i2d ja)))), .second, .val (.int (1 : Int32)), .unset, .unset, .unset] [(.int jl)]))
            by_cases hc11 : jl < (0 : Int32)
            · skip
              refine Go.st (fun _ => XS.ifYes X4.here hx rfl (pc0 := 217) (pc' := 229) rfl (hb hby at_217) rfl ((if0 _ _).trans (tlt hc11).1) (by decide) (by decide)) ?_
              show Go p.tables e below P (T4.setTop (mkF m 229 #[.val (.int p0), .val (.int p1), .val (.int p2), .val (.int p3), .val (.int ja), .val (.int jl), .val (.double (FP.dadd (4598175219545276416 : UInt64) (FP.ddiv (FP.dmul (4604930618986332160 : UInt64) (FP.i2d jl)) (FP.i2d ja)))), .second, .val (.int (1 : Int32)), .unset, .unset, .unset] []))
              refine Go.st (fun _ => XS.iconst X4.here hx rfl (hb hby at_229)) ?_
              show Go p.tables e below P (T4.setTop (mkF m 230 #[.val (.int p0), .val (.int p1), .val (.int p2), .val (.int p3), .val (.int ja), .val (.int jl), .val (.double (FP.dadd (4598175219545276416 : UInt64) (FP.ddiv (FP.dmul (4604930618986332160 : UInt64) (FP.i2d jl)) (FP.i2d ja)))), .second, .val (.int (1 : Int32)), .unset, .unset, .unset] [(.int (1 : Int32))]))
              refine Go.st (fun _ => XS.goto X4.here hx rfl (pc0 := 230) (pc' := 234) rfl (hb hby at_230) (by decide) (by decide)) ?_
              show Go p.tables e below P (T4.setTop (mkF m 234 #[.val (.int p0), .val (.int p1), .val (.int p2), .val (.int p3), .val (.int ja), .val (.int jl), .val (.double (FP.dadd (4598175219545276416 : UInt64) (FP.ddiv (FP.dmul (4604930618986332160 : UInt64) (FP.i2d jl)) (FP.i2d ja)))), .second, .val (.int (1 : Int32)), .unset, .unset, .unset] [(.int (1 : Int32))]))
              refine Go.st (fun _ => XS.istore X4.here hx rfl (hb hby at_234) rfl (l' := #[.val (.int p0), .val (.int p1), .val (.int p2), .val (.int p3), .val (.int ja), .val (.int jl), .val (.double (FP.dadd (4598175219545276416 : UInt64) (FP.ddiv (FP.dmul (4604930618986332160 : UInt64) (FP.i2d jl)) (FP.i2d ja)))), .second, .val (.int (1 : Int32)), .val (.int (1 : Int32)), .unset, .unset]) rfl) ?_
              show Go p.tables e below P (T4.setTop (mkF m 236 #[.val (.int p0), .val (.int p1), .val (.int p2), .val (.int p3), .val (.int ja), .val (.int jl), .val (.double (FP.dadd (4598175219545276416 : UInt64) (FP.ddiv (FP.dmul (4604930618986332160 : UInt64) (FP.i2d jl)) (FP.i2d ja)))), .second, .val (.int (1 : Int32)), .val (.int (1 : Int32)), .unset, .unset] []))
              refine Go.st (fun _ => XS.iload X4.here hx rfl (hb hby at_236) rfl) ?_
              show Go p.tables e below P (T4.setTop (mkF m 238 #[.val (.int p0), .val (.int p1), .val (.int p2), .val (.int p3), .val (.int ja), .val (.int jl), .val (.double (FP.dadd (4598175219545276416 : UInt64) (FP.ddiv (FP.dmul (4604930618986332160 : UInt64) (FP.i2d jl)) (FP.i2d ja)))), .second, .val (.int (1 : Int32)), .val (.int (1 : Int32)), .unset, .unset] [(.int (1 : Int32))]))
              refine Go.st (fun _ => XS.ifNo X4.here hx rfl (hb hby at_238) rfl ((if0 _ _).trans (feq (by decide)).1)) ?_
              show Go p.tables e below P (T4.setTop (mkF m 241 #[.val (.int p0), .val (.int p1), .val (.int p2), .val (.int p3), .val (.int ja), .val (.int jl), .val (.double (FP.dadd (4598175219545276416 : UInt64) (FP.ddiv (FP.dmul (4604930618986332160 : UInt64) (FP.i2d jl)) (FP.i2d ja)))), .second, .val (.int (1 : Int32)), .val (.int (1 : Int32)), .unset, .unset] []))
              refine Go.st (fun _ => XS.iload X4.here hx rfl (hb hby at_241) rfl) ?_
              show Go p.tables e below P (T4.setTop (mkF m 243 #[.val (.int p0), .val (.int p1), .val (.int p2), .val (.int p3), .val (.int ja), .val (.int jl), .val (.double (FP.dadd (4598175219545276416 : UInt64) (FP.ddiv (FP.dmul (4604930618986332160 : UInt64) (FP.i2d jl)) (FP.i2d ja)))), .second, .val (.int (1 : Int32)), .val (.int (1 : Int32)), .unset, .unset] [(.int (1 : Int32))]))
              refine Go.st (fun _ => XS.ifNo X4.here hx rfl (hb hby at_243) rfl ((if0 _ _).trans (feq (by decide)).1)) ?_
              show Go p.tables e below P (T4.setTop (mkF m 246 #[.val (.int p0), .val (.int p1), .val (.int p2), .val (.int p3), .val (.int ja), .val (.int jl), .val (.double (FP.dadd (4598175219545276416 : UInt64) (FP.ddiv (FP.dmul (4604930618986332160 : UInt64) (FP.i2d jl)) (FP.i2d ja)))), .second, .val (.int (1 : Int32)), .val (.int (1 : Int32)), .unset, .unset] []))
              refine Go.st (fun _ => XS.iconst X4.here hx rfl (hb hby at_246)) ?_
              show Go p.tables e below P (T4.setTop (mkF m 247 #[.val (.int p0), .val (.int p1), .val (.int p2), .val (.int p3), .val (.int ja), .val (.int jl), .val (.double (FP.dadd (4598175219545276416 : UInt64) (FP.ddiv (FP.dmul (4604930618986332160 : UInt64) (FP.i2d jl)) (FP.i2d ja)))), .second, .val (.int (1 : Int32)), .val (.int (1 : Int32)), .unset, .unset] [(.int (1 : Int32))]))
              refine Go.st (fun _ => XS.goto X4.here hx rfl (pc0 := 247) (pc' := 251) rfl (hb hby at_247) (by decide) (by decide)) ?_
              show Go p.tables e below P (T4.setTop (mkF m 251 #[.val (.int p0), .val (.int p1), .val (.int p2), .val (.int p3), .val (.int ja), .val (.int jl), .val (.double (FP.dadd (4598175219545276416 : UInt64) (FP.ddiv (FP.dmul (4604930618986332160 : UInt64) (FP.i2d jl)) (FP.i2d ja)))), .second, .val (.int (1 : Int32)), .val (.int (1 : Int32)), .unset, .unset] [(.int (1 : Int32))]))
              obtain ⟨fs, hr, hrun, hended, hW, hsame⟩ := X4.leave (v := some (.int (1 : Int32))) (fun h => by rw [Bd.returns] at h; cases h)
              refine ⟨_, ?_, hPend _ _ hrun hended ⟨_, _, rfl, ?_, ⟨_, rfl⟩, hW, hsame.mono (by decide) (by decide)⟩⟩
              · exact retN X4 hx (t := .boolean) Bd.returns (by simp) (hb hby at_251) hr
              · show Q_rm_law Z _ _ _ _ h0 n0 _ T4.heap _
                rw [e4]
                exact ⟨rfl, N4, rfl⟩
            · skip
              refine Go.st (fun _ => XS.ifNo X4.here hx rfl (hb hby at_217) rfl ((if0 _ _).trans (flt hc11).1)) ?_
              show Go p.tables e below P (T4.setTop (mkF m 220 #[.val (.int p0), .val (.int p1), .val (.int p2), .val (.int p3), .val (.int ja), .val (.int jl), .val (.double (FP.dadd (4598175219545276416 : UInt64) (FP.ddiv (FP.dmul (4604930618986332160 : UInt64) (FP.i2d jl)) (FP.i2d ja)))), .second, .val (.int (1 : Int32)), .unset, .unset, .unset] []))
              refine Go.st (fun _ => XS.dload X4.here hx rfl (hb hby at_220) rfl) ?_
              show Go p.tables e below P (T4.setTop (mkF m 222 #[.val (.int p0), .val (.int p1), .val (.int p2), .val (.int p3), .val (.int ja), .val (.int jl), .val (.double (FP.dadd (4598175219545276416 : UInt64) (FP.ddiv (FP.dmul (4604930618986332160 : UInt64) (FP.i2d jl)) (FP.i2d ja)))), .second, .val (.int (1 : Int32)), .unset, .unset, .unset] [(.double (FP.dadd (4598175219545276416 : UInt64) (FP.ddiv (FP.dmul (4604930618986332160 : UInt64) (FP.i2d jl)) (FP.i2d ja))))]))
              refine Go.st (fun _ => X4.ldc2DoubleC hx hown (mvT hZ (hw _ (List.mem_of_getElem? (i := 9) rfl))) (g := (mkF m 222 #[.val (.int p0), .val (.int p1), .val (.int p2), .val (.int p3), .val (.int ja), .val (.int jl), .val (.double (FP.dadd (4598175219545276416 : UInt64) (FP.ddiv (FP.dmul (4604930618986332160 : UInt64) (FP.i2d jl)) (FP.i2d ja)))), .second, .val (.int (1 : Int32)), .unset, .unset, .unset] [(.double (FP.dadd (4598175219545276416 : UInt64) (FP.ddiv (FP.dmul (4604930618986332160 : UInt64) (FP.i2d jl)) (FP.i2d ja))))])) rfl (hb hby at_222) _) ?_
              show Go p.tables e below P (T4.setTop (mkF m 225 #[.val (.int p0), .val (.int p1), .val (.int p2), .val (.int p3), .val (.int ja), .val (.int jl), .val (.double (FP.dadd (4598175219545276416 : UInt64) (FP.ddiv (FP.dmul (4604930618986332160 : UInt64) (FP.i2d jl)) (FP.i2d ja)))), .second, .val (.int (1 : Int32)), .unset, .unset, .unset] [(.double (4598175219545276416 : UInt64)), (.double (FP.dadd (4598175219545276416 : UInt64) (FP.ddiv (FP.dmul (4604930618986332160 : UInt64) (FP.i2d jl)) (FP.i2d ja))))]))
              refine Go.st (fun _ => XS.dcmpS X4.here hx rfl (hb hby at_225) rfl rfl) ?_
              show Go p.tables e below P (T4.setTop (mkF m 226 #[.val (.int p0), .val (.int p1), .val (.int p2), .val (.int p3), .val (.int ja), .val (.int jl), .val (.double (FP.dadd (4598175219545276416 : UInt64) (FP.ddiv (FP.dmul (4604930618986332160 : UInt64) (FP.i2d jl)) (FP.i2d ja)))), .second, .val (.int (1 : Int32)), .unset, .unset, .unset] [(.int (cmpValue (FP.dcmp (FP.dadd (4598175219545276416 : UInt64) (FP.ddiv (FP.dmul (4604930618986332160 : UInt64) (FP.i2d jl)) (FP.i2d ja))) (4598175219545276416 : UInt64)) .l))]))
              have hb12 : ¬ ((cmpValue (FP.dcmp (FP.dadd (4598175219545276416 : UInt64) (FP.ddiv (FP.dmul (4604930618986332160 : UInt64) (FP.i2d jl)) (FP.i2d ja))) (4598175219545276416 : UInt64)) .l) < (0 : Int32)) := by have := own_cmpge hB.2.1 own_f25 (hB.2.2.2.2.2 (own_i_nn (by assumption))) .l; exact Int32.not_lt.mpr this
              refine Go.st (fun _ => XS.ifNo X4.here hx rfl (hb hby at_226) rfl ((if0 _ _).trans (flt hb12).1)) ?_
              show Go p.tables e below P (T4.setTop (mkF m 229 #[.val (.int p0), .val (.int p1), .val (.int p2), .val (.int p3), .val (.int ja), .val (.int jl), .val (.double (FP.dadd (4598175219545276416 : UInt64) (FP.ddiv (FP.dmul (4604930618986332160 : UInt64) (FP.i2d jl)) (FP.i2d ja)))), .second, .val (.int (1 : Int32)), .unset, .unset, .unset] []))
              refine Go.st (fun _ => XS.iconst X4.here hx rfl (hb hby at_229)) ?_
              show Go p.tables e below P (T4.setTop (mkF m 230 #[.val (.int p0), .val (.int p1), .val (.int p2), .val (.int p3), .val (.int ja), .val (.int jl), .val (.double (FP.dadd (4598175219545276416 : UInt64) (FP.ddiv (FP.dmul (4604930618986332160 : UInt64) (FP.i2d jl)) (FP.i2d ja)))), .second, .val (.int (1 : Int32)), .unset, .unset, .unset] [(.int (1 : Int32))]))
              refine Go.st (fun _ => XS.goto X4.here hx rfl (pc0 := 230) (pc' := 234) rfl (hb hby at_230) (by decide) (by decide)) ?_
              show Go p.tables e below P (T4.setTop (mkF m 234 #[.val (.int p0), .val (.int p1), .val (.int p2), .val (.int p3), .val (.int ja), .val (.int jl), .val (.double (FP.dadd (4598175219545276416 : UInt64) (FP.ddiv (FP.dmul (4604930618986332160 : UInt64) (FP.i2d jl)) (FP.i2d ja)))), .second, .val (.int (1 : Int32)), .unset, .unset, .unset] [(.int (1 : Int32))]))
              refine Go.st (fun _ => XS.istore X4.here hx rfl (hb hby at_234) rfl (l' := #[.val (.int p0), .val (.int p1), .val (.int p2), .val (.int p3), .val (.int ja), .val (.int jl), .val (.double (FP.dadd (4598175219545276416 : UInt64) (FP.ddiv (FP.dmul (4604930618986332160 : UInt64) (FP.i2d jl)) (FP.i2d ja)))), .second, .val (.int (1 : Int32)), .val (.int (1 : Int32)), .unset, .unset]) rfl) ?_
              show Go p.tables e below P (T4.setTop (mkF m 236 #[.val (.int p0), .val (.int p1), .val (.int p2), .val (.int p3), .val (.int ja), .val (.int jl), .val (.double (FP.dadd (4598175219545276416 : UInt64) (FP.ddiv (FP.dmul (4604930618986332160 : UInt64) (FP.i2d jl)) (FP.i2d ja)))), .second, .val (.int (1 : Int32)), .val (.int (1 : Int32)), .unset, .unset] []))
              refine Go.st (fun _ => XS.iload X4.here hx rfl (hb hby at_236) rfl) ?_
              show Go p.tables e below P (T4.setTop (mkF m 238 #[.val (.int p0), .val (.int p1), .val (.int p2), .val (.int p3), .val (.int ja), .val (.int jl), .val (.double (FP.dadd (4598175219545276416 : UInt64) (FP.ddiv (FP.dmul (4604930618986332160 : UInt64) (FP.i2d jl)) (FP.i2d ja)))), .second, .val (.int (1 : Int32)), .val (.int (1 : Int32)), .unset, .unset] [(.int (1 : Int32))]))
              refine Go.st (fun _ => XS.ifNo X4.here hx rfl (hb hby at_238) rfl ((if0 _ _).trans (feq (by decide)).1)) ?_
              show Go p.tables e below P (T4.setTop (mkF m 241 #[.val (.int p0), .val (.int p1), .val (.int p2), .val (.int p3), .val (.int ja), .val (.int jl), .val (.double (FP.dadd (4598175219545276416 : UInt64) (FP.ddiv (FP.dmul (4604930618986332160 : UInt64) (FP.i2d jl)) (FP.i2d ja)))), .second, .val (.int (1 : Int32)), .val (.int (1 : Int32)), .unset, .unset] []))
              refine Go.st (fun _ => XS.iload X4.here hx rfl (hb hby at_241) rfl) ?_
              show Go p.tables e below P (T4.setTop (mkF m 243 #[.val (.int p0), .val (.int p1), .val (.int p2), .val (.int p3), .val (.int ja), .val (.int jl), .val (.double (FP.dadd (4598175219545276416 : UInt64) (FP.ddiv (FP.dmul (4604930618986332160 : UInt64) (FP.i2d jl)) (FP.i2d ja)))), .second, .val (.int (1 : Int32)), .val (.int (1 : Int32)), .unset, .unset] [(.int (1 : Int32))]))
              refine Go.st (fun _ => XS.ifNo X4.here hx rfl (hb hby at_243) rfl ((if0 _ _).trans (feq (by decide)).1)) ?_
              show Go p.tables e below P (T4.setTop (mkF m 246 #[.val (.int p0), .val (.int p1), .val (.int p2), .val (.int p3), .val (.int ja), .val (.int jl), .val (.double (FP.dadd (4598175219545276416 : UInt64) (FP.ddiv (FP.dmul (4604930618986332160 : UInt64) (FP.i2d jl)) (FP.i2d ja)))), .second, .val (.int (1 : Int32)), .val (.int (1 : Int32)), .unset, .unset] []))
              refine Go.st (fun _ => XS.iconst X4.here hx rfl (hb hby at_246)) ?_
              show Go p.tables e below P (T4.setTop (mkF m 247 #[.val (.int p0), .val (.int p1), .val (.int p2), .val (.int p3), .val (.int ja), .val (.int jl), .val (.double (FP.dadd (4598175219545276416 : UInt64) (FP.ddiv (FP.dmul (4604930618986332160 : UInt64) (FP.i2d jl)) (FP.i2d ja)))), .second, .val (.int (1 : Int32)), .val (.int (1 : Int32)), .unset, .unset] [(.int (1 : Int32))]))
              refine Go.st (fun _ => XS.goto X4.here hx rfl (pc0 := 247) (pc' := 251) rfl (hb hby at_247) (by decide) (by decide)) ?_
              show Go p.tables e below P (T4.setTop (mkF m 251 #[.val (.int p0), .val (.int p1), .val (.int p2), .val (.int p3), .val (.int ja), .val (.int jl), .val (.double (FP.dadd (4598175219545276416 : UInt64) (FP.ddiv (FP.dmul (4604930618986332160 : UInt64) (FP.i2d jl)) (FP.i2d ja)))), .second, .val (.int (1 : Int32)), .val (.int (1 : Int32)), .unset, .unset] [(.int (1 : Int32))]))
              obtain ⟨fs, hr, hrun, hended, hW, hsame⟩ := X4.leave (v := some (.int (1 : Int32))) (fun h => by rw [Bd.returns] at h; cases h)
              refine ⟨_, ?_, hPend _ _ hrun hended ⟨_, _, rfl, ?_, ⟨_, rfl⟩, hW, hsame.mono (by decide) (by decide)⟩⟩
              · exact retN X4 hx (t := .boolean) Bd.returns (by simp) (hb hby at_251) hr
              · show Q_rm_law Z _ _ _ _ h0 n0 _ T4.heap _
                rw [e4]
                exact ⟨rfl, N4, rfl⟩
          · skip
            refine Go.st (fun _ => XS.icmpYes X4.here hx rfl (pc0 := 181) (pc' := 201) rfl (hb hby at_181) rfl (flt hc9).2.1 (by decide) (by decide)) ?_
            show Go p.tables e below P (T4.setTop (mkF m 201 #[.val (.int p0), .val (.int p1), .val (.int p2), .val (.int p3), .val (.int ja), .val (.int jl), .val (.double (FP.dadd (4598175219545276416 : UInt64) (FP.ddiv (FP.dmul (4604930618986332160 : UInt64) (FP.i2d jl)) (FP.i2d ja)))), .second, .unset, .unset, .unset, .unset] []))
            refine Go.st (fun _ => XS.dload X4.here hx rfl (hb hby at_201) rfl) ?_
            show Go p.tables e below P (T4.setTop (mkF m 203 #[.val (.int p0), .val (.int p1), .val (.int p2), .val (.int p3), .val (.int ja), .val (.int jl), .val (.double (FP.dadd (4598175219545276416 : UInt64) (FP.ddiv (FP.dmul (4604930618986332160 : UInt64) (FP.i2d jl)) (FP.i2d ja)))), .second, .unset, .unset, .unset, .unset] [(.double (FP.dadd (4598175219545276416 : UInt64) (FP.ddiv (FP.dmul (4604930618986332160 : UInt64) (FP.i2d jl)) (FP.i2d ja))))]))
            refine Go.st (fun _ => XS.dconst1 X4.here hx rfl (hb hby at_203) rfl) ?_
            show Go p.tables e below P (T4.setTop (mkF m 204 #[.val (.int p0), .val (.int p1), .val (.int p2), .val (.int p3), .val (.int ja), .val (.int jl), .val (.double (FP.dadd (4598175219545276416 : UInt64) (FP.ddiv (FP.dmul (4604930618986332160 : UInt64) (FP.i2d jl)) (FP.i2d ja)))), .second, .unset, .unset, .unset, .unset] [(.double FP.dconst1), (.double (FP.dadd (4598175219545276416 : UInt64) (FP.ddiv (FP.dmul (4604930618986332160 : UInt64) (FP.i2d jl)) (FP.i2d ja))))]))
            refine Go.st (fun _ => XS.dcmpS X4.here hx rfl (hb hby at_204) rfl rfl) ?_
            show Go p.tables e below P (T4.setTop (mkF m 205 #[.val (.int p0), .val (.int p1), .val (.int p2), .val (.int p3), .val (.int ja), .val (.int jl), .val (.double (FP.dadd (4598175219545276416 : UInt64) (FP.ddiv (FP.dmul (4604930618986332160 : UInt64) (FP.i2d jl)) (FP.i2d ja)))), .second, .unset, .unset, .unset, .unset] [(.int (cmpValue (FP.dcmp (FP.dadd (4598175219545276416 : UInt64) (FP.ddiv (FP.dmul (4604930618986332160 : UInt64) (FP.i2d jl)) (FP.i2d ja))) FP.dconst1) .l))]))
            have hb13 : (cmpValue (FP.dcmp (FP.dadd (4598175219545276416 : UInt64) (FP.ddiv (FP.dmul (4604930618986332160 : UInt64) (FP.i2d jl)) (FP.i2d ja))) FP.dconst1) .l) = (0 : Int32) := own_cmpeq hB.2.1 own_f1 (hB.2.2.2.2.1 (own_i_eq (by assumption) (by assumption))) _
            refine Go.st (fun _ => XS.ifNo X4.here hx rfl (hb hby at_205) rfl ((if0 _ _).trans (teq hb13).2)) ?_
            show Go p.tables e below P (T4.setTop (mkF m 208 #[.val (.int p0), .val (.int p1), .val (.int p2), .val (.int p3), .val (.int ja), .val (.int jl), .val (.double (FP.dadd (4598175219545276416 : UInt64) (FP.ddiv (FP.dmul (4604930618986332160 : UInt64) (FP.i2d jl)) (FP.i2d ja)))), .second, .unset, .unset, .unset, .unset] []))
            refine Go.st (fun _ => XS.iconst X4.here hx rfl (hb hby at_208)) ?_
            show Go p.tables e below P (T4.setTop (mkF m 209 #[.val (.int p0), .val (.int p1), .val (.int p2), .val (.int p3), .val (.int ja), .val (.int jl), .val (.double (FP.dadd (4598175219545276416 : UInt64) (FP.ddiv (FP.dmul (4604930618986332160 : UInt64) (FP.i2d jl)) (FP.i2d ja)))), .second, .unset, .unset, .unset, .unset] [(.int (1 : Int32))]))
            refine Go.st (fun _ => XS.goto X4.here hx rfl (pc0 := 209) (pc' := 213) rfl (hb hby at_209) (by decide) (by decide)) ?_
            show Go p.tables e below P (T4.setTop (mkF m 213 #[.val (.int p0), .val (.int p1), .val (.int p2), .val (.int p3), .val (.int ja), .val (.int jl), .val (.double (FP.dadd (4598175219545276416 : UInt64) (FP.ddiv (FP.dmul (4604930618986332160 : UInt64) (FP.i2d jl)) (FP.i2d ja)))), .second, .unset, .unset, .unset, .unset] [(.int (1 : Int32))]))
            refine Go.st (fun _ => XS.istore X4.here hx rfl (hb hby at_213) rfl (l' := #[.val (.int p0), .val (.int p1), .val (.int p2), .val (.int p3), .val (.int ja), .val (.int jl), .val (.double (FP.dadd (4598175219545276416 : UInt64) (FP.ddiv (FP.dmul (4604930618986332160 : UInt64) (FP.i2d jl)) (FP.i2d ja)))), .second, .val (.int (1 : Int32)), .unset, .unset, .unset]) rfl) ?_
            show Go p.tables e below P (T4.setTop (mkF m 215 #[.val (.int p0), .val (.int p1), .val (.int p2), .val (.int p3), .val (.int ja), .val (.int jl), .val (.double (FP.dadd (4598175219545276416 : UInt64) (FP.ddiv (FP.dmul (4604930618986332160 : UInt64) (FP.i2d jl)) (FP.i2d ja)))), .second, .val (.int (1 : Int32)), .unset, .unset, .unset] []))
            refine Go.st (fun _ => XS.iload X4.here hx rfl (hb hby at_215) rfl) ?_
            show Go p.tables e below P (T4.setTop (mkF m 217 #[.val (.int p0), .val (.int p1), .val (.int p2), .val (.int p3), .val (.int ja), .val (.int jl), .val (.double (FP.dadd (4598175219545276416 : UInt64) (FP.ddiv (FP.dmul (4604930618986332160 : UInt64) (FP.i2d jl)) (FP.i2d ja)))), .second, .val (.int (1 : Int32)), .unset, .unset, .unset] [(.int jl)]))
            by_cases hc14 : jl < (0 : Int32)
            · skip
              refine Go.st (fun _ => XS.ifYes X4.here hx rfl (pc0 := 217) (pc' := 229) rfl (hb hby at_217) rfl ((if0 _ _).trans (tlt hc14).1) (by decide) (by decide)) ?_
              show Go p.tables e below P (T4.setTop (mkF m 229 #[.val (.int p0), .val (.int p1), .val (.int p2), .val (.int p3), .val (.int ja), .val (.int jl), .val (.double (FP.dadd (4598175219545276416 : UInt64) (FP.ddiv (FP.dmul (4604930618986332160 : UInt64) (FP.i2d jl)) (FP.i2d ja)))), .second, .val (.int (1 : Int32)), .unset, .unset, .unset] []))
              refine Go.st (fun _ => XS.iconst X4.here hx rfl (hb hby at_229)) ?_
              show Go p.tables e below P (T4.setTop (mkF m 230 #[.val (.int p0), .val (.int p1), .val (.int p2), .val (.int p3), .val (.int ja), .val (.int jl), .val (.double (FP.dadd (4598175219545276416 : UInt64) (FP.ddiv (FP.dmul (4604930618986332160 : UInt64) (FP.i2d jl)) (FP.i2d ja)))), .second, .val (.int (1 : Int32)), .unset, .unset, .unset] [(.int (1 : Int32))]))
              refine Go.st (fun _ => XS.goto X4.here hx rfl (pc0 := 230) (pc' := 234) rfl (hb hby at_230) (by decide) (by decide)) ?_
              show Go p.tables e below P (T4.setTop (mkF m 234 #[.val (.int p0), .val (.int p1), .val (.int p2), .val (.int p3), .val (.int ja), .val (.int jl), .val (.double (FP.dadd (4598175219545276416 : UInt64) (FP.ddiv (FP.dmul (4604930618986332160 : UInt64) (FP.i2d jl)) (FP.i2d ja)))), .second, .val (.int (1 : Int32)), .unset, .unset, .unset] [(.int (1 : Int32))]))
              refine Go.st (fun _ => XS.istore X4.here hx rfl (hb hby at_234) rfl (l' := #[.val (.int p0), .val (.int p1), .val (.int p2), .val (.int p3), .val (.int ja), .val (.int jl), .val (.double (FP.dadd (4598175219545276416 : UInt64) (FP.ddiv (FP.dmul (4604930618986332160 : UInt64) (FP.i2d jl)) (FP.i2d ja)))), .second, .val (.int (1 : Int32)), .val (.int (1 : Int32)), .unset, .unset]) rfl) ?_
              show Go p.tables e below P (T4.setTop (mkF m 236 #[.val (.int p0), .val (.int p1), .val (.int p2), .val (.int p3), .val (.int ja), .val (.int jl), .val (.double (FP.dadd (4598175219545276416 : UInt64) (FP.ddiv (FP.dmul (4604930618986332160 : UInt64) (FP.i2d jl)) (FP.i2d ja)))), .second, .val (.int (1 : Int32)), .val (.int (1 : Int32)), .unset, .unset] []))
              refine Go.st (fun _ => XS.iload X4.here hx rfl (hb hby at_236) rfl) ?_
              show Go p.tables e below P (T4.setTop (mkF m 238 #[.val (.int p0), .val (.int p1), .val (.int p2), .val (.int p3), .val (.int ja), .val (.int jl), .val (.double (FP.dadd (4598175219545276416 : UInt64) (FP.ddiv (FP.dmul (4604930618986332160 : UInt64) (FP.i2d jl)) (FP.i2d ja)))), .second, .val (.int (1 : Int32)), .val (.int (1 : Int32)), .unset, .unset] [(.int (1 : Int32))]))
              refine Go.st (fun _ => XS.ifNo X4.here hx rfl (hb hby at_238) rfl ((if0 _ _).trans (feq (by decide)).1)) ?_
              show Go p.tables e below P (T4.setTop (mkF m 241 #[.val (.int p0), .val (.int p1), .val (.int p2), .val (.int p3), .val (.int ja), .val (.int jl), .val (.double (FP.dadd (4598175219545276416 : UInt64) (FP.ddiv (FP.dmul (4604930618986332160 : UInt64) (FP.i2d jl)) (FP.i2d ja)))), .second, .val (.int (1 : Int32)), .val (.int (1 : Int32)), .unset, .unset] []))
              refine Go.st (fun _ => XS.iload X4.here hx rfl (hb hby at_241) rfl) ?_
              show Go p.tables e below P (T4.setTop (mkF m 243 #[.val (.int p0), .val (.int p1), .val (.int p2), .val (.int p3), .val (.int ja), .val (.int jl), .val (.double (FP.dadd (4598175219545276416 : UInt64) (FP.ddiv (FP.dmul (4604930618986332160 : UInt64) (FP.i2d jl)) (FP.i2d ja)))), .second, .val (.int (1 : Int32)), .val (.int (1 : Int32)), .unset, .unset] [(.int (1 : Int32))]))
              refine Go.st (fun _ => XS.ifNo X4.here hx rfl (hb hby at_243) rfl ((if0 _ _).trans (feq (by decide)).1)) ?_
              show Go p.tables e below P (T4.setTop (mkF m 246 #[.val (.int p0), .val (.int p1), .val (.int p2), .val (.int p3), .val (.int ja), .val (.int jl), .val (.double (FP.dadd (4598175219545276416 : UInt64) (FP.ddiv (FP.dmul (4604930618986332160 : UInt64) (FP.i2d jl)) (FP.i2d ja)))), .second, .val (.int (1 : Int32)), .val (.int (1 : Int32)), .unset, .unset] []))
              refine Go.st (fun _ => XS.iconst X4.here hx rfl (hb hby at_246)) ?_
              show Go p.tables e below P (T4.setTop (mkF m 247 #[.val (.int p0), .val (.int p1), .val (.int p2), .val (.int p3), .val (.int ja), .val (.int jl), .val (.double (FP.dadd (4598175219545276416 : UInt64) (FP.ddiv (FP.dmul (4604930618986332160 : UInt64) (FP.i2d jl)) (FP.i2d ja)))), .second, .val (.int (1 : Int32)), .val (.int (1 : Int32)), .unset, .unset] [(.int (1 : Int32))]))
              refine Go.st (fun _ => XS.goto X4.here hx rfl (pc0 := 247) (pc' := 251) rfl (hb hby at_247) (by decide) (by decide)) ?_
              show Go p.tables e below P (T4.setTop (mkF m 251 #[.val (.int p0), .val (.int p1), .val (.int p2), .val (.int p3), .val (.int ja), .val (.int jl), .val (.double (FP.dadd (4598175219545276416 : UInt64) (FP.ddiv (FP.dmul (4604930618986332160 : UInt64) (FP.i2d jl)) (FP.i2d ja)))), .second, .val (.int (1 : Int32)), .val (.int (1 : Int32)), .unset, .unset] [(.int (1 : Int32))]))
              obtain ⟨fs, hr, hrun, hended, hW, hsame⟩ := X4.leave (v := some (.int (1 : Int32))) (fun h => by rw [Bd.returns] at h; cases h)
              refine ⟨_, ?_, hPend _ _ hrun hended ⟨_, _, rfl, ?_, ⟨_, rfl⟩, hW, hsame.mono (by decide) (by decide)⟩⟩
              · exact retN X4 hx (t := .boolean) Bd.returns (by simp) (hb hby at_251) hr
              · show Q_rm_law Z _ _ _ _ h0 n0 _ T4.heap _
                rw [e4]
                exact ⟨rfl, N4, rfl⟩
            · skip
              refine Go.st (fun _ => XS.ifNo X4.here hx rfl (hb hby at_217) rfl ((if0 _ _).trans (flt hc14).1)) ?_
              show Go p.tables e below P (T4.setTop (mkF m 220 #[.val (.int p0), .val (.int p1), .val (.int p2), .val (.int p3), .val (.int ja), .val (.int jl), .val (.double (FP.dadd (4598175219545276416 : UInt64) (FP.ddiv (FP.dmul (4604930618986332160 : UInt64) (FP.i2d jl)) (FP.i2d ja)))), .second, .val (.int (1 : Int32)), .unset, .unset, .unset] []))
              refine Go.st (fun _ => XS.dload X4.here hx rfl (hb hby at_220) rfl) ?_
              show Go p.tables e below P (T4.setTop (mkF m 222 #[.val (.int p0), .val (.int p1), .val (.int p2), .val (.int p3), .val (.int ja), .val (.int jl), .val (.double (FP.dadd (4598175219545276416 : UInt64) (FP.ddiv (FP.dmul (4604930618986332160 : UInt64) (FP.i2d jl)) (FP.i2d ja)))), .second, .val (.int (1 : Int32)), .unset, .unset, .unset] [(.double (FP.dadd (4598175219545276416 : UInt64) (FP.ddiv (FP.dmul (4604930618986332160 : UInt64) (FP.i2d jl)) (FP.i2d ja))))]))
              refine Go.st (fun _ => X4.ldc2DoubleC hx hown (mvT hZ (hw _ (List.mem_of_getElem? (i := 9) rfl))) (g := (mkF m 222 #[.val (.int p0), .val (.int p1), .val (.int p2), .val (.int p3), .val (.int ja), .val (.int jl), .val (.double (FP.dadd (4598175219545276416 : UInt64) (FP.ddiv (FP.dmul (4604930618986332160 : UInt64) (FP.i2d jl)) (FP.i2d ja)))), .second, .val (.int (1 : Int32)), .unset, .unset, .unset] [(.double (FP.dadd (4598175219545276416 : UInt64) (FP.ddiv (FP.dmul (4604930618986332160 : UInt64) (FP.i2d jl)) (FP.i2d ja))))])) rfl (hb hby at_222) _) ?_
              show Go p.tables e below P (T4.setTop (mkF m 225 #[.val (.int p0), .val (.int p1), .val (.int p2), .val (.int p3), .val (.int ja), .val (.int jl), .val (.double (FP.dadd (4598175219545276416 : UInt64) (FP.ddiv (FP.dmul (4604930618986332160 : UInt64) (FP.i2d jl)) (FP.i2d ja)))), .second, .val (.int (1 : Int32)), .unset, .unset, .unset] [(.double (4598175219545276416 : UInt64)), (.double (FP.dadd (4598175219545276416 : UInt64) (FP.ddiv (FP.dmul (4604930618986332160 : UInt64) (FP.i2d jl)) (FP.i2d ja))))]))
              refine Go.st (fun _ => XS.dcmpS X4.here hx rfl (hb hby at_225) rfl rfl) ?_
              show Go p.tables e below P (T4.setTop (mkF m 226 #[.val (.int p0), .val (.int p1), .val (.int p2), .val (.int p3), .val (.int ja), .val (.int jl), .val (.double (FP.dadd (4598175219545276416 : UInt64) (FP.ddiv (FP.dmul (4604930618986332160 : UInt64) (FP.i2d jl)) (FP.i2d ja)))), .second, .val (.int (1 : Int32)), .unset, .unset, .unset] [(.int (cmpValue (FP.dcmp (FP.dadd (4598175219545276416 : UInt64) (FP.ddiv (FP.dmul (4604930618986332160 : UInt64) (FP.i2d jl)) (FP.i2d ja))) (4598175219545276416 : UInt64)) .l))]))
              have hb15 : ¬ ((cmpValue (FP.dcmp (FP.dadd (4598175219545276416 : UInt64) (FP.ddiv (FP.dmul (4604930618986332160 : UInt64) (FP.i2d jl)) (FP.i2d ja))) (4598175219545276416 : UInt64)) .l) < (0 : Int32)) := by have := own_cmpge hB.2.1 own_f25 (hB.2.2.2.2.2 (own_i_nn (by assumption))) .l; exact Int32.not_lt.mpr this
              refine Go.st (fun _ => XS.ifNo X4.here hx rfl (hb hby at_226) rfl ((if0 _ _).trans (flt hb15).1)) ?_
              show Go p.tables e below P (T4.setTop (mkF m 229 #[.val (.int p0), .val (.int p1), .val (.int p2), .val (.int p3), .val (.int ja), .val (.int jl), .val (.double (FP.dadd (4598175219545276416 : UInt64) (FP.ddiv (FP.dmul (4604930618986332160 : UInt64) (FP.i2d jl)) (FP.i2d ja)))), .second, .val (.int (1 : Int32)), .unset, .unset, .unset] []))
              refine Go.st (fun _ => XS.iconst X4.here hx rfl (hb hby at_229)) ?_
              show Go p.tables e below P (T4.setTop (mkF m 230 #[.val (.int p0), .val (.int p1), .val (.int p2), .val (.int p3), .val (.int ja), .val (.int jl), .val (.double (FP.dadd (4598175219545276416 : UInt64) (FP.ddiv (FP.dmul (4604930618986332160 : UInt64) (FP.i2d jl)) (FP.i2d ja)))), .second, .val (.int (1 : Int32)), .unset, .unset, .unset] [(.int (1 : Int32))]))
              refine Go.st (fun _ => XS.goto X4.here hx rfl (pc0 := 230) (pc' := 234) rfl (hb hby at_230) (by decide) (by decide)) ?_
              show Go p.tables e below P (T4.setTop (mkF m 234 #[.val (.int p0), .val (.int p1), .val (.int p2), .val (.int p3), .val (.int ja), .val (.int jl), .val (.double (FP.dadd (4598175219545276416 : UInt64) (FP.ddiv (FP.dmul (4604930618986332160 : UInt64) (FP.i2d jl)) (FP.i2d ja)))), .second, .val (.int (1 : Int32)), .unset, .unset, .unset] [(.int (1 : Int32))]))
              refine Go.st (fun _ => XS.istore X4.here hx rfl (hb hby at_234) rfl (l' := #[.val (.int p0), .val (.int p1), .val (.int p2), .val (.int p3), .val (.int ja), .val (.int jl), .val (.double (FP.dadd (4598175219545276416 : UInt64) (FP.ddiv (FP.dmul (4604930618986332160 : UInt64) (FP.i2d jl)) (FP.i2d ja)))), .second, .val (.int (1 : Int32)), .val (.int (1 : Int32)), .unset, .unset]) rfl) ?_
              show Go p.tables e below P (T4.setTop (mkF m 236 #[.val (.int p0), .val (.int p1), .val (.int p2), .val (.int p3), .val (.int ja), .val (.int jl), .val (.double (FP.dadd (4598175219545276416 : UInt64) (FP.ddiv (FP.dmul (4604930618986332160 : UInt64) (FP.i2d jl)) (FP.i2d ja)))), .second, .val (.int (1 : Int32)), .val (.int (1 : Int32)), .unset, .unset] []))
              refine Go.st (fun _ => XS.iload X4.here hx rfl (hb hby at_236) rfl) ?_
              show Go p.tables e below P (T4.setTop (mkF m 238 #[.val (.int p0), .val (.int p1), .val (.int p2), .val (.int p3), .val (.int ja), .val (.int jl), .val (.double (FP.dadd (4598175219545276416 : UInt64) (FP.ddiv (FP.dmul (4604930618986332160 : UInt64) (FP.i2d jl)) (FP.i2d ja)))), .second, .val (.int (1 : Int32)), .val (.int (1 : Int32)), .unset, .unset] [(.int (1 : Int32))]))
              refine Go.st (fun _ => XS.ifNo X4.here hx rfl (hb hby at_238) rfl ((if0 _ _).trans (feq (by decide)).1)) ?_
              show Go p.tables e below P (T4.setTop (mkF m 241 #[.val (.int p0), .val (.int p1), .val (.int p2), .val (.int p3), .val (.int ja), .val (.int jl), .val (.double (FP.dadd (4598175219545276416 : UInt64) (FP.ddiv (FP.dmul (4604930618986332160 : UInt64) (FP.i2d jl)) (FP.i2d ja)))), .second, .val (.int (1 : Int32)), .val (.int (1 : Int32)), .unset, .unset] []))
              refine Go.st (fun _ => XS.iload X4.here hx rfl (hb hby at_241) rfl) ?_
              show Go p.tables e below P (T4.setTop (mkF m 243 #[.val (.int p0), .val (.int p1), .val (.int p2), .val (.int p3), .val (.int ja), .val (.int jl), .val (.double (FP.dadd (4598175219545276416 : UInt64) (FP.ddiv (FP.dmul (4604930618986332160 : UInt64) (FP.i2d jl)) (FP.i2d ja)))), .second, .val (.int (1 : Int32)), .val (.int (1 : Int32)), .unset, .unset] [(.int (1 : Int32))]))
              refine Go.st (fun _ => XS.ifNo X4.here hx rfl (hb hby at_243) rfl ((if0 _ _).trans (feq (by decide)).1)) ?_
              show Go p.tables e below P (T4.setTop (mkF m 246 #[.val (.int p0), .val (.int p1), .val (.int p2), .val (.int p3), .val (.int ja), .val (.int jl), .val (.double (FP.dadd (4598175219545276416 : UInt64) (FP.ddiv (FP.dmul (4604930618986332160 : UInt64) (FP.i2d jl)) (FP.i2d ja)))), .second, .val (.int (1 : Int32)), .val (.int (1 : Int32)), .unset, .unset] []))
              refine Go.st (fun _ => XS.iconst X4.here hx rfl (hb hby at_246)) ?_
              show Go p.tables e below P (T4.setTop (mkF m 247 #[.val (.int p0), .val (.int p1), .val (.int p2), .val (.int p3), .val (.int ja), .val (.int jl), .val (.double (FP.dadd (4598175219545276416 : UInt64) (FP.ddiv (FP.dmul (4604930618986332160 : UInt64) (FP.i2d jl)) (FP.i2d ja)))), .second, .val (.int (1 : Int32)), .val (.int (1 : Int32)), .unset, .unset] [(.int (1 : Int32))]))
              refine Go.st (fun _ => XS.goto X4.here hx rfl (pc0 := 247) (pc' := 251) rfl (hb hby at_247) (by decide) (by decide)) ?_
              show Go p.tables e below P (T4.setTop (mkF m 251 #[.val (.int p0), .val (.int p1), .val (.int p2), .val (.int p3), .val (.int ja), .val (.int jl), .val (.double (FP.dadd (4598175219545276416 : UInt64) (FP.ddiv (FP.dmul (4604930618986332160 : UInt64) (FP.i2d jl)) (FP.i2d ja)))), .second, .val (.int (1 : Int32)), .val (.int (1 : Int32)), .unset, .unset] [(.int (1 : Int32))]))
              obtain ⟨fs, hr, hrun, hended, hW, hsame⟩ := X4.leave (v := some (.int (1 : Int32))) (fun h => by rw [Bd.returns] at h; cases h)
              refine ⟨_, ?_, hPend _ _ hrun hended ⟨_, _, rfl, ?_, ⟨_, rfl⟩, hW, hsame.mono (by decide) (by decide)⟩⟩
              · exact retN X4 hx (t := .boolean) Bd.returns (by simp) (hb hby at_251) hr
              · show Q_rm_law Z _ _ _ _ h0 n0 _ T4.heap _
                rw [e4]
                exact ⟨rfl, N4, rfl⟩
      by_cases hc16 : (p3 &&& (2 : Int32)) = (0 : Int32)
      · skip
        refine Go.st (fun _ => XS.ifYes X0.here hx rfl (pc0 := 132) (pc' := 140) rfl (hb hby at_132) rfl ((if0 _ _).trans (teq hc16).1) (by decide) (by decide)) ?_
        show Go p.tables e below P (s₁.setTop (mkF m 140 #[.val (.int p0), .val (.int p1), .val (.int p2), .val (.int p3), .val (.int ja), .unset, .unset, .unset, .unset, .unset, .unset, .unset] []))
        refine Go.st (fun _ => XS.iloadN X0.here hx rfl (hb hby at_140) rfl) ?_
        show Go p.tables e below P (s₁.setTop (mkF m 141 #[.val (.int p0), .val (.int p1), .val (.int p2), .val (.int p3), .val (.int ja), .unset, .unset, .unset, .unset, .unset, .unset, .unset] [(.int p0)]))
        exact J3 p0 trivial
      · skip
        refine Go.st (fun _ => XS.ifNo X0.here hx rfl (hb hby at_132) rfl ((if0 _ _).trans (feq hc16).1)) ?_
        show Go p.tables e below P (s₁.setTop (mkF m 135 #[.val (.int p0), .val (.int p1), .val (.int p2), .val (.int p3), .val (.int ja), .unset, .unset, .unset, .unset, .unset, .unset, .unset] []))
        refine Go.st (fun _ => XS.iload X0.here hx rfl (hb hby at_135) rfl) ?_
        show Go p.tables e below P (s₁.setTop (mkF m 137 #[.val (.int p0), .val (.int p1), .val (.int p2), .val (.int p3), .val (.int ja), .unset, .unset, .unset, .unset, .unset, .unset, .unset] [(.int ja)]))
        refine Go.st (fun _ => XS.goto X0.here hx rfl (pc0 := 137) (pc' := 141) rfl (hb hby at_137) (by decide) (by decide)) ?_
        show Go p.tables e below P (s₁.setTop (mkF m 141 #[.val (.int p0), .val (.int p1), .val (.int p2), .val (.int p3), .val (.int ja), .unset, .unset, .unset, .unset, .unset, .unset, .unset] [(.int ja)]))
        exact J3 ja trivial
    by_cases hc17 : (p2 &&& (2147483647 : Int32)) = (0 : Int32)
    · skip
      refine Go.st (fun _ => XS.ifNo X0.here hx rfl (hb hby at_123) rfl ((if0 _ _).trans (teq hc17).2)) ?_
      show Go p.tables e below P (s₁.setTop (mkF m 126 #[.val (.int p0), .val (.int p1), .val (.int p2), .val (.int p3), .val (.int (p2 &&& (2147483647 : Int32))), .unset, .unset, .unset, .unset, .unset, .unset, .unset] []))
      refine Go.st (fun _ => XS.iconst X0.here hx rfl (hb hby at_126)) ?_
      show Go p.tables e below P (s₁.setTop (mkF m 127 #[.val (.int p0), .val (.int p1), .val (.int p2), .val (.int p3), .val (.int (p2 &&& (2147483647 : Int32))), .unset, .unset, .unset, .unset, .unset, .unset, .unset] [(.int (1 : Int32))]))
      refine Go.st (fun _ => XS.istore X0.here hx rfl (hb hby at_127) rfl (l' := #[.val (.int p0), .val (.int p1), .val (.int p2), .val (.int p3), .val (.int (1 : Int32)), .unset, .unset, .unset, .unset, .unset, .unset, .unset]) rfl) ?_
      show Go p.tables e below P (s₁.setTop (mkF m 129 #[.val (.int p0), .val (.int p1), .val (.int p2), .val (.int p3), .val (.int (1 : Int32)), .unset, .unset, .unset, .unset, .unset, .unset, .unset] []))
      exact J2 (1 : Int32) (by decide)
    · skip
      refine Go.st (fun _ => XS.ifYes X0.here hx rfl (pc0 := 123) (pc' := 129) rfl (hb hby at_123) rfl ((if0 _ _).trans (feq hc17).2) (by decide) (by decide)) ?_
      show Go p.tables e below P (s₁.setTop (mkF m 129 #[.val (.int p0), .val (.int p1), .val (.int p2), .val (.int p3), .val (.int (p2 &&& (2147483647 : Int32))), .unset, .unset, .unset, .unset, .unset, .unset, .unset] []))
      exact J2 (p2 &&& (2147483647 : Int32)) (own_apos (by assumption))
  · skip
    refine Go.st (fun _ => XS.ifNo X0.here hx rfl (hb hby at_3) rfl ((if0 _ _).trans (feq hc1).1)) ?_
    show Go p.tables e below P (s₁.setTop (mkF m 6 #[.val (.int p0), .val (.int p1), .val (.int p2), .val (.int p3), .unset, .unset, .unset, .unset, .unset, .unset, .unset, .unset] []))
    refine Go.st (fun _ => XS.iloadN X0.here hx rfl (hb hby at_6) rfl) ?_
    show Go p.tables e below P (s₁.setTop (mkF m 7 #[.val (.int p0), .val (.int p1), .val (.int p2), .val (.int p3), .unset, .unset, .unset, .unset, .unset, .unset, .unset, .unset] [(.int p1)]))
    refine Go.st (fun _ => X0.ldcInt hx hown (mvT hZ (hw _ (List.mem_of_getElem? (i := 0) rfl))) (g := (mkF m 7 #[.val (.int p0), .val (.int p1), .val (.int p2), .val (.int p3), .unset, .unset, .unset, .unset, .unset, .unset, .unset, .unset] [(.int p1)])) rfl (hb hby at_7) _) ?_
    show Go p.tables e below P (s₁.setTop (mkF m 9 #[.val (.int p0), .val (.int p1), .val (.int p2), .val (.int p3), .unset, .unset, .unset, .unset, .unset, .unset, .unset, .unset] [(.int (2147483647 : Int32)), (.int p1)]))
    refine Go.st (fun _ => XS.iand X0.here hx rfl (hb hby at_9) rfl) ?_
    show Go p.tables e below P (s₁.setTop (mkF m 10 #[.val (.int p0), .val (.int p1), .val (.int p2), .val (.int p3), .unset, .unset, .unset, .unset, .unset, .unset, .unset, .unset] [(.int (p1 &&& (2147483647 : Int32)))]))
    refine Go.st (fun _ => XS.bipush X0.here hx rfl (hb hby at_10)) ?_
    show Go p.tables e below P (s₁.setTop (mkF m 12 #[.val (.int p0), .val (.int p1), .val (.int p2), .val (.int p3), .unset, .unset, .unset, .unset, .unset, .unset, .unset, .unset] [(.int (48 : Int32)), (.int (p1 &&& (2147483647 : Int32)))]))
    refine Go.st (fun _ => iremM (g := (mkF m 12 #[.val (.int p0), .val (.int p1), .val (.int p2), .val (.int p3), .unset, .unset, .unset, .unset, .unset, .unset, .unset, .unset] [(.int (48 : Int32)), (.int (p1 &&& (2147483647 : Int32)))])) X0 hx rfl (hb hby at_12) rfl (by decide)) ?_
    show Go p.tables e below P (s₁.setTop (mkF m 13 #[.val (.int p0), .val (.int p1), .val (.int p2), .val (.int p3), .unset, .unset, .unset, .unset, .unset, .unset, .unset, .unset] [(.int ((p1 &&& (2147483647 : Int32)) % (48 : Int32)))]))
    refine Go.st (fun _ => XS.bipush X0.here hx rfl (hb hby at_13)) ?_
    show Go p.tables e below P (s₁.setTop (mkF m 15 #[.val (.int p0), .val (.int p1), .val (.int p2), .val (.int p3), .unset, .unset, .unset, .unset, .unset, .unset, .unset, .unset] [(.int (16 : Int32)), (.int ((p1 &&& (2147483647 : Int32)) % (48 : Int32)))]))
    refine Go.st (fun _ => XS.isub X0.here hx rfl (hb hby at_15) rfl) ?_
    show Go p.tables e below P (s₁.setTop (mkF m 16 #[.val (.int p0), .val (.int p1), .val (.int p2), .val (.int p3), .unset, .unset, .unset, .unset, .unset, .unset, .unset, .unset] [(.int (((p1 &&& (2147483647 : Int32)) % (48 : Int32)) - (16 : Int32)))]))
    refine Go.st (fun _ => XS.istore X0.here hx rfl (hb hby at_16) rfl (l' := #[.val (.int p0), .val (.int p1), .val (.int p2), .val (.int p3), .val (.int (((p1 &&& (2147483647 : Int32)) % (48 : Int32)) - (16 : Int32))), .unset, .unset, .unset, .unset, .unset, .unset, .unset]) rfl) ?_
    show Go p.tables e below P (s₁.setTop (mkF m 18 #[.val (.int p0), .val (.int p1), .val (.int p2), .val (.int p3), .val (.int (((p1 &&& (2147483647 : Int32)) % (48 : Int32)) - (16 : Int32))), .unset, .unset, .unset, .unset, .unset, .unset, .unset] []))
    obtain ⟨je, hje, hjr⟩ := own_e p1
    · skip
      rw [hje]
      show Go p.tables e below P (s₁.setTop (mkF m 18 #[.val (.int p0), .val (.int p1), .val (.int p2), .val (.int p3), .val (.int je), .unset, .unset, .unset, .unset, .unset, .unset, .unset] []))
      refine Go.st (fun _ => XS.iload X0.here hx rfl (hb hby at_18) rfl) ?_
      show Go p.tables e below P (s₁.setTop (mkF m 20 #[.val (.int p0), .val (.int p1), .val (.int p2), .val (.int p3), .val (.int je), .unset, .unset, .unset, .unset, .unset, .unset, .unset] [(.int je)]))
      by_cases hc18 : je < (0 : Int32)
      · skip
        refine Go.st (fun _ => XS.ifYes X0.here hx rfl (pc0 := 20) (pc' := 59) rfl (hb hby at_20) rfl ((if0 _ _).trans (tlt hc18).1) (by decide) (by decide)) ?_
        show Go p.tables e below P (s₁.setTop (mkF m 59 #[.val (.int p0), .val (.int p1), .val (.int p2), .val (.int p3), .val (.int je), .unset, .unset, .unset, .unset, .unset, .unset, .unset] []))
        have hA := own_a2 (L := p0) (e := je) (by assumption) hjr
        refine Go.st (fun _ => XS.iload X0.here hx rfl (hb hby at_59) rfl) ?_
        show Go p.tables e below P (s₁.setTop (mkF m 61 #[.val (.int p0), .val (.int p1), .val (.int p2), .val (.int p3), .val (.int je), .unset, .unset, .unset, .unset, .unset, .unset, .unset] [(.int je)]))
        refine Go.st (fun _ => XS.ineg X0.here hx rfl (hb hby at_61) rfl) ?_
        show Go p.tables e below P (s₁.setTop (mkF m 62 #[.val (.int p0), .val (.int p1), .val (.int p2), .val (.int p3), .val (.int je), .unset, .unset, .unset, .unset, .unset, .unset, .unset] [(.int (-je))]))
        refine Go.st (fun _ => XS.istore X0.here hx rfl (hb hby at_62) rfl (l' := #[.val (.int p0), .val (.int p1), .val (.int p2), .val (.int p3), .val (.int je), .unset, .unset, .unset, .unset, .val (.int (-je)), .unset, .unset]) rfl) ?_
        show Go p.tables e below P (s₁.setTop (mkF m 64 #[.val (.int p0), .val (.int p1), .val (.int p2), .val (.int p3), .val (.int je), .unset, .unset, .unset, .unset, .val (.int (-je)), .unset, .unset] []))
        refine Go.st (fun _ => XS.dconst1 X0.here hx rfl (hb hby at_64) rfl) ?_
        show Go p.tables e below P (s₁.setTop (mkF m 65 #[.val (.int p0), .val (.int p1), .val (.int p2), .val (.int p3), .val (.int je), .unset, .unset, .unset, .unset, .val (.int (-je)), .unset, .unset] [(.double FP.dconst1)]))
        refine Go.st (fun _ => XS.lconst X0.here hx rfl (hb hby at_65)) ?_
        show Go p.tables e below P (s₁.setTop (mkF m 66 #[.val (.int p0), .val (.int p1), .val (.int p2), .val (.int p3), .val (.int je), .unset, .unset, .unset, .unset, .val (.int (-je)), .unset, .unset] [(.long (1 : Int64)), (.double FP.dconst1)]))
        refine Go.st (fun _ => XS.iload X0.here hx rfl (hb hby at_66) rfl) ?_
        show Go p.tables e below P (s₁.setTop (mkF m 68 #[.val (.int p0), .val (.int p1), .val (.int p2), .val (.int p3), .val (.int je), .unset, .unset, .unset, .unset, .val (.int (-je)), .unset, .unset] [(.int (-je)), (.long (1 : Int64)), (.double FP.dconst1)]))
        refine Go.st (fun _ => XS.lshl X0.here hx rfl (hb hby at_68) rfl) ?_
        show Go p.tables e below P (s₁.setTop (mkF m 69 #[.val (.int p0), .val (.int p1), .val (.int p2), .val (.int p3), .val (.int je), .unset, .unset, .unset, .unset, .val (.int (-je)), .unset, .unset] [(.long ((1 : Int64) <<< ((-je) &&& 0x3f).toInt64)), (.double FP.dconst1)]))
        refine Go.st (fun _ => XS.l2dS X0.here hx rfl (hb hby at_69) rfl rfl) ?_
        show Go p.tables e below P (s₁.setTop (mkF m 70 #[.val (.int p0), .val (.int p1), .val (.int p2), .val (.int p3), .val (.int je), .unset, .unset, .unset, .unset, .val (.int (-je)), .unset, .unset] [(.double (FP.l2d ((1 : Int64) <<< ((-je) &&& 0x3f).toInt64))), (.double FP.dconst1)]))
        refine Go.st (fun _ => XS.ddivS X0.here hx rfl (hb hby at_70) rfl (own_notnan hA.1) rfl) ?_
        show Go p.tables e below P (s₁.setTop (mkF m 71 #[.val (.int p0), .val (.int p1), .val (.int p2), .val (.int p3), .val (.int je), .unset, .unset, .unset, .unset, .val (.int (-je)), .unset, .unset] [(.double (FP.ddiv FP.dconst1 (FP.l2d ((1 : Int64) <<< ((-je) &&& 0x3f).toInt64))))]))
        refine Go.st (fun _ => XS.dstore X0.here hx rfl (hb hby at_71) rfl (l' := #[.val (.int p0), .val (.int p1), .val (.int p2), .val (.int p3), .val (.int je), .val (.double (FP.ddiv FP.dconst1 (FP.l2d ((1 : Int64) <<< ((-je) &&& 0x3f).toInt64)))), .second, .unset, .unset, .val (.int (-je)), .unset, .unset]) rfl) ?_
        show Go p.tables e below P (s₁.setTop (mkF m 73 #[.val (.int p0), .val (.int p1), .val (.int p2), .val (.int p3), .val (.int je), .val (.double (FP.ddiv FP.dconst1 (FP.l2d ((1 : Int64) <<< ((-je) &&& 0x3f).toInt64)))), .second, .unset, .unset, .val (.int (-je)), .unset, .unset] []))
        refine Go.st (fun _ => X0.ldc2Long hx hown (mvT hZ (hw _ (List.mem_of_getElem? (i := 1) rfl))) (g := (mkF m 73 #[.val (.int p0), .val (.int p1), .val (.int p2), .val (.int p3), .val (.int je), .val (.double (FP.ddiv FP.dconst1 (FP.l2d ((1 : Int64) <<< ((-je) &&& 0x3f).toInt64)))), .second, .unset, .unset, .val (.int (-je)), .unset, .unset] [])) rfl (hb hby at_73) _) ?_
        show Go p.tables e below P (s₁.setTop (mkF m 76 #[.val (.int p0), .val (.int p1), .val (.int p2), .val (.int p3), .val (.int je), .val (.double (FP.ddiv FP.dconst1 (FP.l2d ((1 : Int64) <<< ((-je) &&& 0x3f).toInt64)))), .second, .unset, .unset, .val (.int (-je)), .unset, .unset] [(.long (3 : Int64))]))
        refine Go.st (fun _ => XS.iloadN X0.here hx rfl (hb hby at_76) rfl) ?_
        show Go p.tables e below P (s₁.setTop (mkF m 77 #[.val (.int p0), .val (.int p1), .val (.int p2), .val (.int p3), .val (.int je), .val (.double (FP.ddiv FP.dconst1 (FP.l2d ((1 : Int64) <<< ((-je) &&& 0x3f).toInt64)))), .second, .unset, .unset, .val (.int (-je)), .unset, .unset] [(.int p0), (.long (3 : Int64))]))
        refine Go.st (fun _ => XS.i2l X0.here hx rfl (hb hby at_77) rfl) ?_
        show Go p.tables e below P (s₁.setTop (mkF m 78 #[.val (.int p0), .val (.int p1), .val (.int p2), .val (.int p3), .val (.int je), .val (.double (FP.ddiv FP.dconst1 (FP.l2d ((1 : Int64) <<< ((-je) &&& 0x3f).toInt64)))), .second, .unset, .unset, .val (.int (-je)), .unset, .unset] [(.long (p0.toInt64)), (.long (3 : Int64))]))
        refine Go.st (fun _ => XS.lmul X0.here hx rfl (hb hby at_78) rfl) ?_
        show Go p.tables e below P (s₁.setTop (mkF m 79 #[.val (.int p0), .val (.int p1), .val (.int p2), .val (.int p3), .val (.int je), .val (.double (FP.ddiv FP.dconst1 (FP.l2d ((1 : Int64) <<< ((-je) &&& 0x3f).toInt64)))), .second, .unset, .unset, .val (.int (-je)), .unset, .unset] [(.long ((3 : Int64) * (p0.toInt64)))]))
        refine Go.st (fun _ => XS.lconst X0.here hx rfl (hb hby at_79)) ?_
        show Go p.tables e below P (s₁.setTop (mkF m 80 #[.val (.int p0), .val (.int p1), .val (.int p2), .val (.int p3), .val (.int je), .val (.double (FP.ddiv FP.dconst1 (FP.l2d ((1 : Int64) <<< ((-je) &&& 0x3f).toInt64)))), .second, .unset, .unset, .val (.int (-je)), .unset, .unset] [(.long (1 : Int64)), (.long ((3 : Int64) * (p0.toInt64)))]))
        refine Go.st (fun _ => XS.iload X0.here hx rfl (hb hby at_80) rfl) ?_
        show Go p.tables e below P (s₁.setTop (mkF m 82 #[.val (.int p0), .val (.int p1), .val (.int p2), .val (.int p3), .val (.int je), .val (.double (FP.ddiv FP.dconst1 (FP.l2d ((1 : Int64) <<< ((-je) &&& 0x3f).toInt64)))), .second, .unset, .unset, .val (.int (-je)), .unset, .unset] [(.int (-je)), (.long (1 : Int64)), (.long ((3 : Int64) * (p0.toInt64)))]))
        refine Go.st (fun _ => XS.lshl X0.here hx rfl (hb hby at_82) rfl) ?_
        show Go p.tables e below P (s₁.setTop (mkF m 83 #[.val (.int p0), .val (.int p1), .val (.int p2), .val (.int p3), .val (.int je), .val (.double (FP.ddiv FP.dconst1 (FP.l2d ((1 : Int64) <<< ((-je) &&& 0x3f).toInt64)))), .second, .unset, .unset, .val (.int (-je)), .unset, .unset] [(.long ((1 : Int64) <<< ((-je) &&& 0x3f).toInt64)), (.long ((3 : Int64) * (p0.toInt64)))]))
        refine Go.st (fun _ => XS.lmul X0.here hx rfl (hb hby at_83) rfl) ?_
        show Go p.tables e below P (s₁.setTop (mkF m 84 #[.val (.int p0), .val (.int p1), .val (.int p2), .val (.int p3), .val (.int je), .val (.double (FP.ddiv FP.dconst1 (FP.l2d ((1 : Int64) <<< ((-je) &&& 0x3f).toInt64)))), .second, .unset, .unset, .val (.int (-je)), .unset, .unset] [(.long (((3 : Int64) * (p0.toInt64)) * ((1 : Int64) <<< ((-je) &&& 0x3f).toInt64)))]))
        refine Go.st (fun _ => XS.lconst X0.here hx rfl (hb hby at_84)) ?_
        show Go p.tables e below P (s₁.setTop (mkF m 85 #[.val (.int p0), .val (.int p1), .val (.int p2), .val (.int p3), .val (.int je), .val (.double (FP.ddiv FP.dconst1 (FP.l2d ((1 : Int64) <<< ((-je) &&& 0x3f).toInt64)))), .second, .unset, .unset, .val (.int (-je)), .unset, .unset] [(.long (1 : Int64)), (.long (((3 : Int64) * (p0.toInt64)) * ((1 : Int64) <<< ((-je) &&& 0x3f).toInt64)))]))
        refine Go.st (fun _ => XS.ladd X0.here hx rfl (hb hby at_85) rfl) ?_
        show Go p.tables e below P (s₁.setTop (mkF m 86 #[.val (.int p0), .val (.int p1), .val (.int p2), .val (.int p3), .val (.int je), .val (.double (FP.ddiv FP.dconst1 (FP.l2d ((1 : Int64) <<< ((-je) &&& 0x3f).toInt64)))), .second, .unset, .unset, .val (.int (-je)), .unset, .unset] [(.long ((((3 : Int64) * (p0.toInt64)) * ((1 : Int64) <<< ((-je) &&& 0x3f).toInt64)) + (1 : Int64)))]))
        refine Go.st (fun _ => XS.lstore X0.here hx rfl (hb hby at_86) rfl (l' := #[.val (.int p0), .val (.int p1), .val (.int p2), .val (.int p3), .val (.int je), .val (.double (FP.ddiv FP.dconst1 (FP.l2d ((1 : Int64) <<< ((-je) &&& 0x3f).toInt64)))), .second, .unset, .unset, .val (.int (-je)), .val (.long ((((3 : Int64) * (p0.toInt64)) * ((1 : Int64) <<< ((-je) &&& 0x3f).toInt64)) + (1 : Int64))), .second]) rfl) ?_
        show Go p.tables e below P (s₁.setTop (mkF m 88 #[.val (.int p0), .val (.int p1), .val (.int p2), .val (.int p3), .val (.int je), .val (.double (FP.ddiv FP.dconst1 (FP.l2d ((1 : Int64) <<< ((-je) &&& 0x3f).toInt64)))), .second, .unset, .unset, .val (.int (-je)), .val (.long ((((3 : Int64) * (p0.toInt64)) * ((1 : Int64) <<< ((-je) &&& 0x3f).toInt64)) + (1 : Int64))), .second] []))
        refine Go.st (fun _ => XS.lload X0.here hx rfl (hb hby at_88) rfl) ?_
        show Go p.tables e below P (s₁.setTop (mkF m 90 #[.val (.int p0), .val (.int p1), .val (.int p2), .val (.int p3), .val (.int je), .val (.double (FP.ddiv FP.dconst1 (FP.l2d ((1 : Int64) <<< ((-je) &&& 0x3f).toInt64)))), .second, .unset, .unset, .val (.int (-je)), .val (.long ((((3 : Int64) * (p0.toInt64)) * ((1 : Int64) <<< ((-je) &&& 0x3f).toInt64)) + (1 : Int64))), .second] [(.long ((((3 : Int64) * (p0.toInt64)) * ((1 : Int64) <<< ((-je) &&& 0x3f).toInt64)) + (1 : Int64)))]))
        refine Go.st (fun _ => XS.l2dS X0.here hx rfl (hb hby at_90) rfl rfl) ?_
        show Go p.tables e below P (s₁.setTop (mkF m 91 #[.val (.int p0), .val (.int p1), .val (.int p2), .val (.int p3), .val (.int je), .val (.double (FP.ddiv FP.dconst1 (FP.l2d ((1 : Int64) <<< ((-je) &&& 0x3f).toInt64)))), .second, .unset, .unset, .val (.int (-je)), .val (.long ((((3 : Int64) * (p0.toInt64)) * ((1 : Int64) <<< ((-je) &&& 0x3f).toInt64)) + (1 : Int64))), .second] [(.double (FP.l2d ((((3 : Int64) * (p0.toInt64)) * ((1 : Int64) <<< ((-je) &&& 0x3f).toInt64)) + (1 : Int64))))]))
        refine Go.st (fun _ => X0.ldc2DoubleC hx hown (mvT hZ (hw _ (List.mem_of_getElem? (i := 2) rfl))) (g := (mkF m 91 #[.val (.int p0), .val (.int p1), .val (.int p2), .val (.int p3), .val (.int je), .val (.double (FP.ddiv FP.dconst1 (FP.l2d ((1 : Int64) <<< ((-je) &&& 0x3f).toInt64)))), .second, .unset, .unset, .val (.int (-je)), .val (.long ((((3 : Int64) * (p0.toInt64)) * ((1 : Int64) <<< ((-je) &&& 0x3f).toInt64)) + (1 : Int64))), .second] [(.double (FP.l2d ((((3 : Int64) * (p0.toInt64)) * ((1 : Int64) <<< ((-je) &&& 0x3f).toInt64)) + (1 : Int64))))])) rfl (hb hby at_91) _) ?_
        show Go p.tables e below P (s₁.setTop (mkF m 94 #[.val (.int p0), .val (.int p1), .val (.int p2), .val (.int p3), .val (.int je), .val (.double (FP.ddiv FP.dconst1 (FP.l2d ((1 : Int64) <<< ((-je) &&& 0x3f).toInt64)))), .second, .unset, .unset, .val (.int (-je)), .val (.long ((((3 : Int64) * (p0.toInt64)) * ((1 : Int64) <<< ((-je) &&& 0x3f).toInt64)) + (1 : Int64))), .second] [(.double (4616189618054758400 : UInt64)), (.double (FP.l2d ((((3 : Int64) * (p0.toInt64)) * ((1 : Int64) <<< ((-je) &&& 0x3f).toInt64)) + (1 : Int64))))]))
        refine Go.st (fun _ => XS.ddivS X0.here hx rfl (hb hby at_94) rfl (own_notnan hA.2.2.2.1) rfl) ?_
        show Go p.tables e below P (s₁.setTop (mkF m 95 #[.val (.int p0), .val (.int p1), .val (.int p2), .val (.int p3), .val (.int je), .val (.double (FP.ddiv FP.dconst1 (FP.l2d ((1 : Int64) <<< ((-je) &&& 0x3f).toInt64)))), .second, .unset, .unset, .val (.int (-je)), .val (.long ((((3 : Int64) * (p0.toInt64)) * ((1 : Int64) <<< ((-je) &&& 0x3f).toInt64)) + (1 : Int64))), .second] [(.double (FP.ddiv (FP.l2d ((((3 : Int64) * (p0.toInt64)) * ((1 : Int64) <<< ((-je) &&& 0x3f).toInt64)) + (1 : Int64))) (4616189618054758400 : UInt64)))]))
        refine Go.st (fun _ => XS.dstore X0.here hx rfl (hb hby at_95) rfl (l' := #[.val (.int p0), .val (.int p1), .val (.int p2), .val (.int p3), .val (.int je), .val (.double (FP.ddiv FP.dconst1 (FP.l2d ((1 : Int64) <<< ((-je) &&& 0x3f).toInt64)))), .second, .val (.double (FP.ddiv (FP.l2d ((((3 : Int64) * (p0.toInt64)) * ((1 : Int64) <<< ((-je) &&& 0x3f).toInt64)) + (1 : Int64))) (4616189618054758400 : UInt64))), .second, .val (.int (-je)), .val (.long ((((3 : Int64) * (p0.toInt64)) * ((1 : Int64) <<< ((-je) &&& 0x3f).toInt64)) + (1 : Int64))), .second]) rfl) ?_
        show Go p.tables e below P (s₁.setTop (mkF m 97 #[.val (.int p0), .val (.int p1), .val (.int p2), .val (.int p3), .val (.int je), .val (.double (FP.ddiv FP.dconst1 (FP.l2d ((1 : Int64) <<< ((-je) &&& 0x3f).toInt64)))), .second, .val (.double (FP.ddiv (FP.l2d ((((3 : Int64) * (p0.toInt64)) * ((1 : Int64) <<< ((-je) &&& 0x3f).toInt64)) + (1 : Int64))) (4616189618054758400 : UInt64))), .second, .val (.int (-je)), .val (.long ((((3 : Int64) * (p0.toInt64)) * ((1 : Int64) <<< ((-je) &&& 0x3f).toInt64)) + (1 : Int64))), .second] []))
        refine Go.st (fun _ => XS.iloadN X0.here hx rfl (hb hby at_97) rfl) ?_
        show Go p.tables e below P (s₁.setTop (mkF m 98 #[.val (.int p0), .val (.int p1), .val (.int p2), .val (.int p3), .val (.int je), .val (.double (FP.ddiv FP.dconst1 (FP.l2d ((1 : Int64) <<< ((-je) &&& 0x3f).toInt64)))), .second, .val (.double (FP.ddiv (FP.l2d ((((3 : Int64) * (p0.toInt64)) * ((1 : Int64) <<< ((-je) &&& 0x3f).toInt64)) + (1 : Int64))) (4616189618054758400 : UInt64))), .second, .val (.int (-je)), .val (.long ((((3 : Int64) * (p0.toInt64)) * ((1 : Int64) <<< ((-je) &&& 0x3f).toInt64)) + (1 : Int64))), .second] [(.int p0)]))
        refine Go.st (fun _ => XS.dload X0.here hx rfl (hb hby at_98) rfl) ?_
        show Go p.tables e below P (s₁.setTop (mkF m 100 #[.val (.int p0), .val (.int p1), .val (.int p2), .val (.int p3), .val (.int je), .val (.double (FP.ddiv FP.dconst1 (FP.l2d ((1 : Int64) <<< ((-je) &&& 0x3f).toInt64)))), .second, .val (.double (FP.ddiv (FP.l2d ((((3 : Int64) * (p0.toInt64)) * ((1 : Int64) <<< ((-je) &&& 0x3f).toInt64)) + (1 : Int64))) (4616189618054758400 : UInt64))), .second, .val (.int (-je)), .val (.long ((((3 : Int64) * (p0.toInt64)) * ((1 : Int64) <<< ((-je) &&& 0x3f).toInt64)) + (1 : Int64))), .second] [(.double (FP.ddiv FP.dconst1 (FP.l2d ((1 : Int64) <<< ((-je) &&& 0x3f).toInt64)))), (.int p0)]))
        obtain ⟨_, _, ⟨T19, L19, k19, n19⟩, -, X19, ⟨Lc19, hQ19, l19, y19, z19⟩, st19⟩ := Jvm.LawKit.callS X0 hx (y := (⟨"com/example/otsi/otsi/Bm25", "lengthFactor", "(ID)D"⟩ : MethodName)) hown (mvT hZ (hw _ (List.mem_of_getElem? (i := 3) rfl))) (mvT hZ (hw _ (List.mem_of_getElem? (i := 4) rfl))) (mvT hZ (hw _ (List.mem_of_getElem? (i := 5) rfl))) (mvT hZ (hw _ (List.mem_of_getElem? (i := 6) rfl))) (by decide) (backOf (W := 0) (rm_lf l Z a0 hw [] p0 (FP.ddiv FP.dconst1 (FP.l2d ((1 : Int64) <<< ((-je) &&& 0x3f).toInt64))) h0 n0 X00 (own_notnan (own_x1 _).1) (own_notnan hA.2.1) (own_notnan hA.2.2.1)) hZ (hw _ (List.mem_of_getElem? (i := 6) rfl)) (hw _ (List.mem_of_getElem? (i := 5) rfl)) (by decide) (by decide)) (g := (mkF m 100 #[.val (.int p0), .val (.int p1), .val (.int p2), .val (.int p3), .val (.int je), .val (.double (FP.ddiv FP.dconst1 (FP.l2d ((1 : Int64) <<< ((-je) &&& 0x3f).toInt64)))), .second, .val (.double (FP.ddiv (FP.l2d ((((3 : Int64) * (p0.toInt64)) * ((1 : Int64) <<< ((-je) &&& 0x3f).toInt64)) + (1 : Int64))) (4616189618054758400 : UInt64))), .second, .val (.int (-je)), .val (.long ((((3 : Int64) * (p0.toInt64)) * ((1 : Int64) <<< ((-je) &&& 0x3f).toInt64)) + (1 : Int64))), .second] [(.double (FP.ddiv FP.dconst1 (FP.l2d ((1 : Int64) <<< ((-je) &&& 0x3f).toInt64)))), (.int p0)])) rfl (by rw [hml]; rfl) (argsL := [(.int p0), (.double (FP.ddiv FP.dconst1 (FP.l2d ((1 : Int64) <<< ((-je) &&& 0x3f).toInt64))))]) (rest := []) (lenOf own_pd0 rfl) rfl (by show 2 * 0 + _ ≤ _; exact Nat.le_of_eq rfl) (hb hby at_100) (fun _ _ => ⟨rfl, e0, (by decide : 0 + 0 ≤ _), (by decide : 0 + 0 ≤ _)⟩)
        dsimp only [Pt.U, Pt.locs, Pt.cells, Pt.slots] at X19 l19 y19 z19 st19 hQ19
        subst l19 y19 z19
        refine Go.st st19 ?_
        obtain ⟨rfl, N19q, e19⟩ := hQ19
        have N19 := Fr.app N0 N19q
        show Go p.tables e below P (T19.setTop (mkF m 103 #[.val (.int p0), .val (.int p1), .val (.int p2), .val (.int p3), .val (.int je), .val (.double (FP.ddiv FP.dconst1 (FP.l2d ((1 : Int64) <<< ((-je) &&& 0x3f).toInt64)))), .second, .val (.double (FP.ddiv (FP.l2d ((((3 : Int64) * (p0.toInt64)) * ((1 : Int64) <<< ((-je) &&& 0x3f).toInt64)) + (1 : Int64))) (4616189618054758400 : UInt64))), .second, .val (.int (-je)), .val (.long ((((3 : Int64) * (p0.toInt64)) * ((1 : Int64) <<< ((-je) &&& 0x3f).toInt64)) + (1 : Int64))), .second] [(.double (FP.dadd (4598175219545276416 : UInt64) (FP.ddiv (FP.dmul (4604930618986332160 : UInt64) (FP.i2d p0)) (FP.ddiv FP.dconst1 (FP.l2d ((1 : Int64) <<< ((-je) &&& 0x3f).toInt64))))))]))
        refine Go.st (fun _ => XS.dload X19.here hx rfl (hb hby at_103) rfl) ?_
        show Go p.tables e below P (T19.setTop (mkF m 105 #[.val (.int p0), .val (.int p1), .val (.int p2), .val (.int p3), .val (.int je), .val (.double (FP.ddiv FP.dconst1 (FP.l2d ((1 : Int64) <<< ((-je) &&& 0x3f).toInt64)))), .second, .val (.double (FP.ddiv (FP.l2d ((((3 : Int64) * (p0.toInt64)) * ((1 : Int64) <<< ((-je) &&& 0x3f).toInt64)) + (1 : Int64))) (4616189618054758400 : UInt64))), .second, .val (.int (-je)), .val (.long ((((3 : Int64) * (p0.toInt64)) * ((1 : Int64) <<< ((-je) &&& 0x3f).toInt64)) + (1 : Int64))), .second] [(.double (FP.ddiv (FP.l2d ((((3 : Int64) * (p0.toInt64)) * ((1 : Int64) <<< ((-je) &&& 0x3f).toInt64)) + (1 : Int64))) (4616189618054758400 : UInt64))), (.double (FP.dadd (4598175219545276416 : UInt64) (FP.ddiv (FP.dmul (4604930618986332160 : UInt64) (FP.i2d p0)) (FP.ddiv FP.dconst1 (FP.l2d ((1 : Int64) <<< ((-je) &&& 0x3f).toInt64))))))]))
        refine Go.st (fun _ => XS.dcmpS X19.here hx rfl (hb hby at_105) rfl rfl) ?_
        show Go p.tables e below P (T19.setTop (mkF m 106 #[.val (.int p0), .val (.int p1), .val (.int p2), .val (.int p3), .val (.int je), .val (.double (FP.ddiv FP.dconst1 (FP.l2d ((1 : Int64) <<< ((-je) &&& 0x3f).toInt64)))), .second, .val (.double (FP.ddiv (FP.l2d ((((3 : Int64) * (p0.toInt64)) * ((1 : Int64) <<< ((-je) &&& 0x3f).toInt64)) + (1 : Int64))) (4616189618054758400 : UInt64))), .second, .val (.int (-je)), .val (.long ((((3 : Int64) * (p0.toInt64)) * ((1 : Int64) <<< ((-je) &&& 0x3f).toInt64)) + (1 : Int64))), .second] [(.int (cmpValue (FP.dcmp (FP.dadd (4598175219545276416 : UInt64) (FP.ddiv (FP.dmul (4604930618986332160 : UInt64) (FP.i2d p0)) (FP.ddiv FP.dconst1 (FP.l2d ((1 : Int64) <<< ((-je) &&& 0x3f).toInt64))))) (FP.ddiv (FP.l2d ((((3 : Int64) * (p0.toInt64)) * ((1 : Int64) <<< ((-je) &&& 0x3f).toInt64)) + (1 : Int64))) (4616189618054758400 : UInt64))) .l))]))
        have hb20 : (cmpValue (FP.dcmp (FP.dadd (4598175219545276416 : UInt64) (FP.ddiv (FP.dmul (4604930618986332160 : UInt64) (FP.i2d p0)) (FP.ddiv FP.dconst1 (FP.l2d ((1 : Int64) <<< ((-je) &&& 0x3f).toInt64))))) (FP.ddiv (FP.l2d ((((3 : Int64) * (p0.toInt64)) * ((1 : Int64) <<< ((-je) &&& 0x3f).toInt64)) + (1 : Int64))) (4616189618054758400 : UInt64))) .l) = (0 : Int32) := own_cmpeq hA.2.2.1 hA.2.2.2.1 hA.2.2.2.2 _
        refine Go.st (fun _ => XS.ifNo X19.here hx rfl (hb hby at_106) rfl ((if0 _ _).trans (teq hb20).2)) ?_
        show Go p.tables e below P (T19.setTop (mkF m 109 #[.val (.int p0), .val (.int p1), .val (.int p2), .val (.int p3), .val (.int je), .val (.double (FP.ddiv FP.dconst1 (FP.l2d ((1 : Int64) <<< ((-je) &&& 0x3f).toInt64)))), .second, .val (.double (FP.ddiv (FP.l2d ((((3 : Int64) * (p0.toInt64)) * ((1 : Int64) <<< ((-je) &&& 0x3f).toInt64)) + (1 : Int64))) (4616189618054758400 : UInt64))), .second, .val (.int (-je)), .val (.long ((((3 : Int64) * (p0.toInt64)) * ((1 : Int64) <<< ((-je) &&& 0x3f).toInt64)) + (1 : Int64))), .second] []))
        refine Go.st (fun _ => XS.iconst X19.here hx rfl (hb hby at_109)) ?_
        show Go p.tables e below P (T19.setTop (mkF m 110 #[.val (.int p0), .val (.int p1), .val (.int p2), .val (.int p3), .val (.int je), .val (.double (FP.ddiv FP.dconst1 (FP.l2d ((1 : Int64) <<< ((-je) &&& 0x3f).toInt64)))), .second, .val (.double (FP.ddiv (FP.l2d ((((3 : Int64) * (p0.toInt64)) * ((1 : Int64) <<< ((-je) &&& 0x3f).toInt64)) + (1 : Int64))) (4616189618054758400 : UInt64))), .second, .val (.int (-je)), .val (.long ((((3 : Int64) * (p0.toInt64)) * ((1 : Int64) <<< ((-je) &&& 0x3f).toInt64)) + (1 : Int64))), .second] [(.int (1 : Int32))]))
        refine Go.st (fun _ => XS.goto X19.here hx rfl (pc0 := 110) (pc' := 114) rfl (hb hby at_110) (by decide) (by decide)) ?_
        show Go p.tables e below P (T19.setTop (mkF m 114 #[.val (.int p0), .val (.int p1), .val (.int p2), .val (.int p3), .val (.int je), .val (.double (FP.ddiv FP.dconst1 (FP.l2d ((1 : Int64) <<< ((-je) &&& 0x3f).toInt64)))), .second, .val (.double (FP.ddiv (FP.l2d ((((3 : Int64) * (p0.toInt64)) * ((1 : Int64) <<< ((-je) &&& 0x3f).toInt64)) + (1 : Int64))) (4616189618054758400 : UInt64))), .second, .val (.int (-je)), .val (.long ((((3 : Int64) * (p0.toInt64)) * ((1 : Int64) <<< ((-je) &&& 0x3f).toInt64)) + (1 : Int64))), .second] [(.int (1 : Int32))]))
        obtain ⟨fs, hr, hrun, hended, hW, hsame⟩ := X19.leave (v := some (.int (1 : Int32))) (fun h => by rw [Bd.returns] at h; cases h)
        refine ⟨_, ?_, hPend _ _ hrun hended ⟨_, _, rfl, ?_, ⟨_, rfl⟩, hW, hsame.mono (by decide) (by decide)⟩⟩
        · exact retN X19 hx (t := .boolean) Bd.returns (by simp) (hb hby at_114) hr
        · show Q_rm_law Z _ _ _ _ h0 n0 _ T19.heap _
          rw [e19]
          exact ⟨rfl, N19, rfl⟩
      · skip
        refine Go.st (fun _ => XS.ifNo X0.here hx rfl (hb hby at_20) rfl ((if0 _ _).trans (flt hc18).1)) ?_
        show Go p.tables e below P (s₁.setTop (mkF m 23 #[.val (.int p0), .val (.int p1), .val (.int p2), .val (.int p3), .val (.int je), .unset, .unset, .unset, .unset, .unset, .unset, .unset] []))
        have hA := own_a1 (L := p0) (e := je) (by assumption) hjr
        refine Go.st (fun _ => XS.lconst X0.here hx rfl (hb hby at_23)) ?_
        show Go p.tables e below P (s₁.setTop (mkF m 24 #[.val (.int p0), .val (.int p1), .val (.int p2), .val (.int p3), .val (.int je), .unset, .unset, .unset, .unset, .unset, .unset, .unset] [(.long (1 : Int64))]))
        refine Go.st (fun _ => XS.iload X0.here hx rfl (hb hby at_24) rfl) ?_
        show Go p.tables e below P (s₁.setTop (mkF m 26 #[.val (.int p0), .val (.int p1), .val (.int p2), .val (.int p3), .val (.int je), .unset, .unset, .unset, .unset, .unset, .unset, .unset] [(.int je), (.long (1 : Int64))]))
        refine Go.st (fun _ => XS.lshl X0.here hx rfl (hb hby at_26) rfl) ?_
        show Go p.tables e below P (s₁.setTop (mkF m 27 #[.val (.int p0), .val (.int p1), .val (.int p2), .val (.int p3), .val (.int je), .unset, .unset, .unset, .unset, .unset, .unset, .unset] [(.long ((1 : Int64) <<< (je &&& 0x3f).toInt64))]))
        refine Go.st (fun _ => XS.l2dS X0.here hx rfl (hb hby at_27) rfl rfl) ?_
        show Go p.tables e below P (s₁.setTop (mkF m 28 #[.val (.int p0), .val (.int p1), .val (.int p2), .val (.int p3), .val (.int je), .unset, .unset, .unset, .unset, .unset, .unset, .unset] [(.double (FP.l2d ((1 : Int64) <<< (je &&& 0x3f).toInt64)))]))
        refine Go.st (fun _ => XS.dstore X0.here hx rfl (hb hby at_28) rfl (l' := #[.val (.int p0), .val (.int p1), .val (.int p2), .val (.int p3), .val (.int je), .val (.double (FP.l2d ((1 : Int64) <<< (je &&& 0x3f).toInt64))), .second, .unset, .unset, .unset, .unset, .unset]) rfl) ?_
        show Go p.tables e below P (s₁.setTop (mkF m 30 #[.val (.int p0), .val (.int p1), .val (.int p2), .val (.int p3), .val (.int je), .val (.double (FP.l2d ((1 : Int64) <<< (je &&& 0x3f).toInt64))), .second, .unset, .unset, .unset, .unset, .unset] []))
        refine Go.st (fun _ => X0.ldc2Long hx hown (mvT hZ (hw _ (List.mem_of_getElem? (i := 1) rfl))) (g := (mkF m 30 #[.val (.int p0), .val (.int p1), .val (.int p2), .val (.int p3), .val (.int je), .val (.double (FP.l2d ((1 : Int64) <<< (je &&& 0x3f).toInt64))), .second, .unset, .unset, .unset, .unset, .unset] [])) rfl (hb hby at_30) _) ?_
        show Go p.tables e below P (s₁.setTop (mkF m 33 #[.val (.int p0), .val (.int p1), .val (.int p2), .val (.int p3), .val (.int je), .val (.double (FP.l2d ((1 : Int64) <<< (je &&& 0x3f).toInt64))), .second, .unset, .unset, .unset, .unset, .unset] [(.long (3 : Int64))]))
        refine Go.st (fun _ => XS.iloadN X0.here hx rfl (hb hby at_33) rfl) ?_
        show Go p.tables e below P (s₁.setTop (mkF m 34 #[.val (.int p0), .val (.int p1), .val (.int p2), .val (.int p3), .val (.int je), .val (.double (FP.l2d ((1 : Int64) <<< (je &&& 0x3f).toInt64))), .second, .unset, .unset, .unset, .unset, .unset] [(.int p0), (.long (3 : Int64))]))
        refine Go.st (fun _ => XS.i2l X0.here hx rfl (hb hby at_34) rfl) ?_
        show Go p.tables e below P (s₁.setTop (mkF m 35 #[.val (.int p0), .val (.int p1), .val (.int p2), .val (.int p3), .val (.int je), .val (.double (FP.l2d ((1 : Int64) <<< (je &&& 0x3f).toInt64))), .second, .unset, .unset, .unset, .unset, .unset] [(.long (p0.toInt64)), (.long (3 : Int64))]))
        refine Go.st (fun _ => XS.lmul X0.here hx rfl (hb hby at_35) rfl) ?_
        show Go p.tables e below P (s₁.setTop (mkF m 36 #[.val (.int p0), .val (.int p1), .val (.int p2), .val (.int p3), .val (.int je), .val (.double (FP.l2d ((1 : Int64) <<< (je &&& 0x3f).toInt64))), .second, .unset, .unset, .unset, .unset, .unset] [(.long ((3 : Int64) * (p0.toInt64)))]))
        refine Go.st (fun _ => XS.lconst X0.here hx rfl (hb hby at_36)) ?_
        show Go p.tables e below P (s₁.setTop (mkF m 37 #[.val (.int p0), .val (.int p1), .val (.int p2), .val (.int p3), .val (.int je), .val (.double (FP.l2d ((1 : Int64) <<< (je &&& 0x3f).toInt64))), .second, .unset, .unset, .unset, .unset, .unset] [(.long (1 : Int64)), (.long ((3 : Int64) * (p0.toInt64)))]))
        refine Go.st (fun _ => XS.iload X0.here hx rfl (hb hby at_37) rfl) ?_
        show Go p.tables e below P (s₁.setTop (mkF m 39 #[.val (.int p0), .val (.int p1), .val (.int p2), .val (.int p3), .val (.int je), .val (.double (FP.l2d ((1 : Int64) <<< (je &&& 0x3f).toInt64))), .second, .unset, .unset, .unset, .unset, .unset] [(.int je), (.long (1 : Int64)), (.long ((3 : Int64) * (p0.toInt64)))]))
        refine Go.st (fun _ => XS.lshl X0.here hx rfl (hb hby at_39) rfl) ?_
        show Go p.tables e below P (s₁.setTop (mkF m 40 #[.val (.int p0), .val (.int p1), .val (.int p2), .val (.int p3), .val (.int je), .val (.double (FP.l2d ((1 : Int64) <<< (je &&& 0x3f).toInt64))), .second, .unset, .unset, .unset, .unset, .unset] [(.long ((1 : Int64) <<< (je &&& 0x3f).toInt64)), (.long ((3 : Int64) * (p0.toInt64)))]))
        refine Go.st (fun _ => XS.ladd X0.here hx rfl (hb hby at_40) rfl) ?_
        show Go p.tables e below P (s₁.setTop (mkF m 41 #[.val (.int p0), .val (.int p1), .val (.int p2), .val (.int p3), .val (.int je), .val (.double (FP.l2d ((1 : Int64) <<< (je &&& 0x3f).toInt64))), .second, .unset, .unset, .unset, .unset, .unset] [(.long (((3 : Int64) * (p0.toInt64)) + ((1 : Int64) <<< (je &&& 0x3f).toInt64)))]))
        refine Go.st (fun _ => XS.lstore X0.here hx rfl (hb hby at_41) rfl (l' := #[.val (.int p0), .val (.int p1), .val (.int p2), .val (.int p3), .val (.int je), .val (.double (FP.l2d ((1 : Int64) <<< (je &&& 0x3f).toInt64))), .second, .unset, .unset, .val (.long (((3 : Int64) * (p0.toInt64)) + ((1 : Int64) <<< (je &&& 0x3f).toInt64))), .second, .unset]) rfl) ?_
        show Go p.tables e below P (s₁.setTop (mkF m 43 #[.val (.int p0), .val (.int p1), .val (.int p2), .val (.int p3), .val (.int je), .val (.double (FP.l2d ((1 : Int64) <<< (je &&& 0x3f).toInt64))), .second, .unset, .unset, .val (.long (((3 : Int64) * (p0.toInt64)) + ((1 : Int64) <<< (je &&& 0x3f).toInt64))), .second, .unset] []))
        refine Go.st (fun _ => XS.lload X0.here hx rfl (hb hby at_43) rfl) ?_
        show Go p.tables e below P (s₁.setTop (mkF m 45 #[.val (.int p0), .val (.int p1), .val (.int p2), .val (.int p3), .val (.int je), .val (.double (FP.l2d ((1 : Int64) <<< (je &&& 0x3f).toInt64))), .second, .unset, .unset, .val (.long (((3 : Int64) * (p0.toInt64)) + ((1 : Int64) <<< (je &&& 0x3f).toInt64))), .second, .unset] [(.long (((3 : Int64) * (p0.toInt64)) + ((1 : Int64) <<< (je &&& 0x3f).toInt64)))]))
        refine Go.st (fun _ => XS.l2dS X0.here hx rfl (hb hby at_45) rfl rfl) ?_
        show Go p.tables e below P (s₁.setTop (mkF m 46 #[.val (.int p0), .val (.int p1), .val (.int p2), .val (.int p3), .val (.int je), .val (.double (FP.l2d ((1 : Int64) <<< (je &&& 0x3f).toInt64))), .second, .unset, .unset, .val (.long (((3 : Int64) * (p0.toInt64)) + ((1 : Int64) <<< (je &&& 0x3f).toInt64))), .second, .unset] [(.double (FP.l2d (((3 : Int64) * (p0.toInt64)) + ((1 : Int64) <<< (je &&& 0x3f).toInt64))))]))
        refine Go.st (fun _ => XS.lconst X0.here hx rfl (hb hby at_46)) ?_
        show Go p.tables e below P (s₁.setTop (mkF m 47 #[.val (.int p0), .val (.int p1), .val (.int p2), .val (.int p3), .val (.int je), .val (.double (FP.l2d ((1 : Int64) <<< (je &&& 0x3f).toInt64))), .second, .unset, .unset, .val (.long (((3 : Int64) * (p0.toInt64)) + ((1 : Int64) <<< (je &&& 0x3f).toInt64))), .second, .unset] [(.long (1 : Int64)), (.double (FP.l2d (((3 : Int64) * (p0.toInt64)) + ((1 : Int64) <<< (je &&& 0x3f).toInt64))))]))
        refine Go.st (fun _ => XS.iload X0.here hx rfl (hb hby at_47) rfl) ?_
        show Go p.tables e below P (s₁.setTop (mkF m 49 #[.val (.int p0), .val (.int p1), .val (.int p2), .val (.int p3), .val (.int je), .val (.double (FP.l2d ((1 : Int64) <<< (je &&& 0x3f).toInt64))), .second, .unset, .unset, .val (.long (((3 : Int64) * (p0.toInt64)) + ((1 : Int64) <<< (je &&& 0x3f).toInt64))), .second, .unset] [(.int je), (.long (1 : Int64)), (.double (FP.l2d (((3 : Int64) * (p0.toInt64)) + ((1 : Int64) <<< (je &&& 0x3f).toInt64))))]))
        refine Go.st (fun _ => XS.iconst X0.here hx rfl (hb hby at_49)) ?_
        show Go p.tables e below P (s₁.setTop (mkF m 50 #[.val (.int p0), .val (.int p1), .val (.int p2), .val (.int p3), .val (.int je), .val (.double (FP.l2d ((1 : Int64) <<< (je &&& 0x3f).toInt64))), .second, .unset, .unset, .val (.long (((3 : Int64) * (p0.toInt64)) + ((1 : Int64) <<< (je &&& 0x3f).toInt64))), .second, .unset] [(.int (2 : Int32)), (.int je), (.long (1 : Int64)), (.double (FP.l2d (((3 : Int64) * (p0.toInt64)) + ((1 : Int64) <<< (je &&& 0x3f).toInt64))))]))
        refine Go.st (fun _ => XS.iadd X0.here hx rfl (hb hby at_50) rfl) ?_
        show Go p.tables e below P (s₁.setTop (mkF m 51 #[.val (.int p0), .val (.int p1), .val (.int p2), .val (.int p3), .val (.int je), .val (.double (FP.l2d ((1 : Int64) <<< (je &&& 0x3f).toInt64))), .second, .unset, .unset, .val (.long (((3 : Int64) * (p0.toInt64)) + ((1 : Int64) <<< (je &&& 0x3f).toInt64))), .second, .unset] [(.int (je + (2 : Int32))), (.long (1 : Int64)), (.double (FP.l2d (((3 : Int64) * (p0.toInt64)) + ((1 : Int64) <<< (je &&& 0x3f).toInt64))))]))
        refine Go.st (fun _ => XS.lshl X0.here hx rfl (hb hby at_51) rfl) ?_
        show Go p.tables e below P (s₁.setTop (mkF m 52 #[.val (.int p0), .val (.int p1), .val (.int p2), .val (.int p3), .val (.int je), .val (.double (FP.l2d ((1 : Int64) <<< (je &&& 0x3f).toInt64))), .second, .unset, .unset, .val (.long (((3 : Int64) * (p0.toInt64)) + ((1 : Int64) <<< (je &&& 0x3f).toInt64))), .second, .unset] [(.long ((1 : Int64) <<< ((je + (2 : Int32)) &&& 0x3f).toInt64)), (.double (FP.l2d (((3 : Int64) * (p0.toInt64)) + ((1 : Int64) <<< (je &&& 0x3f).toInt64))))]))
        refine Go.st (fun _ => XS.l2dS X0.here hx rfl (hb hby at_52) rfl rfl) ?_
        show Go p.tables e below P (s₁.setTop (mkF m 53 #[.val (.int p0), .val (.int p1), .val (.int p2), .val (.int p3), .val (.int je), .val (.double (FP.l2d ((1 : Int64) <<< (je &&& 0x3f).toInt64))), .second, .unset, .unset, .val (.long (((3 : Int64) * (p0.toInt64)) + ((1 : Int64) <<< (je &&& 0x3f).toInt64))), .second, .unset] [(.double (FP.l2d ((1 : Int64) <<< ((je + (2 : Int32)) &&& 0x3f).toInt64))), (.double (FP.l2d (((3 : Int64) * (p0.toInt64)) + ((1 : Int64) <<< (je &&& 0x3f).toInt64))))]))
        refine Go.st (fun _ => XS.ddivS X0.here hx rfl (hb hby at_53) rfl (own_notnan hA.2.2.1) rfl) ?_
        show Go p.tables e below P (s₁.setTop (mkF m 54 #[.val (.int p0), .val (.int p1), .val (.int p2), .val (.int p3), .val (.int je), .val (.double (FP.l2d ((1 : Int64) <<< (je &&& 0x3f).toInt64))), .second, .unset, .unset, .val (.long (((3 : Int64) * (p0.toInt64)) + ((1 : Int64) <<< (je &&& 0x3f).toInt64))), .second, .unset] [(.double (FP.ddiv (FP.l2d (((3 : Int64) * (p0.toInt64)) + ((1 : Int64) <<< (je &&& 0x3f).toInt64))) (FP.l2d ((1 : Int64) <<< ((je + (2 : Int32)) &&& 0x3f).toInt64))))]))
        refine Go.st (fun _ => XS.dstore X0.here hx rfl (hb hby at_54) rfl (l' := #[.val (.int p0), .val (.int p1), .val (.int p2), .val (.int p3), .val (.int je), .val (.double (FP.l2d ((1 : Int64) <<< (je &&& 0x3f).toInt64))), .second, .val (.double (FP.ddiv (FP.l2d (((3 : Int64) * (p0.toInt64)) + ((1 : Int64) <<< (je &&& 0x3f).toInt64))) (FP.l2d ((1 : Int64) <<< ((je + (2 : Int32)) &&& 0x3f).toInt64)))), .second, .val (.long (((3 : Int64) * (p0.toInt64)) + ((1 : Int64) <<< (je &&& 0x3f).toInt64))), .second, .unset]) rfl) ?_
        show Go p.tables e below P (s₁.setTop (mkF m 56 #[.val (.int p0), .val (.int p1), .val (.int p2), .val (.int p3), .val (.int je), .val (.double (FP.l2d ((1 : Int64) <<< (je &&& 0x3f).toInt64))), .second, .val (.double (FP.ddiv (FP.l2d (((3 : Int64) * (p0.toInt64)) + ((1 : Int64) <<< (je &&& 0x3f).toInt64))) (FP.l2d ((1 : Int64) <<< ((je + (2 : Int32)) &&& 0x3f).toInt64)))), .second, .val (.long (((3 : Int64) * (p0.toInt64)) + ((1 : Int64) <<< (je &&& 0x3f).toInt64))), .second, .unset] []))
        refine Go.st (fun _ => XS.goto X0.here hx rfl (pc0 := 56) (pc' := 97) rfl (hb hby at_56) (by decide) (by decide)) ?_
        show Go p.tables e below P (s₁.setTop (mkF m 97 #[.val (.int p0), .val (.int p1), .val (.int p2), .val (.int p3), .val (.int je), .val (.double (FP.l2d ((1 : Int64) <<< (je &&& 0x3f).toInt64))), .second, .val (.double (FP.ddiv (FP.l2d (((3 : Int64) * (p0.toInt64)) + ((1 : Int64) <<< (je &&& 0x3f).toInt64))) (FP.l2d ((1 : Int64) <<< ((je + (2 : Int32)) &&& 0x3f).toInt64)))), .second, .val (.long (((3 : Int64) * (p0.toInt64)) + ((1 : Int64) <<< (je &&& 0x3f).toInt64))), .second, .unset] []))
        refine Go.st (fun _ => XS.iloadN X0.here hx rfl (hb hby at_97) rfl) ?_
        show Go p.tables e below P (s₁.setTop (mkF m 98 #[.val (.int p0), .val (.int p1), .val (.int p2), .val (.int p3), .val (.int je), .val (.double (FP.l2d ((1 : Int64) <<< (je &&& 0x3f).toInt64))), .second, .val (.double (FP.ddiv (FP.l2d (((3 : Int64) * (p0.toInt64)) + ((1 : Int64) <<< (je &&& 0x3f).toInt64))) (FP.l2d ((1 : Int64) <<< ((je + (2 : Int32)) &&& 0x3f).toInt64)))), .second, .val (.long (((3 : Int64) * (p0.toInt64)) + ((1 : Int64) <<< (je &&& 0x3f).toInt64))), .second, .unset] [(.int p0)]))
        refine Go.st (fun _ => XS.dload X0.here hx rfl (hb hby at_98) rfl) ?_
        show Go p.tables e below P (s₁.setTop (mkF m 100 #[.val (.int p0), .val (.int p1), .val (.int p2), .val (.int p3), .val (.int je), .val (.double (FP.l2d ((1 : Int64) <<< (je &&& 0x3f).toInt64))), .second, .val (.double (FP.ddiv (FP.l2d (((3 : Int64) * (p0.toInt64)) + ((1 : Int64) <<< (je &&& 0x3f).toInt64))) (FP.l2d ((1 : Int64) <<< ((je + (2 : Int32)) &&& 0x3f).toInt64)))), .second, .val (.long (((3 : Int64) * (p0.toInt64)) + ((1 : Int64) <<< (je &&& 0x3f).toInt64))), .second, .unset] [(.double (FP.l2d ((1 : Int64) <<< (je &&& 0x3f).toInt64))), (.int p0)]))
        obtain ⟨_, _, ⟨T21, L21, k21, n21⟩, -, X21, ⟨Lc21, hQ21, l21, y21, z21⟩, st21⟩ := Jvm.LawKit.callS X0 hx (y := (⟨"com/example/otsi/otsi/Bm25", "lengthFactor", "(ID)D"⟩ : MethodName)) hown (mvT hZ (hw _ (List.mem_of_getElem? (i := 3) rfl))) (mvT hZ (hw _ (List.mem_of_getElem? (i := 4) rfl))) (mvT hZ (hw _ (List.mem_of_getElem? (i := 5) rfl))) (mvT hZ (hw _ (List.mem_of_getElem? (i := 6) rfl))) (by decide) (backOf (W := 0) (rm_lf l Z a0 hw [] p0 (FP.l2d ((1 : Int64) <<< (je &&& 0x3f).toInt64)) h0 n0 X00 (own_notnan (own_x1 _).1) (own_notnan hA.1) (own_notnan hA.2.1)) hZ (hw _ (List.mem_of_getElem? (i := 6) rfl)) (hw _ (List.mem_of_getElem? (i := 5) rfl)) (by decide) (by decide)) (g := (mkF m 100 #[.val (.int p0), .val (.int p1), .val (.int p2), .val (.int p3), .val (.int je), .val (.double (FP.l2d ((1 : Int64) <<< (je &&& 0x3f).toInt64))), .second, .val (.double (FP.ddiv (FP.l2d (((3 : Int64) * (p0.toInt64)) + ((1 : Int64) <<< (je &&& 0x3f).toInt64))) (FP.l2d ((1 : Int64) <<< ((je + (2 : Int32)) &&& 0x3f).toInt64)))), .second, .val (.long (((3 : Int64) * (p0.toInt64)) + ((1 : Int64) <<< (je &&& 0x3f).toInt64))), .second, .unset] [(.double (FP.l2d ((1 : Int64) <<< (je &&& 0x3f).toInt64))), (.int p0)])) rfl (by rw [hml]; rfl) (argsL := [(.int p0), (.double (FP.l2d ((1 : Int64) <<< (je &&& 0x3f).toInt64)))]) (rest := []) (lenOf own_pd0 rfl) rfl (by show 2 * 0 + _ ≤ _; exact Nat.le_of_eq rfl) (hb hby at_100) (fun _ _ => ⟨rfl, e0, (by decide : 0 + 0 ≤ _), (by decide : 0 + 0 ≤ _)⟩)
        dsimp only [Pt.U, Pt.locs, Pt.cells, Pt.slots] at X21 l21 y21 z21 st21 hQ21
        subst l21 y21 z21
        refine Go.st st21 ?_
        obtain ⟨rfl, N21q, e21⟩ := hQ21
        have N21 := Fr.app N0 N21q
        show Go p.tables e below P (T21.setTop (mkF m 103 #[.val (.int p0), .val (.int p1), .val (.int p2), .val (.int p3), .val (.int je), .val (.double (FP.l2d ((1 : Int64) <<< (je &&& 0x3f).toInt64))), .second, .val (.double (FP.ddiv (FP.l2d (((3 : Int64) * (p0.toInt64)) + ((1 : Int64) <<< (je &&& 0x3f).toInt64))) (FP.l2d ((1 : Int64) <<< ((je + (2 : Int32)) &&& 0x3f).toInt64)))), .second, .val (.long (((3 : Int64) * (p0.toInt64)) + ((1 : Int64) <<< (je &&& 0x3f).toInt64))), .second, .unset] [(.double (FP.dadd (4598175219545276416 : UInt64) (FP.ddiv (FP.dmul (4604930618986332160 : UInt64) (FP.i2d p0)) (FP.l2d ((1 : Int64) <<< (je &&& 0x3f).toInt64)))))]))
        refine Go.st (fun _ => XS.dload X21.here hx rfl (hb hby at_103) rfl) ?_
        show Go p.tables e below P (T21.setTop (mkF m 105 #[.val (.int p0), .val (.int p1), .val (.int p2), .val (.int p3), .val (.int je), .val (.double (FP.l2d ((1 : Int64) <<< (je &&& 0x3f).toInt64))), .second, .val (.double (FP.ddiv (FP.l2d (((3 : Int64) * (p0.toInt64)) + ((1 : Int64) <<< (je &&& 0x3f).toInt64))) (FP.l2d ((1 : Int64) <<< ((je + (2 : Int32)) &&& 0x3f).toInt64)))), .second, .val (.long (((3 : Int64) * (p0.toInt64)) + ((1 : Int64) <<< (je &&& 0x3f).toInt64))), .second, .unset] [(.double (FP.ddiv (FP.l2d (((3 : Int64) * (p0.toInt64)) + ((1 : Int64) <<< (je &&& 0x3f).toInt64))) (FP.l2d ((1 : Int64) <<< ((je + (2 : Int32)) &&& 0x3f).toInt64)))), (.double (FP.dadd (4598175219545276416 : UInt64) (FP.ddiv (FP.dmul (4604930618986332160 : UInt64) (FP.i2d p0)) (FP.l2d ((1 : Int64) <<< (je &&& 0x3f).toInt64)))))]))
        refine Go.st (fun _ => XS.dcmpS X21.here hx rfl (hb hby at_105) rfl rfl) ?_
        show Go p.tables e below P (T21.setTop (mkF m 106 #[.val (.int p0), .val (.int p1), .val (.int p2), .val (.int p3), .val (.int je), .val (.double (FP.l2d ((1 : Int64) <<< (je &&& 0x3f).toInt64))), .second, .val (.double (FP.ddiv (FP.l2d (((3 : Int64) * (p0.toInt64)) + ((1 : Int64) <<< (je &&& 0x3f).toInt64))) (FP.l2d ((1 : Int64) <<< ((je + (2 : Int32)) &&& 0x3f).toInt64)))), .second, .val (.long (((3 : Int64) * (p0.toInt64)) + ((1 : Int64) <<< (je &&& 0x3f).toInt64))), .second, .unset] [(.int (cmpValue (FP.dcmp (FP.dadd (4598175219545276416 : UInt64) (FP.ddiv (FP.dmul (4604930618986332160 : UInt64) (FP.i2d p0)) (FP.l2d ((1 : Int64) <<< (je &&& 0x3f).toInt64)))) (FP.ddiv (FP.l2d (((3 : Int64) * (p0.toInt64)) + ((1 : Int64) <<< (je &&& 0x3f).toInt64))) (FP.l2d ((1 : Int64) <<< ((je + (2 : Int32)) &&& 0x3f).toInt64)))) .l))]))
        have hb22 : (cmpValue (FP.dcmp (FP.dadd (4598175219545276416 : UInt64) (FP.ddiv (FP.dmul (4604930618986332160 : UInt64) (FP.i2d p0)) (FP.l2d ((1 : Int64) <<< (je &&& 0x3f).toInt64)))) (FP.ddiv (FP.l2d (((3 : Int64) * (p0.toInt64)) + ((1 : Int64) <<< (je &&& 0x3f).toInt64))) (FP.l2d ((1 : Int64) <<< ((je + (2 : Int32)) &&& 0x3f).toInt64)))) .l) = (0 : Int32) := own_cmpeq hA.2.1 hA.2.2.1 hA.2.2.2 _
        refine Go.st (fun _ => XS.ifNo X21.here hx rfl (hb hby at_106) rfl ((if0 _ _).trans (teq hb22).2)) ?_
        show Go p.tables e below P (T21.setTop (mkF m 109 #[.val (.int p0), .val (.int p1), .val (.int p2), .val (.int p3), .val (.int je), .val (.double (FP.l2d ((1 : Int64) <<< (je &&& 0x3f).toInt64))), .second, .val (.double (FP.ddiv (FP.l2d (((3 : Int64) * (p0.toInt64)) + ((1 : Int64) <<< (je &&& 0x3f).toInt64))) (FP.l2d ((1 : Int64) <<< ((je + (2 : Int32)) &&& 0x3f).toInt64)))), .second, .val (.long (((3 : Int64) * (p0.toInt64)) + ((1 : Int64) <<< (je &&& 0x3f).toInt64))), .second, .unset] []))
        refine Go.st (fun _ => XS.iconst X21.here hx rfl (hb hby at_109)) ?_
        show Go p.tables e below P (T21.setTop (mkF m 110 #[.val (.int p0), .val (.int p1), .val (.int p2), .val (.int p3), .val (.int je), .val (.double (FP.l2d ((1 : Int64) <<< (je &&& 0x3f).toInt64))), .second, .val (.double (FP.ddiv (FP.l2d (((3 : Int64) * (p0.toInt64)) + ((1 : Int64) <<< (je &&& 0x3f).toInt64))) (FP.l2d ((1 : Int64) <<< ((je + (2 : Int32)) &&& 0x3f).toInt64)))), .second, .val (.long (((3 : Int64) * (p0.toInt64)) + ((1 : Int64) <<< (je &&& 0x3f).toInt64))), .second, .unset] [(.int (1 : Int32))]))
        refine Go.st (fun _ => XS.goto X21.here hx rfl (pc0 := 110) (pc' := 114) rfl (hb hby at_110) (by decide) (by decide)) ?_
        show Go p.tables e below P (T21.setTop (mkF m 114 #[.val (.int p0), .val (.int p1), .val (.int p2), .val (.int p3), .val (.int je), .val (.double (FP.l2d ((1 : Int64) <<< (je &&& 0x3f).toInt64))), .second, .val (.double (FP.ddiv (FP.l2d (((3 : Int64) * (p0.toInt64)) + ((1 : Int64) <<< (je &&& 0x3f).toInt64))) (FP.l2d ((1 : Int64) <<< ((je + (2 : Int32)) &&& 0x3f).toInt64)))), .second, .val (.long (((3 : Int64) * (p0.toInt64)) + ((1 : Int64) <<< (je &&& 0x3f).toInt64))), .second, .unset] [(.int (1 : Int32))]))
        obtain ⟨fs, hr, hrun, hended, hW, hsame⟩ := X21.leave (v := some (.int (1 : Int32))) (fun h => by rw [Bd.returns] at h; cases h)
        refine ⟨_, ?_, hPend _ _ hrun hended ⟨_, _, rfl, ?_, ⟨_, rfl⟩, hW, hsame.mono (by decide) (by decide)⟩⟩
        · exact retN X21 hx (t := .boolean) Bd.returns (by simp) (hb hby at_114) hr
        · show Q_rm_law Z _ _ _ _ h0 n0 _ T21.heap _
          rw [e21]
          exact ⟨rfl, N21, rfl⟩
set_option maxRecDepth 65536 in
set_option maxHeartbeats 40000000 in
theorem comes_1 {Post : Tables → Env → Array Value → State → Outcome → State → Prop} (hpost : ∀ tb e args s v u, (limb_1_1.after args s (.returned v) u = true ∧ limb_1_2.after args s (.returned v) u = true ∧ True) → FrameEnd s (.returned v) u (Jvm.fieldLocs frame_1_writes args s ++ Jvm.arrayLocs frame_1_arrays args s ++ Jvm.staticLocs frame_1_statics s) 0 0 → Post tb e args s (.returned v) u) :
    ArmFor flags0 classFile x code maxLocals ret World_1 tables_1 room_1 Calls_1 rest_1 Pre_1 Post := by
  intro l hfl _ _ p e ha hc hk s m args below hf hA hF happ hP
  obtain ⟨hcalls, hrest, hpre⟩ := hP
  obtain ⟨-, -, -, hnamed, -, -, -, hat⟩ := (Spec.applies_iff hf).mp happ
  obtain ⟨hg, hn⟩ := and_e (Cond.before_iff.mp (show (Jvm.Cond.and given_1 narrow_1).before args s = true from hpre))
  obtain ⟨hc_1, hc_2⟩ := and_e hg
  obtain ⟨hc_3, hc_4⟩ := and_e hc_2
  obtain ⟨hc_5, hc_6⟩ := and_e hc_4
  obtain ⟨hc_7, hc_8⟩ := and_e hc_6
  obtain ⟨w0, w1, w2, w3, rfl⟩ : ∃ w0 w1 w2 w3 : Value, args = #[w0, w1, w2, w3] := by
    have hs : args.size = 4 := by simpa [Cond.value, given_1] using hc_1
    obtain ⟨L⟩ := args
    match L, hs with
    | [w0, w1, w2, w3], _ => exact ⟨w0, w1, w2, w3, rfl⟩
  have hw := fun d (hd : d ∈ tables_1) => atoms_spec (ws := Jvm.Cond.code x code maxLocals ret :: tables_1) hat d (List.mem_cons_of_mem _ hd)
  have hfit : Fit s := fun {y c} hc i hi => by
    obtain ⟨ha, rfl⟩ := Array.getElem?_eq_some_iff.mp hc
    have q := List.all_eq_true.mp ((Array.all_eq_true_iff_forall_mem.mp hF) _ (Array.getElem_mem ha)) i (List.mem_range.mpr hi)
    simpa [Array.getElem?_eq_getElem hi] using q
  obtain ⟨i0, ea0⟩ := is_v hc_3
  obtain rfl : w0 = (.int i0) := Option.some.inj ea0
  obtain ⟨i1, ea1⟩ := is_v hc_5
  obtain rfl : w1 = (.int i1) := Option.some.inj ea1
  obtain ⟨i2, ea2⟩ := is_v hc_7
  obtain rfl : w2 = (.int i2) := Option.some.inj ea2
  obtain ⟨i3, ea3⟩ := is_v hc_8
  obtain rfl : w3 = (.int i3) := Option.some.inj ea3
  obtain ⟨n, o, h1, h2, h3, _, L, rfl, ⟨rfl, N, _⟩, hq⟩ := rm_law l s _ hw tables_1  i0 i1 i2 i3 s.heap s.heap.size (Old.start s) p e ha hc hk s m _ below hf ((Spec.applies_iff_loose hf).mp happ).1 ⟨rfl, State.Warmed39.refl s, rfl⟩ trivial
  refine ⟨n, _, h1, h2, h3, hpost _ _ _ _ _ _ ⟨Cond.after_iff.mpr rfl, Cond.after_iff.mpr (eq_i res_at (Term.int_eval (1)) rfl), trivial⟩ ⟨hq.1, hq.2.1, (hq.2.2.sift fun y hy => Or.inr (N y hy)).mono (by decide) (by decide)⟩⟩
theorem main_1_1 : Claimed_1_1 := comes_1 fun _ _ _ _ _ _ h hF => ⟨h.1, hF⟩
theorem main_1_2 : Claimed_1_2 := comes_1 fun _ _ _ _ _ _ h hF => ⟨h.2.1, hF⟩
end Jvm.Pilot.@@N@@
namespace Jvm.Pilot.@@N@@
open Jvm Jvm.ClassFile Sem Op Lib Jvm.Free Jvm.Stand Jvm.Pilot.@@N@@.Jvm.D
/-! MADE BY PROGRAM (witnessworld.py) out of the Statement's table words and the real class files: 10 classes; the members and pool entries that the words name. The judged class is class 1, her method 1. -/
namespace start1
open Jvm.ClassFile
def u (s : String) : CpInfo := .utf8 (stringToUtf16 s)
/-- a pool by its gaps: so many unusable entries, then the entry; so many at the end -/
def gap : Nat → List CpInfo → List CpInfo
  | 0, r => r
  | n + 1, r => .unusable :: gap n r
def poolList (es : List (Nat × CpInfo)) (last : Nat) : List CpInfo := es.foldr (fun e r => gap e.1 (e.2 :: r)) (gap last [])
def pool (es : List (Nat × CpInfo)) (last : Nat) : Array CpInfo := ⟨poolList es last⟩
def fileOf (pool : Array CpInfo) (this : Nat) (attrs : Array Attribute := #[]) (ms : Array MethodInfo := #[]) (fl : Nat := 33) (sup : Nat := 0) (ifs : Array Nat := #[]) (fds : Array FieldInfo := #[]) : ClassFile where
  minorVersion := 0
  majorVersion := 65
  constantPool := pool
  accessFlags := fl
  thisClass := this
  superClass := sup
  interfaces := ifs
  fields := fds
  methods := ms
  attributes := attrs
def plain (name : String) (sup : Option ClassId) : Class where
  name := name
  kind := .ordinary
  loader := none
  accessFlags := 33
  super := sup
  interfaces := #[]
  cf := none
  fields := #[]
  methods := #[]
  instanceTypes := #[]
  staticTypes := #[]
  resolved := #[]
  callSites := []
  init := .initialized
  statics := none
  mirror := none

def pool0 : Array CpInfo := pool [(5, u "<init>"), (0, u "()V"), (1, .class_ 10), (1, u "java/lang/Object")] 113

def k0m0 : Method := { name := "<init>", desc := "()V", sig := { parameters := [], returnType := none }, accessFlags := 1, code := none }
/-- java/lang/Object -/
def k0 : Class := { plain "java/lang/Object" none with
  accessFlags := 33
  interfaces := #[]
  cf := some (fileOf pool0 8 #[] #[{ accessFlags := 1, nameIndex := 5, descriptorIndex := 6, attributes := #[] }] 33 0 #[] #[])
  fields := #[]
  methods := #[k0m0]
  instanceTypes := #[]
  staticTypes := #[]
  resolved := Array.replicate 124 none
  statics := none }

def pool1 : Array CpInfo := pool [(2, .class_ 4), (1, u "java/lang/Object"), (0, u "<init>"), (0, u "()V"), (0, .integer 2147483647), (0, .long 3), (1, .double 4616189618054758400), (1, .methodref 13 14), (0, .class_ 15), (0, .nameAndType 16 17), (0, u "com/example/otsi/otsi/Bm25"), (0, u "lengthFactor"), (0, u "(ID)D"), (0, .double 4598175219545276416), (1, .class_ 21), (0, u "com/example/otsi/otsi/Bm25LengthFactorPinLaw"), (2, u "law"), (0, u "(IIII)Z")] 3

def k1m0 : Method := { name := "<init>", desc := "()V", sig := { parameters := [], returnType := none }, accessFlags := 1, code := none }
def k1c1 : Code := { maxStack := 6, maxLocals := 12, code := code, exceptionTable := #[], attributes := #[] }
def k1m1 : Method := { name := "law", desc := "(IIII)Z", sig := { parameters := [.int, .int, .int, .int], returnType := some .boolean }, accessFlags := 9, code := some k1c1 }
/-- com/example/otsi/otsi/Bm25LengthFactorPinLaw -/
def k1 : Class := { plain "com/example/otsi/otsi/Bm25LengthFactorPinLaw" (some 0) with
  accessFlags := 49
  interfaces := #[]
  cf := some (fileOf pool1 20 #[] #[{ accessFlags := 1, nameIndex := 5, descriptorIndex := 6, attributes := #[] }, { accessFlags := 9, nameIndex := 24, descriptorIndex := 25, attributes := #[] }] 49 2 #[] #[])
  fields := #[]
  methods := #[k1m0, k1m1]
  instanceTypes := #[]
  staticTypes := #[]
  resolved := Array.replicate 29 none
  statics := none }

def pool2 : Array CpInfo := pool [(1, .class_ 2), (0, u "com/example/otsi/otsi/RankingModel"), (0, .class_ 4), (0, u "java/lang/Object")] 6

/-- com/example/otsi/otsi/RankingModel -/
def k2 : Class := { plain "com/example/otsi/otsi/RankingModel" (some 0) with
  accessFlags := 1536
  interfaces := #[]
  cf := some (fileOf pool2 1 #[] #[] 1536 3 #[] #[])
  fields := #[]
  methods := #[]
  instanceTypes := #[]
  staticTypes := #[]
  resolved := Array.replicate 11 none
  statics := none }

def pool3 : Array CpInfo := pool [(2, .class_ 4), (1, u "java/lang/Object"), (3, .class_ 10), (1, u "com/example/otsi/otsi/Bm25"), (0, u "index"), (0, u "Lcom/example/otsi/otsi/Index;"), (59, u "lengthFactor"), (0, u "(ID)D"), (20, .double 4598175219545276416), (1, .double 4604930618986332160), (5, .class_ 103), (0, u "com/example/otsi/otsi/RankingModel"), (0, u "K1"), (0, u "D"), (1, u "B")] 13

def k3c0 : Code := { maxStack := 6, maxLocals := 3, code := prog_2_method_4_code, exceptionTable := #[], attributes := #[] }
def k3m0 : Method := { name := "lengthFactor", desc := "(ID)D", sig := { parameters := [.int, .double], returnType := some .double }, accessFlags := 8, code := some k3c0 }
/-- com/example/otsi/otsi/Bm25 -/
def k3 : Class := { plain "com/example/otsi/otsi/Bm25" (some 0) with
  accessFlags := 32
  interfaces := #[2]
  cf := some (fileOf pool3 8 #[] #[{ accessFlags := 8, nameIndex := 72, descriptorIndex := 73, attributes := #[] }] 32 2 #[102] #[{ accessFlags := 24, nameIndex := 104, descriptorIndex := 105, attributes := #[] }, { accessFlags := 24, nameIndex := 107, descriptorIndex := 105, attributes := #[] }, { accessFlags := 18, nameIndex := 11, descriptorIndex := 12, attributes := #[] }])
  fields := #[{ name := "K1", type := .double, accessFlags := 24, slot := 0, constantValue := 0 }, { name := "B", type := .double, accessFlags := 24, slot := 1, constantValue := 0 }, { name := "index", type := (.object "com/example/otsi/otsi/Index"), accessFlags := 18, slot := 0, constantValue := 0 }]
  methods := #[k3m0]
  instanceTypes := #[(.object "com/example/otsi/otsi/Index")]
  staticTypes := #[.double, .double]
  resolved := Array.replicate 121 none
  statics := none }

def pool4 : Array CpInfo := pool [(1, u "java/lang/Cloneable"), (0, .class_ 1), (0, u "java/lang/Object"), (0, .class_ 3)] 3

/-- java/lang/Cloneable -/
def k4 : Class := { plain "java/lang/Cloneable" (some 0) with
  accessFlags := 1537
  interfaces := #[]
  cf := some (fileOf pool4 2 #[] #[] 1537 4 #[] #[])
  fields := #[]
  methods := #[]
  instanceTypes := #[]
  staticTypes := #[]
  resolved := Array.replicate 8 none
  statics := none }

def pool5 : Array CpInfo := pool [(1, u "java/io/Serializable"), (0, .class_ 1), (0, u "java/lang/Object"), (0, .class_ 3)] 3

/-- java/io/Serializable -/
def k5 : Class := { plain "java/io/Serializable" (some 0) with
  accessFlags := 1537
  interfaces := #[]
  cf := some (fileOf pool5 2 #[] #[] 1537 4 #[] #[])
  fields := #[]
  methods := #[]
  instanceTypes := #[]
  staticTypes := #[]
  resolved := Array.replicate 8 none
  statics := none }

/-- the primitive byte -/
def k6 : Class := { plain "byte" none with kind := .primitive 'B', accessFlags := 0x411 }
/-- [B -/
def k7 : Class := { plain "[B" (some 0) with kind := .array 6 .byte, interfaces := #[4, 5], accessFlags := 1041 }

/-- the primitive int -/
def k8 : Class := { plain "int" none with kind := .primitive 'I', accessFlags := 0x411 }
/-- [I -/
def k9 : Class := { plain "[I" (some 0) with kind := .array 8 .int, interfaces := #[4, 5], accessFlags := 1041 }

def heap : Heap := #[]
def classes : Array Class := #[k0, k1, k2, k3, k4, k5, k6, k7, k8, k9]
def interned : List (Array UInt16 × Addr) := []
def slotsUsed : Nat := 0
def theMethod : MethodId := ⟨1, 1⟩
def args0 : Array Value := #[.int 5, .int 6, .int 7, .int 9]
def aboutOver (below : List Frame) : State where
  vm := { classes := classes, interned := interned.toArray }
  heap := heap
  slotsUsed := slotsUsed
  threads := #[{ frames := .invoking theMethod args0 :: below }]
def below0 : List Frame := [.native { method := ⟨0, 0⟩, args := #[] }]
def about1 : State := aboutOver below0
def p0 : Program := .bare "" "" ""
def e0 : Env := launch0.env 0 0 0
theorem w_frames : about1.frames = Frame.invoking theMethod args0 :: below0 := rfl
set_option maxRecDepth 65536 in
theorem w_args : argsFit about1.vm theMethod args0 = true := by decide +kernel
set_option maxRecDepth 65536 in
theorem w_heap : heapFits about1 = true := by decide +kernel
set_option maxRecDepth 65536 in
theorem w_runnable : about1.curStatus? = some .runnable := by decide +kernel
set_option maxRecDepth 65536 in
theorem w_alone : about1.alone = true := by decide +kernel
set_option maxRecDepth 65536 in
theorem w_named : about1.methodNamed? x = some theMethod := by decide +kernel
set_option maxRecDepth 65536 in
theorem w_hears : about1.hears theMethod below0 = true := by decide +kernel
set_option maxRecDepth 65536 in
theorem w_ripe : about1.ripe theMethod args0 below0 = true := by decide +kernel
theorem w_running : about1.status = .running := rfl
set_option maxRecDepth 65536 in
theorem w_room : about1.hasRoom e0.platform room_1 = true :=
  launch0.hasRoom_least _ room_1 (by decide +kernel) (by decide +kernel) (by decide +kernel) (by decide +kernel) (by decide +kernel) (by decide +kernel)
theorem allAtoms_all (ts : List Jvm.Cond) (a : Array Jvm.Value) (st : Jvm.State) : (allAtoms ts).before a st = ts.all (fun c => c.before a st) := by
  induction ts with
  | nil => rfl
  | cons c t ih =>
    show (Jvm.Cond.and c (allAtoms t)).before a st = _
    rw [Jvm.Cond.before_and, ih, List.all_cons]
def words1 : List Jvm.Cond := Jvm.Cond.code x code maxLocals ret :: tables_1
/-- a 'code' word, met by the world's own term for the bytes: nothing is compared byte by byte -/
theorem code_word {y : MethodName} {bytes : ByteArray} {mx : Nat} {rt : Option FieldType} {a : Array Value} {s : State} {m : MethodId} {meth : Method} {c : Code} (h1 : s.methodNamed? y = some m) (h2 : s.vm.method? m = some meth) (h3 : meth.code = some c) (h4 : c.code = bytes)
    (h5 : (c.maxLocals == mx && c.exceptionTable.isEmpty && decide (c.maxStack ≤ mostOperands) && decide (meth.sig.returnType = rt) && !meth.locks && decide (parseMethodDescriptor y.desc = some meth.sig)) = true) : (Jvm.Cond.code y bytes mx rt).before a s = true := by
  simp only [Bool.and_eq_true, beq_iff_eq, Bool.not_eq_true', decide_eq_true_eq] at h5
  obtain ⟨⟨⟨⟨⟨g1, g2⟩, g3⟩, g4⟩, g5⟩, g6⟩ := h5
  simp [Cond.before, Cond.holds, Cond.value, h1, h2, h3, h4, g1, g2, g3, g4, g5, g6]
def isCode : Jvm.Cond → Bool
  | .code _ _ _ _ => true
  | _ => false
theorem all_split {L : List Jvm.Cond} {P : Jvm.Cond → Bool} (h1 : L.all (fun c => isCode c || P c) = true) (h2 : ∀ c ∈ L.filter isCode, P c = true) : L.all P = true := by
  refine List.all_eq_true.mpr fun c hc => ?_
  have h := List.all_eq_true.mp h1 c hc
  rcases Bool.eq_false_or_eq_true (isCode c) with hi | hi
  · exact h2 c (List.mem_filter.mpr ⟨hc, hi⟩)
  · simpa [hi] using h
set_option maxRecDepth 65536 in
theorem w_c0 : (Jvm.Cond.code x code maxLocals ret).before args0 about1 = true := code_word (m := ⟨1, 1⟩) (meth := k1m1) (c := k1c1) (by decide +kernel) rfl rfl rfl (by decide +kernel)
set_option maxRecDepth 65536 in
theorem w_c1 : (Jvm.Cond.code ({ cls := "com/example/otsi/otsi/Bm25", name := "lengthFactor", desc := "(ID)D" } : Jvm.MethodName) prog_2_method_4_code (3 : Nat) (Option.some Jvm.ClassFile.FieldType.double)).before args0 about1 = true := code_word (m := ⟨3, 0⟩) (meth := k3m0) (c := k3c0) (by decide +kernel) rfl rfl rfl (by decide +kernel)
def codes1 : List Jvm.Cond := [Jvm.Cond.code x code maxLocals ret, Jvm.Cond.code ({ cls := "com/example/otsi/otsi/Bm25", name := "lengthFactor", desc := "(ID)D" } : Jvm.MethodName) prog_2_method_4_code (3 : Nat) (Option.some Jvm.ClassFile.FieldType.double)]
set_option maxRecDepth 65536 in
theorem codes_eq : words1.filter isCode = codes1 := rfl
theorem w_codes : ∀ c ∈ words1.filter isCode, c.before args0 about1 = true := by
  rw [codes_eq]
  intro c hc
  simp only [codes1, List.mem_cons, List.not_mem_nil, or_false] at hc
  rcases hc with rfl | rfl
  · exact w_c0
  · exact w_c1
set_option maxRecDepth 65536 in
theorem w_t1 : words1.all (fun c => isCode c || c.before args0 about1) = true := by decide +kernel
theorem w_tables : (allAtoms (Jvm.Cond.code x code maxLocals ret :: tables_1)).before args0 about1 = true := by
  rw [allAtoms_all]
  show words1.all (fun c => c.before args0 about1) = true
  refine all_split ?_ w_codes
  rw [w_t1]
set_option maxRecDepth 65536 in
theorem w_case : (Jvm.Cond.and given_1 narrow_1).before args0 about1 = true := by decide +kernel
theorem w_applies : (headSpec (Jvm.Cond.code x code maxLocals ret :: tables_1) room_1).applies x e0.platform about1 = true :=
  (Spec.applies_iff w_frames).mpr ⟨w_running, w_runnable, w_alone, w_named, w_hears, w_ripe, w_room, w_tables⟩
theorem atStart : AtStart classFile x code maxLocals ret World_1 tables_1 room_1 Calls_1 rest_1 Pre_1 launch0 p0 e0 about1 theMethod args0 below0 :=
  ⟨lists_1, trivial, launch0.admits_env _ _ _, launch0.least_env, fairChoices_fair.cas, fairChoices_fair.clock, w_frames, w_args, w_heap, w_applies, trivial, trivial, w_case⟩
end start1
theorem witness_1 : WitnessClaimed_1 := ⟨start1.p0, start1.e0, start1.about1, start1.theMethod, start1.args0, start1.below0, start1.atStart⟩
end Jvm.Pilot.@@N@@
