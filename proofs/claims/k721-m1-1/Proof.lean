import JvmDerived
import JvmDerived.Pilot.@@N@@Statement
import JvmDerived.Pilot.@@N@@Code
set_option linter.unusedVariables false
set_option linter.unusedSimpArgs false
namespace Jvm.Pilot.@@N@@
open Jvm Jvm.ClassFile Sem Op Lib Jvm.Free Jvm.Stand Jvm.LawKit Jvm.RoadKit Bundle Jvm.Pilot.@@N@@.Jvm.D
section own_walk
variable {p : Program} {l : Launch} {e : Env} {R : Room} {s : State} {m : MethodId} {args : Array Value} {below : List Frame} {meth : Method} {c : Code} {T : State} {locs : List Loc} {cells slots : Nat} {Z : State} {h h' : Heap}
def own_Fin (p : Program) (e : Env) (below : List Frame) (P : Outcome → State → Prop) (g : State) : Prop :=
  ∃ s₂ o, Steps p.tables e below g s₂ ∧ s₂.status = .running ∧ Ended s₂ below o ∧ P o s₂
def own_P (Q : Option Value → Heap → List Loc → Prop) (s : State) (k n : Nat) (o : Outcome) (s₂ : State) : Prop :=
  ∃ v L, o = .returned v ∧ Q v s₂.heap L ∧ FrameEnd s o s₂ L k n
theorem own_via {P : Outcome → State → Prop} {g g' : State} (k : ∀ t, Steps p.tables e below g' t → Steps p.tables e below g t) (H : own_Fin p e below P g') : own_Fin p e below P g := by
  obtain ⟨s₂, o, a, b⟩ := H
  exact ⟨s₂, o, k _ a, b⟩
theorem own_ret {v : Option Value} {g : State} {Q : Option Value → Heap → List Loc → Prop} {k n : Nat} (X : Stand p l e R s m args below meth c T locs cells slots) (hlk : meth.locks = false) (hv : meth.sig.returnType = none → v = none)
    (hst : ∀ fs, (∀ (f : JFrame) (acts : List Action), f.method = m → f.locked = none → f.entered = [] → (doReturn e (T.setTop f) acts v).1 = T.setFrames fs) → Steps p.tables e below g (T.setFrames fs))
    (hQ : Q v T.heap locs) (hk : cells ≤ k) (hn : slots ≤ n) : own_Fin p e below (own_P Q s k n) g := by
  obtain ⟨fs, hr, hrun, hended, hW, hsame⟩ := X.leave (v := v) hv hlk
  exact ⟨_, _, hst fs hr, hrun, hended, _, _, rfl, hQ, ⟨_, rfl⟩, hW, hsame.mono hk hn⟩
theorem own_retW {w : Value} {t : FieldType} {i : Instr} {pc : Nat} {Ls : Array Slot} {rest : List Value} {Q : Option Value → Heap → List Loc → Prop} {k n : Nat} (X : Stand p l e R s m args below meth c T locs cells slots) (hx : p.tables.exec = Jvm.exec) (hlk : meth.locks = false) (hret : meth.sig.returnType = some t) (hnw : narrow t w = w)
    (hi : (i = .ireturn ∧ (t = .int ∨ t = .boolean ∨ t = .byte ∨ t = .char ∨ t = .short) ∧ ∃ z, w = .int z) ∨ (i = .lreturn ∧ t = .long ∧ ∃ z, w = .long z) ∨ (i = .dreturn ∧ t = .double ∧ ∃ z, w = .double z) ∨ (i = .freturn ∧ t = .float ∧ ∃ z, w = .float z) ∨ (i = .areturn ∧ t.isReference = true ∧ w.isRef = true))
    (hd : decode c.code pc = .ok (i, 1)) (hQ : Q (some w) T.heap locs) (hk : cells ≤ k) (hn : slots ≤ n) : own_Fin p e below (own_P Q s k n) (T.setTop (mkF m pc Ls (w :: rest))) :=
  own_ret X hlk (fun q => by rw [hret] at q; cases q) (fun fs hr => retOut X hx hret hnw hi hd hr) hQ hk hn
theorem own_retI {z : Int32} {pc : Nat} {Ls : Array Slot} {rest : List Value} {Q : Option Value → Heap → List Loc → Prop} {k n : Nat} (X : Stand p l e R s m args below meth c T locs cells slots) (hx : p.tables.exec = Jvm.exec) (hlk : meth.locks = false) (hret : meth.sig.returnType = some .int)
    (hd : decode c.code pc = .ok (.ireturn, 1)) (hQ : Q (some (.int z)) T.heap locs) (hk : cells ≤ k) (hn : slots ≤ n) : own_Fin p e below (own_P Q s k n) (T.setTop (mkF m pc Ls (.int z :: rest))) :=
  own_retW X hx hlk hret rfl (Or.inl ⟨rfl, Or.inl rfl, z, rfl⟩) hd hQ hk hn
theorem own_retJ {z : Int64} {pc : Nat} {Ls : Array Slot} {rest : List Value} {Q : Option Value → Heap → List Loc → Prop} {k n : Nat} (X : Stand p l e R s m args below meth c T locs cells slots) (hx : p.tables.exec = Jvm.exec) (hlk : meth.locks = false) (hret : meth.sig.returnType = some .long)
    (hd : decode c.code pc = .ok (.lreturn, 1)) (hQ : Q (some (.long z)) T.heap locs) (hk : cells ≤ k) (hn : slots ≤ n) : own_Fin p e below (own_P Q s k n) (T.setTop (mkF m pc Ls (.long z :: rest))) :=
  own_retW X hx hlk hret rfl (Or.inr (Or.inl ⟨rfl, rfl, z, rfl⟩)) hd hQ hk hn
theorem own_nref {t : FieldType} {w : Value} (hw : w.isRef = true) : narrow t w = w := by
  cases w <;> first | (cases t <;> rfl) | (cases hw)
theorem own_fitR {c : String} {w : Value} (hw : w.isRef = true) : fits (.object c) w = true := by
  cases w <;> first | rfl | (cases hw)
theorem own_retA {w : Value} {t : FieldType} {pc : Nat} {Ls : Array Slot} {rest : List Value} {Q : Option Value → Heap → List Loc → Prop} {k n : Nat} (X : Stand p l e R s m args below meth c T locs cells slots) (hx : p.tables.exec = Jvm.exec) (hlk : meth.locks = false) (hw : w.isRef = true) (hret : meth.sig.returnType = some t) (ht : t.isReference = true)
    (hd : decode c.code pc = .ok (.areturn, 1)) (hQ : Q (some w) T.heap locs) (hk : cells ≤ k) (hn : slots ≤ n) : own_Fin p e below (own_P Q s k n) (T.setTop (mkF m pc Ls (w :: rest))) :=
  own_retW X hx hlk hret (own_nref hw) (Or.inr (Or.inr (Or.inr (Or.inr ⟨rfl, ht, hw⟩)))) hd hQ hk hn
theorem own_retB {z : Int32} {t : FieldType} {pc : Nat} {Ls : Array Slot} {rest : List Value} {Q : Option Value → Heap → List Loc → Prop} {k n : Nat} (X : Stand p l e R s m args below meth c T locs cells slots) (hx : p.tables.exec = Jvm.exec) (hlk : meth.locks = false) (hret : meth.sig.returnType = some t) (ht : t = .boolean ∨ t = .byte ∨ t = .char ∨ t = .short)
    (hd : decode c.code pc = .ok (.ireturn, 1)) (hQ : Q (some (.int (nar t z))) T.heap locs) (hk : cells ≤ k) (hn : slots ≤ n) : own_Fin p e below (own_P Q s k n) (T.setTop (mkF m pc Ls (.int z :: rest))) :=
  own_ret X hlk (fun q => by rw [hret] at q; cases q) (fun fs hr => retN X hx hret ht hd hr) hQ hk hn
theorem own_retV {pc : Nat} {Ls : Array Slot} {Q : Option Value → Heap → List Loc → Prop} {k n : Nat} (X : Stand p l e R s m args below meth c T locs cells slots) (hx : p.tables.exec = Jvm.exec) (hlk : meth.locks = false) (hret : meth.sig.returnType = none)
    (hd : decode c.code pc = .ok (.return_, 1)) (hQ : Q none T.heap locs) (hk : cells ≤ k) (hn : slots ≤ n) : own_Fin p e below (own_P Q s k n) (T.setTop (mkF m pc Ls [])) :=
  own_ret X hlk (fun _ => rfl) (fun fs hr => X.returnOut hx hret hd hr) hQ hk hn
/-- an array: its kind and its members -/
def own_Ar (Z : State) (h : Heap) (a : Addr) (ty : FieldType) (L : List Value) : Prop := ∃ c : Cell, Arr Z h a c ty ∧ c.slots.toList = L
theorem own_Ar.ext {a : Addr} {ty : FieldType} {L : List Value} (F : own_Ar Z h a ty L) (E : Ext h h') : own_Ar Z h' a ty L := by obtain ⟨c, A, r⟩ := F; exact ⟨c, A.ext E, r⟩
theorem own_Ar.other {a b : Addr} {sl : Nat} {v : Value} {ty : FieldType} {L : List Value} (F : own_Ar Z h b ty L) (W : Wr h h' a sl v) (q : b ≠ a) : own_Ar Z h' b ty L := by obtain ⟨c, A, r⟩ := F; exact ⟨c, A.other W q, r⟩
theorem own_Ar.keep {a : Addr} {ws : List Addr} {ty : FieldType} {L : List Value} (F : own_Ar Z h a ty L) (K : Keep h h' ws) (q : a ∉ ws) : own_Ar Z h' a ty L := by obtain ⟨c, A, r⟩ := F; exact ⟨c, ⟨K.2.1 a c A.1 q, A.2⟩, r⟩
theorem own_Ar.lt {a : Addr} {ty : FieldType} {L : List Value} (F : own_Ar Z h a ty L) : a < h.size := by obtain ⟨c, A, r⟩ := F; exact A.lt
theorem own_Ar.set {a : Addr} {j : Nat} {v : Value} {ty : FieldType} {L : List Value} (F : own_Ar Z h a ty L) (W : Wr h h' a j v) : own_Ar Z h' a ty (L.set j v) := by
  obtain ⟨c, A, r⟩ := F
  refine ⟨_, A.same W, ?_⟩
  subst r
  simp [Cell.setSlot]
theorem own_in {c : Cell} {L : List Value} (r : c.slots.toList = L) {j : Int32} (h0 : ¬ j < 0) (hj : j.toNatClampNeg < L.length) : ¬ (j < 0 ∨ c.slots.size ≤ j.toNatClampNeg) := by
  subst r
  simp only [Array.length_toList] at hj
  intro q
  rcases q with q | q
  · exact h0 q
  · omega
theorem own_at {c : Cell} {L : List Value} (r : c.slots.toList = L) {j : Nat} {v : Value} (hv : L[j]? = some v) : c.slots[j]? = some v := by
  subst r; simpa using hv
theorem own_inv {c : Cell} {L : List Value} (r : c.slots.toList = L) {j : Int32} {v : Value} (h0 : ¬ j < 0) (hv : L[j.toNatClampNeg]? = some v) : ¬ (j < 0 ∨ c.slots.size ≤ j.toNatClampNeg) :=
  own_in r h0 (List.getElem?_eq_some_iff.mp hv).1
theorem own_newP {a0 : Array Value} (X : Stand p l e R s m args below meth c T locs cells slots) (hx : p.tables.exec = Jvm.exec) (hZ : Z.Warmed39 s.vm) {aty : ArrayType} (w : (Cond.arrayClass (newarray.typeOf aty)).before a0 Z = true) (eT : T.heap = h) {g : JFrame} (hg : g.method = m) (hd : decode c.code g.pc = .ok (.newarray aty, 2)) {n : Int32} {rest : List Value} (hs : g.stack = .int n :: rest)
    (hn : ¬ n < 0) {cap : Nat} (hcap : n.toNatClampNeg ≤ cap) (hb : cap * 8 ≤ 536870912) (hc : cells + 1 ≤ R.cells) (hl : slots + cap ≤ R.slots) :
    ∃ T' h', Stand p l e R s m args below meth c T' locs (cells + 1) (slots + cap) ∧ T'.heap = h' ∧ Ext h h' ∧ own_Ar Z h' h.size (newarray.typeOf aty) (List.replicate n.toNatClampNeg (defaultValue (newarray.typeOf aty))) ∧
      ∀ target, Steps p.tables e below (T'.setTop { g with pc := g.pc + 2, stack := .ref h.size :: rest }) target → Steps p.tables e below (T.setTop g) target := by
  obtain ⟨T', h', cA, X', e', E', A', st⟩ := newP X hx hZ w eT hg hd hs hn hcap hb hc hl
  exact ⟨T', h', X', e', E', ⟨_, A', by simp [newA]⟩, st⟩
theorem own_stJ (X : Stand p l e R s m args below meth c T locs cells slots) (hx : p.tables.exec = Jvm.exec) (hZ : Z.Warmed39 s.vm) (eT : T.heap = h) {a : Addr} {L : List Value} (A : own_Ar Z h a .long L) {j : Int32} {x : Int64} (h0 : ¬ j < 0) (hj : j.toNatClampNeg < L.length) {g : JFrame} (hg : g.method = m) {rest : List Value} (hs : g.stack = .long x :: .int j :: .ref a :: rest) (hd : decode c.code g.pc = .ok (.lastore, 1)) :
    ∃ T' h', Stand p l e R s m args below meth c T' (locs ++ [⟨a, j.toNatClampNeg⟩]) cells slots ∧ T'.heap = h' ∧ Wr h h' a j.toNatClampNeg (.long x) ∧ own_Ar Z h' a .long (L.set j.toNatClampNeg (.long x)) ∧ ∀ target, Steps p.tables e below (T'.setTop { g with pc := g.pc + 1, stack := rest }) target → Steps p.tables e below (T.setTop g) target := by
  obtain ⟨cl, A', r⟩ := id A
  obtain ⟨T', h', X', e', W', st⟩ := stJ X hx hZ eT A' (own_in r h0 hj) hg hs hd
  exact ⟨T', h', X', e', W', A.set W', st⟩
theorem own_stI (X : Stand p l e R s m args below meth c T locs cells slots) (hx : p.tables.exec = Jvm.exec) (hZ : Z.Warmed39 s.vm) (eT : T.heap = h) {a : Addr} {L : List Value} (A : own_Ar Z h a .int L) {j : Int32} {x : Int32} (h0 : ¬ j < 0) (hj : j.toNatClampNeg < L.length) {g : JFrame} (hg : g.method = m) {rest : List Value} (hs : g.stack = .int x :: .int j :: .ref a :: rest) (hd : decode c.code g.pc = .ok (.iastore, 1)) :
    ∃ T' h', Stand p l e R s m args below meth c T' (locs ++ [⟨a, j.toNatClampNeg⟩]) cells slots ∧ T'.heap = h' ∧ Wr h h' a j.toNatClampNeg (.int x) ∧ own_Ar Z h' a .int (L.set j.toNatClampNeg (.int x)) ∧ ∀ target, Steps p.tables e below (T'.setTop { g with pc := g.pc + 1, stack := rest }) target → Steps p.tables e below (T.setTop g) target := by
  obtain ⟨cl, A', r⟩ := id A
  obtain ⟨T', h', X', e', W', st⟩ := stI X hx hZ eT A' (own_in r h0 hj) hg hs hd
  exact ⟨T', h', X', e', W', A.set W', st⟩
theorem own_stB (X : Stand p l e R s m args below meth c T locs cells slots) (hx : p.tables.exec = Jvm.exec) (hZ : Z.Warmed39 s.vm) (eT : T.heap = h) {a : Addr} {L : List Value} (A : own_Ar Z h a .byte L) {j : Int32} {x : Int32} (h0 : ¬ j < 0) (hj : j.toNatClampNeg < L.length) {g : JFrame} (hg : g.method = m) {rest : List Value} (hs : g.stack = .int x :: .int j :: .ref a :: rest) (hd : decode c.code g.pc = .ok (.bastore, 1)) :
    ∃ T' h', Stand p l e R s m args below meth c T' (locs ++ [⟨a, j.toNatClampNeg⟩]) cells slots ∧ T'.heap = h' ∧ Wr h h' a j.toNatClampNeg (.int (nar .byte x)) ∧ own_Ar Z h' a .byte (L.set j.toNatClampNeg (.int (nar .byte x))) ∧ ∀ target, Steps p.tables e below (T'.setTop { g with pc := g.pc + 1, stack := rest }) target → Steps p.tables e below (T.setTop g) target := by
  obtain ⟨cl, A', r⟩ := id A
  obtain ⟨T', h', X', e', W', st⟩ := stB X hx hZ eT A' (own_in r h0 hj) hg hs hd
  exact ⟨T', h', X', e', W', A.set W', st⟩
theorem own_stZ (X : Stand p l e R s m args below meth c T locs cells slots) (hx : p.tables.exec = Jvm.exec) (hZ : Z.Warmed39 s.vm) (eT : T.heap = h) {a : Addr} {L : List Value} (A : own_Ar Z h a .boolean L) {j : Int32} {x : Int32} (h0 : ¬ j < 0) (hj : j.toNatClampNeg < L.length) {g : JFrame} (hg : g.method = m) {rest : List Value} (hs : g.stack = .int x :: .int j :: .ref a :: rest) (hd : decode c.code g.pc = .ok (.bastore, 1)) :
    ∃ T' h', Stand p l e R s m args below meth c T' (locs ++ [⟨a, j.toNatClampNeg⟩]) cells slots ∧ T'.heap = h' ∧ Wr h h' a j.toNatClampNeg (.int (nar .boolean x)) ∧ own_Ar Z h' a .boolean (L.set j.toNatClampNeg (.int (nar .boolean x))) ∧ ∀ target, Steps p.tables e below (T'.setTop { g with pc := g.pc + 1, stack := rest }) target → Steps p.tables e below (T.setTop g) target := by
  obtain ⟨cl, A', r⟩ := id A
  obtain ⟨T', h', X', e', W', st⟩ := stZ X hx hZ eT A' (own_in r h0 hj) hg hs hd
  exact ⟨T', h', X', e', W', A.set W', st⟩
theorem own_stC (X : Stand p l e R s m args below meth c T locs cells slots) (hx : p.tables.exec = Jvm.exec) (hZ : Z.Warmed39 s.vm) (eT : T.heap = h) {a : Addr} {L : List Value} (A : own_Ar Z h a .char L) {j : Int32} {x : Int32} (h0 : ¬ j < 0) (hj : j.toNatClampNeg < L.length) {g : JFrame} (hg : g.method = m) {rest : List Value} (hs : g.stack = .int x :: .int j :: .ref a :: rest) (hd : decode c.code g.pc = .ok (.castore, 1)) :
    ∃ T' h', Stand p l e R s m args below meth c T' (locs ++ [⟨a, j.toNatClampNeg⟩]) cells slots ∧ T'.heap = h' ∧ Wr h h' a j.toNatClampNeg (.int (nar .char x)) ∧ own_Ar Z h' a .char (L.set j.toNatClampNeg (.int (nar .char x))) ∧ ∀ target, Steps p.tables e below (T'.setTop { g with pc := g.pc + 1, stack := rest }) target → Steps p.tables e below (T.setTop g) target := by
  obtain ⟨cl, A', r⟩ := id A
  obtain ⟨T', h', X', e', W', st⟩ := stC X hx hZ eT A' (own_in r h0 hj) hg hs hd
  exact ⟨T', h', X', e', W', A.set W', st⟩
theorem own_ldJ (X : Stand p l e R s m args below meth c T locs cells slots) (hx : p.tables.exec = Jvm.exec) (hZ : Z.Warmed39 s.vm) (eT : T.heap = h) {a : Addr} {L : List Value} (A : own_Ar Z h a .long L) {j : Int32} {v : Value} (h0 : ¬ j < 0) (hv : L[j.toNatClampNeg]? = some v) {g : JFrame} (hg : g.method = m) {rest : List Value} (hs : g.stack = .int j :: .ref a :: rest) (hd : decode c.code g.pc = .ok (.laload, 1)) (target : State)
    (hr : Steps p.tables e below (T.setTop { g with pc := g.pc + 1, stack := v :: rest }) target) : Steps p.tables e below (T.setTop g) target := by
  obtain ⟨cl, A', r⟩ := A
  exact X.laload hx (by rw [eT]; exact A'.1) (State.isArrayOf_alike hZ.alike A'.2.1) A'.2.2 (own_inv r h0 hv) (own_at r hv) hg hs hd target hr
theorem own_ldI (X : Stand p l e R s m args below meth c T locs cells slots) (hx : p.tables.exec = Jvm.exec) (hZ : Z.Warmed39 s.vm) (eT : T.heap = h) {a : Addr} {L : List Value} (A : own_Ar Z h a .int L) {j : Int32} {v : Value} (h0 : ¬ j < 0) (hv : L[j.toNatClampNeg]? = some v) {g : JFrame} (hg : g.method = m) {rest : List Value} (hs : g.stack = .int j :: .ref a :: rest) (hd : decode c.code g.pc = .ok (.iaload, 1)) (target : State)
    (hr : Steps p.tables e below (T.setTop { g with pc := g.pc + 1, stack := v :: rest }) target) : Steps p.tables e below (T.setTop g) target := by
  obtain ⟨cl, A', r⟩ := A
  exact X.iaload hx (by rw [eT]; exact A'.1) (State.isArrayOf_alike hZ.alike A'.2.1) A'.2.2 (own_inv r h0 hv) (own_at r hv) hg hs hd target hr
theorem own_ldB (X : Stand p l e R s m args below meth c T locs cells slots) (hx : p.tables.exec = Jvm.exec) (hZ : Z.Warmed39 s.vm) (eT : T.heap = h) {a : Addr} {L : List Value} (A : own_Ar Z h a .byte L) {j : Int32} {v : Value} (h0 : ¬ j < 0) (hv : L[j.toNatClampNeg]? = some v) {g : JFrame} (hg : g.method = m) {rest : List Value} (hs : g.stack = .int j :: .ref a :: rest) (hd : decode c.code g.pc = .ok (.baload, 1)) (target : State)
    (hr : Steps p.tables e below (T.setTop { g with pc := g.pc + 1, stack := v :: rest }) target) : Steps p.tables e below (T.setTop g) target := by
  obtain ⟨cl, A', r⟩ := A
  exact X.baloadBytes hx (by rw [eT]; exact A'.1) (State.isArrayOf_alike hZ.alike A'.2.1) A'.2.2 (own_inv r h0 hv) (own_at r hv) hg hs hd target hr
theorem own_ldZ (X : Stand p l e R s m args below meth c T locs cells slots) (hx : p.tables.exec = Jvm.exec) (hZ : Z.Warmed39 s.vm) (eT : T.heap = h) {a : Addr} {L : List Value} (A : own_Ar Z h a .boolean L) {j : Int32} {v : Value} (h0 : ¬ j < 0) (hv : L[j.toNatClampNeg]? = some v) {g : JFrame} (hg : g.method = m) {rest : List Value} (hs : g.stack = .int j :: .ref a :: rest) (hd : decode c.code g.pc = .ok (.baload, 1)) (target : State)
    (hr : Steps p.tables e below (T.setTop { g with pc := g.pc + 1, stack := v :: rest }) target) : Steps p.tables e below (T.setTop g) target := by
  obtain ⟨cl, A', r⟩ := A
  exact X.baloadBooleans hx (by rw [eT]; exact A'.1) (State.isArrayOf_alike hZ.alike A'.2.1) A'.2.2 (own_inv r h0 hv) (own_at r hv) hg hs hd target hr
theorem own_ldC (X : Stand p l e R s m args below meth c T locs cells slots) (hx : p.tables.exec = Jvm.exec) (hZ : Z.Warmed39 s.vm) (eT : T.heap = h) {a : Addr} {L : List Value} (A : own_Ar Z h a .char L) {j : Int32} {v : Value} (h0 : ¬ j < 0) (hv : L[j.toNatClampNeg]? = some v) {g : JFrame} (hg : g.method = m) {rest : List Value} (hs : g.stack = .int j :: .ref a :: rest) (hd : decode c.code g.pc = .ok (.caload, 1)) (target : State)
    (hr : Steps p.tables e below (T.setTop { g with pc := g.pc + 1, stack := v :: rest }) target) : Steps p.tables e below (T.setTop g) target := by
  obtain ⟨cl, A', r⟩ := A
  exact X.caload hx (by rw [eT]; exact A'.1) (State.isArrayOf_alike hZ.alike A'.2.1) A'.2.2 (own_inv r h0 hv) (own_at r hv) hg hs hd target hr
theorem own_len (X : Stand p l e R s m args below meth c T locs cells slots) (hx : p.tables.exec = Jvm.exec) (hZ : Z.Warmed39 s.vm) (eT : T.heap = h) {a : Addr} {ty : FieldType} {L : List Value} (A : own_Ar Z h a ty L) {n : Int32} (hn : L.length.toInt32 = n) {g : JFrame} (hg : g.method = m) {rest : List Value} (hs : g.stack = .ref a :: rest) (hd : decode c.code g.pc = .ok (.arraylength, 1)) (target : State)
    (hr : Steps p.tables e below (T.setTop { g with pc := g.pc + 1, stack := .int n :: rest }) target) : Steps p.tables e below (T.setTop g) target := by
  obtain ⟨cl, A', r⟩ := A
  refine X.arraylength hx (by rw [eT]; exact A'.1) (State.isArrayOf_alike hZ.alike A'.2.1) hg hs hd target ?_
  have q : cl.slots.size.toInt32 = n := by rw [← hn, ← r]; simp
  rw [q]; exact hr
theorem own_sta_keep {C n d : String} {w : Value} {ws : List Addr} (F : Sta Z h C n d w) (K : Keep h h' ws) (q : ∀ (a : Addr) (c : Cell), h[a]? = some c → c.vm.isStatics = true → a ∉ ws) : Sta Z h' C n d w := by
  obtain ⟨cf, i, k, f, st, cell, h1, h2, h3, h4, h5, h6, h7⟩ := F
  exact ⟨cf, i, k, f, st, cell, h1, h2, h3, h4, K.2.1 st cell h5 (q st cell h5 h6), h6, h7⟩
end own_walk
section own_walkS
variable {p : Program} {l : Launch} {e : Env} {R : Room} {s : State} {vm0 : Vm} {kS : Nat} {m : MethodId} {args : Array Value} {below : List Frame} {meth : Method} {c : Code} {T : State} {locs : List Loc} {cells slots : Nat} {Z : State} {h h' : Heap}
def own_PW (Q : Option Value → Heap → List Loc → Prop) (s : State) (k n : Nat) (o : Outcome) (s₂ : State) : Prop :=
  ∃ v L, o = .returned v ∧ Q v s₂.heap L ∧ ReturnedEndW s o s₂ L k n
theorem own_retS {v : Option Value} {g : State} {Q : Option Value → Heap → List Loc → Prop} {k n : Nat} (X : Stand p l e R (s.setVm vm0) m args below meth c T locs cells slots) (hS : s.Since vm0 kS) (hk : kS ≤ T.heap.size) (hlk : meth.locks = false) (hv : meth.sig.returnType = none → v = none)
    (hst : ∀ fs, (∀ (f : JFrame) (acts : List Action), f.method = m → f.locked = none → f.entered = [] → (doReturn e (T.setTop f) acts v).1 = T.setFrames fs) → Steps p.tables e below g (T.setFrames fs))
    (hQ : Q v T.heap locs) (hc : cells ≤ k) (hn : slots ≤ n) : own_Fin p e below (own_PW Q s k n) g := by
  obtain ⟨fs, hr, hrun, hended, hE⟩ := X.leaveW hS hk (v := v) hv hlk
  exact ⟨_, _, hst fs hr, hrun, hended, _, _, rfl, hQ, hE.1, hE.2.1, hE.2.2.1, hE.2.2.2.mono hc hn⟩
theorem own_retWS {w : Value} {t : FieldType} {i : Instr} {pc : Nat} {Ls : Array Slot} {rest : List Value} {Q : Option Value → Heap → List Loc → Prop} {k n : Nat} (X : Stand p l e R (s.setVm vm0) m args below meth c T locs cells slots) (hS : s.Since vm0 kS) (hkS : kS ≤ T.heap.size) (hx : p.tables.exec = Jvm.exec) (hlk : meth.locks = false) (hret : meth.sig.returnType = some t) (hnw : narrow t w = w)
    (hi : (i = .ireturn ∧ (t = .int ∨ t = .boolean ∨ t = .byte ∨ t = .char ∨ t = .short) ∧ ∃ z, w = .int z) ∨ (i = .lreturn ∧ t = .long ∧ ∃ z, w = .long z) ∨ (i = .dreturn ∧ t = .double ∧ ∃ z, w = .double z) ∨ (i = .freturn ∧ t = .float ∧ ∃ z, w = .float z) ∨ (i = .areturn ∧ t.isReference = true ∧ w.isRef = true))
    (hd : decode c.code pc = .ok (i, 1)) (hQ : Q (some w) T.heap locs) (hk : cells ≤ k) (hn : slots ≤ n) : own_Fin p e below (own_PW Q s k n) (T.setTop (mkF m pc Ls (w :: rest))) :=
  own_retS X hS hkS hlk (fun q => by rw [hret] at q; cases q) (fun fs hr => retOut X hx hret hnw hi hd hr) hQ hk hn
theorem own_retIS {z : Int32} {pc : Nat} {Ls : Array Slot} {rest : List Value} {Q : Option Value → Heap → List Loc → Prop} {k n : Nat} (X : Stand p l e R (s.setVm vm0) m args below meth c T locs cells slots) (hS : s.Since vm0 kS) (hkS : kS ≤ T.heap.size) (hx : p.tables.exec = Jvm.exec) (hlk : meth.locks = false) (hret : meth.sig.returnType = some .int)
    (hd : decode c.code pc = .ok (.ireturn, 1)) (hQ : Q (some (.int z)) T.heap locs) (hk : cells ≤ k) (hn : slots ≤ n) : own_Fin p e below (own_PW Q s k n) (T.setTop (mkF m pc Ls (.int z :: rest))) :=
  own_retWS X hS hkS hx hlk hret rfl (Or.inl ⟨rfl, Or.inl rfl, z, rfl⟩) hd hQ hk hn
theorem own_retJS {z : Int64} {pc : Nat} {Ls : Array Slot} {rest : List Value} {Q : Option Value → Heap → List Loc → Prop} {k n : Nat} (X : Stand p l e R (s.setVm vm0) m args below meth c T locs cells slots) (hS : s.Since vm0 kS) (hkS : kS ≤ T.heap.size) (hx : p.tables.exec = Jvm.exec) (hlk : meth.locks = false) (hret : meth.sig.returnType = some .long)
    (hd : decode c.code pc = .ok (.lreturn, 1)) (hQ : Q (some (.long z)) T.heap locs) (hk : cells ≤ k) (hn : slots ≤ n) : own_Fin p e below (own_PW Q s k n) (T.setTop (mkF m pc Ls (.long z :: rest))) :=
  own_retWS X hS hkS hx hlk hret rfl (Or.inr (Or.inl ⟨rfl, rfl, z, rfl⟩)) hd hQ hk hn
theorem own_retAS {w : Value} {t : FieldType} {pc : Nat} {Ls : Array Slot} {rest : List Value} {Q : Option Value → Heap → List Loc → Prop} {k n : Nat} (X : Stand p l e R (s.setVm vm0) m args below meth c T locs cells slots) (hS : s.Since vm0 kS) (hkS : kS ≤ T.heap.size) (hx : p.tables.exec = Jvm.exec) (hlk : meth.locks = false) (hw : w.isRef = true) (hret : meth.sig.returnType = some t) (ht : t.isReference = true)
    (hd : decode c.code pc = .ok (.areturn, 1)) (hQ : Q (some w) T.heap locs) (hk : cells ≤ k) (hn : slots ≤ n) : own_Fin p e below (own_PW Q s k n) (T.setTop (mkF m pc Ls (w :: rest))) :=
  own_retWS X hS hkS hx hlk hret (own_nref hw) (Or.inr (Or.inr (Or.inr (Or.inr ⟨rfl, ht, hw⟩)))) hd hQ hk hn
theorem own_retBS {z : Int32} {t : FieldType} {pc : Nat} {Ls : Array Slot} {rest : List Value} {Q : Option Value → Heap → List Loc → Prop} {k n : Nat} (X : Stand p l e R (s.setVm vm0) m args below meth c T locs cells slots) (hS : s.Since vm0 kS) (hkS : kS ≤ T.heap.size) (hx : p.tables.exec = Jvm.exec) (hlk : meth.locks = false) (hret : meth.sig.returnType = some t) (ht : t = .boolean ∨ t = .byte ∨ t = .char ∨ t = .short)
    (hd : decode c.code pc = .ok (.ireturn, 1)) (hQ : Q (some (.int (nar t z))) T.heap locs) (hk : cells ≤ k) (hn : slots ≤ n) : own_Fin p e below (own_PW Q s k n) (T.setTop (mkF m pc Ls (.int z :: rest))) :=
  own_retS X hS hkS hlk (fun q => by rw [hret] at q; cases q) (fun fs hr => retN X hx hret ht hd hr) hQ hk hn
theorem own_retVS {pc : Nat} {Ls : Array Slot} {Q : Option Value → Heap → List Loc → Prop} {k n : Nat} (X : Stand p l e R (s.setVm vm0) m args below meth c T locs cells slots) (hS : s.Since vm0 kS) (hkS : kS ≤ T.heap.size) (hx : p.tables.exec = Jvm.exec) (hlk : meth.locks = false) (hret : meth.sig.returnType = none)
    (hd : decode c.code pc = .ok (.return_, 1)) (hQ : Q none T.heap locs) (hk : cells ≤ k) (hn : slots ≤ n) : own_Fin p e below (own_PW Q s k n) (T.setTop (mkF m pc Ls [])) :=
  own_retS X hS hkS hlk (fun _ => rfl) (fun fs hr => X.returnOut hx hret hd hr) hQ hk hn
end own_walkS
def own_end (x : Int32) : Int32 := if x = 90 then 1 else if x = 88 then 1 else 0
theorem own_orfin : ∀ k : Fin 91, (k.val ||| 2 = 90 → k.val = 90 ∨ k.val = 88) := by decide +kernel
theorem own_or (x : Int32) : x ||| 2 = 90 ↔ (x = 90 ∨ x = 88) := by
  constructor
  · intro h
    have e : x.toBitVec.toNat ||| 2 = 90 := by
      have q : (x ||| 2).toBitVec.toNat = (90 : Int32).toBitVec.toNat := congrArg (fun z : Int32 => z.toBitVec.toNat) h
      have r : (x ||| 2).toBitVec.toNat = x.toBitVec.toNat ||| 2 := by rw [Int32.toBitVec_or, BitVec.toNat_or]; rfl
      rw [r] at q
      exact q
    have le : x.toBitVec.toNat ≤ 90 := by rw [← e]; exact Nat.left_le_or
    rcases own_orfin ⟨x.toBitVec.toNat, by omega⟩ e with k | k
    · left; exact Int32.toBitVec_inj.mp (BitVec.eq_of_toNat_eq k)
    · right; exact Int32.toBitVec_inj.mp (BitVec.eq_of_toNat_eq k)
  · rintro (rfl | rfl) <;> decide
theorem own_pn0 : plainName "java/lang/Record" = true := by first | (simp [plainName, overriddenIn]; done) | decide +kernel
theorem own_d2_0 : decode jdk_30_method_1_code 0 = .ok (.aload_n 0, 1) := by decide +kernel
theorem own_d2_1 : decode jdk_30_method_1_code 1 = .ok (.invokespecial 1, 3) := by decide +kernel
theorem own_d2_4 : decode jdk_30_method_1_code 4 = .ok (.return_, 1) := by decide +kernel
theorem ef_own_rm2 (m : MethodId) (a1 : Addr) : entryFrame m #[(.ref a1)] 1 = mkF m 0 #[.val (.ref a1)] [] := by first | (simp [entryFrame, mkF, argsToLocals, Value.category]; done) | rfl
def own_rm2_Q (Z : State) (a1 : Addr)  (h0 : Heap) (n0 : Nat) (v : Option Value) (h : Heap) (L : List Loc) : Prop := v = none ∧ Fr n0 L ∧ h = h0
set_option maxRecDepth 65536 in
set_option maxHeartbeats 40000000 in
theorem own_rm2 (l : Launch) (Z : State) (a0 : Array Value) (hw : ∀ d ∈ tables_1, d.before a0 Z = true) (ws : List Jvm.Cond) (a1 : Addr)  (h0 : Heap) (n0 : Nat) (Z0 : n0 ≤ h0.size) :
    MetFree l (⟨"java/lang/Record", "<init>", "()V"⟩ : MethodName) (head1 (Jvm.Cond.code (⟨"java/lang/Record", "<init>", "()V"⟩ : MethodName) jdk_30_method_1_code 1 none :: ws) ({ frames := 1, cells := 0, slots := 0, locals := 12 } : Room)) (fun a U => a = #[(.ref a1)] ∧ Z.Warmed39 U.vm ∧ U.heap = h0) (fun _ _ _ _ _ => True) (fun _ U o U' => ∃ v L, o = .returned v ∧ own_rm2_Q Z a1  h0 n0 v U'.heap L ∧ FrameEnd U o U' L ({ frames := 1, cells := 0, slots := 0, locals := 12 } : Room).cells ({ frames := 1, cells := 0, slots := 0, locals := 12 } : Room).slots) := by
  refine MetFree.of_bodySF (plainFor_of_name own_pn0) hisR ?_
  intro p e s m args below meth c s₁ Bd hml0 hP hK
  obtain ⟨rfl, hZ, hh⟩ := hP
  have hx := Bd.exec
  have hby := Bd.bytes
  have hml : c.maxLocals = 1 := hml0
  have hown : s.vm.findClass "java/lang/Record" = some m.cls := findClass_of_methodNamed Bd.named
  have hnm := (name_of_methodNamed Bd.named Bd.method).1
  have hlk : meth.locks = false := BodyLoose.notSynchronized Bd
  have X0 : Stand p l e ({ frames := 1, cells := 0, slots := 0, locals := 12 } : Room) s m #[(.ref a1)] below meth c s₁ [] 0 0 := Stand.of_body Bd
  have e0 : s₁.heap = h0 := by rw [← hh, Bd.state]; rfl
  have N0 := Fr.nil n0
  have K0 : Keep h0 h0 [] := Keep.refl h0 []
  show own_Fin p e below (own_P (own_rm2_Q Z a1  h0 n0) s ({ frames := 1, cells := 0, slots := 0, locals := 12 } : Room).cells ({ frames := 1, cells := 0, slots := 0, locals := 12 } : Room).slots) (s₁.setTop (entryFrame m #[(.ref a1)] 1))
  refine own_via (g' := s₁.setTop (mkF m 0 #[.val (.ref a1)] [])) (fun t k => castTop (ef_own_rm2 m a1) k) ?_
  refine own_via (g' := s₁.setTop (mkF m 1 #[.val (.ref a1)] [(.ref a1)])) (fun t k => XS.aloadN X0.here hx rfl (hb hby own_d2_0) rfl (rfl) k) ?_
  obtain ⟨T1, X1, e1, st1⟩ := initO X0 hx hZ hown (hw _ (List.mem_of_getElem? (i := 11) rfl)) (hw _ (List.mem_of_getElem? (i := 12) rfl)) (hw _ (List.mem_of_getElem? (i := 13) rfl)) e0 (g := (mkF m 1 #[.val (.ref a1)] [(.ref a1)])) rfl (by rw [hml]; rfl) rfl (hb hby own_d2_1) (by decide) (W := 0) (by show 2 * 0 + _ ≤ _; exact Nat.le_of_eq rfl) (by decide)
  refine own_via (g' := T1.setTop (mkF m 4 #[.val (.ref a1)] [])) (fun t k => st1 _ k) ?_
  exact own_retV X1 hx hlk Bd.returns (hb hby own_d2_4) ⟨rfl, N0, e1⟩ (by decide) (by decide)
theorem own_pn1 : plainName "com/example/holdfast/holdfast/cli/ProcFiles$Stat" = true := by first | (simp [plainName, overriddenIn]; done) | decide +kernel
theorem own_pd0 : parseMethodDescriptor "()V" = some ⟨[], none⟩ := by decide +kernel
theorem own_d1_0 : decode prog_4_method_1_code 0 = .ok (.aload_n 0, 1) := by decide +kernel
theorem own_d1_1 : decode prog_4_method_1_code 1 = .ok (.invokespecial 1, 3) := by decide +kernel
theorem own_d1_4 : decode prog_4_method_1_code 4 = .ok (.aload_n 0, 1) := by decide +kernel
theorem own_d1_5 : decode prog_4_method_1_code 5 = .ok (.iload_n 1, 1) := by decide +kernel
theorem own_d1_6 : decode prog_4_method_1_code 6 = .ok (.putfield 7, 3) := by decide +kernel
theorem own_d1_9 : decode prog_4_method_1_code 9 = .ok (.aload_n 0, 1) := by decide +kernel
theorem own_d1_10 : decode prog_4_method_1_code 10 = .ok (.lload_n 2, 1) := by decide +kernel
theorem own_d1_11 : decode prog_4_method_1_code 11 = .ok (.putfield 13, 3) := by decide +kernel
theorem own_d1_14 : decode prog_4_method_1_code 14 = .ok (.return_, 1) := by decide +kernel
theorem ef_own_rm1 (m : MethodId) (a1 : Addr) (p1 : Int32) (q1 : Int64) : entryFrame m #[(.ref a1), (.int p1), (.long q1)] 4 = mkF m 0 #[.val (.ref a1), .val (.int p1), .val (.long q1), .second] [] := by first | (simp [entryFrame, mkF, argsToLocals, Value.category]; done) | rfl
def own_rm1_Q (Z : State) (a1 : Addr) (p1 : Int32) (q1 : Int64)  (h0 : Heap) (n0 : Nat) (v : Option Value) (h : Heap) (L : List Loc) : Prop := v = none ∧ Fr n0 L ∧ Keep h0 h [a1] ∧ Exa Z h a1 "com/example/holdfast/holdfast/cli/ProcFiles$Stat" ∧ Fld Z h a1 "com/example/holdfast/holdfast/cli/ProcFiles$Stat" "state" "C" (.int p1) ∧ Fld Z h a1 "com/example/holdfast/holdfast/cli/ProcFiles$Stat" "session" "J" (.long q1)
set_option maxRecDepth 65536 in
set_option maxHeartbeats 40000000 in
theorem own_rm1 (l : Launch) (Z : State) (a0 : Array Value) (hw : ∀ d ∈ tables_1, d.before a0 Z = true) (ws : List Jvm.Cond) (a1 : Addr) (p1 : Int32) (q1 : Int64)  (h0 : Heap) (n0 : Nat) (Z0 : n0 ≤ h0.size) (E_a1 : Exa Z h0 a1 "com/example/holdfast/holdfast/cli/ProcFiles$Stat") (Fi_0 : Fld Z h0 a1 "com/example/holdfast/holdfast/cli/ProcFiles$Stat" "state" "C" (.int (0 : Int32))) (Fi_1 : Fld Z h0 a1 "com/example/holdfast/holdfast/cli/ProcFiles$Stat" "session" "J" (.long (0 : Int64))) (g_a1 : n0 ≤ a1) (hn1 : narrow .char (.int p1) = .int p1) (hf1 : fits .char (.int p1) = true) :
    MetFree l (⟨"com/example/holdfast/holdfast/cli/ProcFiles$Stat", "<init>", "(CJ)V"⟩ : MethodName) (head1 (Jvm.Cond.code (⟨"com/example/holdfast/holdfast/cli/ProcFiles$Stat", "<init>", "(CJ)V"⟩ : MethodName) prog_4_method_1_code 4 none :: ws) ({ frames := 2, cells := 0, slots := 0, locals := 24 } : Room)) (fun a U => a = #[(.ref a1), (.int p1), (.long q1)] ∧ Z.Warmed39 U.vm ∧ U.heap = h0) (fun _ _ _ _ _ => True) (fun _ U o U' => ∃ v L, o = .returned v ∧ own_rm1_Q Z a1 p1 q1  h0 n0 v U'.heap L ∧ FrameEnd U o U' L ({ frames := 2, cells := 0, slots := 0, locals := 24 } : Room).cells ({ frames := 2, cells := 0, slots := 0, locals := 24 } : Room).slots) := by
  refine MetFree.of_bodySF (plainFor_of_name own_pn1) hisR ?_
  intro p e s m args below meth c s₁ Bd hml0 hP hK
  obtain ⟨rfl, hZ, hh⟩ := hP
  have hx := Bd.exec
  have hby := Bd.bytes
  have hml : c.maxLocals = 4 := hml0
  have hown : s.vm.findClass "com/example/holdfast/holdfast/cli/ProcFiles$Stat" = some m.cls := findClass_of_methodNamed Bd.named
  have hnm := (name_of_methodNamed Bd.named Bd.method).1
  have hlk : meth.locks = false := BodyLoose.notSynchronized Bd
  have X0 : Stand p l e ({ frames := 2, cells := 0, slots := 0, locals := 24 } : Room) s m #[(.ref a1), (.int p1), (.long q1)] below meth c s₁ [] 0 0 := Stand.of_body Bd
  have e0 : s₁.heap = h0 := by rw [← hh, Bd.state]; rfl
  have N0 := Fr.nil n0
  have K0 : Keep h0 h0 [a1] := Keep.refl h0 [a1]
  show own_Fin p e below (own_P (own_rm1_Q Z a1 p1 q1  h0 n0) s ({ frames := 2, cells := 0, slots := 0, locals := 24 } : Room).cells ({ frames := 2, cells := 0, slots := 0, locals := 24 } : Room).slots) (s₁.setTop (entryFrame m #[(.ref a1), (.int p1), (.long q1)] 4))
  refine own_via (g' := s₁.setTop (mkF m 0 #[.val (.ref a1), .val (.int p1), .val (.long q1), .second] [])) (fun t k => castTop (ef_own_rm1 m a1 p1 q1) k) ?_
  refine own_via (g' := s₁.setTop (mkF m 1 #[.val (.ref a1), .val (.int p1), .val (.long q1), .second] [(.ref a1)])) (fun t k => XS.aloadN X0.here hx rfl (hb hby own_d1_0) rfl (rfl) k) ?_
  obtain ⟨v1, _, ⟨T1, L1, k1, n1⟩, -, X1, ⟨Lc1, hQ1, l1, y1, z1⟩, st1⟩ := X0.specialBack hx (y := (⟨"java/lang/Record", "<init>", "()V"⟩ : MethodName)) rfl hown (mvT hZ (hw _ (List.mem_of_getElem? (i := 6) rfl))) (mvT hZ (hw _ (List.mem_of_getElem? (i := 7) rfl))) (mvT hZ (hw _ (List.mem_of_getElem? (i := 10) rfl))) (by decide) (backOf (W := 0) (own_rm2 l Z a0 hw [] a1 h0 n0 (Nat.le_trans Z0 K0.1) ) hZ (hw _ (List.mem_of_getElem? (i := 10) rfl)) (hw _ (List.mem_of_getElem? (i := 9) rfl)) (by decide) (by decide)) (g := (mkF m 1 #[.val (.ref a1), .val (.int p1), .val (.long q1), .second] [(.ref a1)])) rfl (by rw [hml]; rfl) (Steps.refl _) (a := a1) (argsL := []) (rest := []) (lenOf own_pd0 rfl) rfl (by show 2 * 0 + _ ≤ _; exact Nat.le_of_eq rfl) (hb hby own_d1_1) (fun _ _ => ⟨rfl, e0, (by decide : 0 + 0 ≤ _), (by decide : 0 + 0 ≤ _)⟩)
  dsimp only [Pt.U, Pt.locs, Pt.cells, Pt.slots] at X1 l1 y1 z1 st1 hQ1
  subst l1 y1 z1
  obtain ⟨rfl, N1q, e1⟩ := hQ1
  have N1 := Fr.app N0 N1q
  refine own_via (g' := T1.setTop (mkF m 4 #[.val (.ref a1), .val (.int p1), .val (.long q1), .second] [])) (fun t k => st1.trans k) ?_
  refine own_via (g' := T1.setTop (mkF m 5 #[.val (.ref a1), .val (.int p1), .val (.long q1), .second] [(.ref a1)])) (fun t k => XS.aloadN X1.here hx rfl (hb hby own_d1_4) rfl (rfl) k) ?_
  refine own_via (g' := T1.setTop (mkF m 6 #[.val (.ref a1), .val (.int p1), .val (.long q1), .second] [(.int p1), (.ref a1)])) (fun t k => XS.iloadN X1.here hx rfl (hb hby own_d1_5) rfl k) ?_
  obtain ⟨T2, h2, X2, e2, W2, st2⟩ := putFN X1 hx hZ hown (hw _ (List.mem_of_getElem? (i := 14) rfl)) Via.refl e1 Fi_0 E_a1 (Or.inr ⟨(hw _ (List.mem_of_getElem? (i := 15) rfl)), rfl, hnm⟩) (hw _ (List.mem_of_getElem? (i := 1) rfl)) (ty := .char) (v' := (.int p1)) (by decide) hn1 hf1 (g := (mkF m 6 #[.val (.ref a1), .val (.int p1), .val (.long q1), .second] [(.int p1), (.ref a1)])) rfl rfl (hb hby own_d1_6)
  have F2 : Fld Z h2 a1 "com/example/holdfast/holdfast/cli/ProcFiles$Stat" "state" "C" (.int p1) := Fi_0.same W2
  have Kc2 : Keep h0 h2 [a1] := K0.wr W2 (Or.inl (List.mem_of_getElem? (i := 0) rfl))
  have N2 := Fr.snoc X2 N1 g_a1
  refine own_via (g' := T2.setTop (mkF m 9 #[.val (.ref a1), .val (.int p1), .val (.long q1), .second] [])) (fun t k => st2 _ k) ?_
  refine own_via (g' := T2.setTop (mkF m 10 #[.val (.ref a1), .val (.int p1), .val (.long q1), .second] [(.ref a1)])) (fun t k => XS.aloadN X2.here hx rfl (hb hby own_d1_9) rfl (rfl) k) ?_
  refine own_via (g' := T2.setTop (mkF m 11 #[.val (.ref a1), .val (.int p1), .val (.long q1), .second] [(.long q1), (.ref a1)])) (fun t k => XT.lloadN X2.here hx rfl (hb hby own_d1_10) rfl k) ?_
  obtain ⟨T3, h3, X3, e3, W3, st3⟩ := putF X2 hx hZ hown (host := "") (Or.inl (hw _ (List.mem_of_getElem? (i := 16) rfl))) Via.refl e2 (Fi_1.other W2 (Or.inr (slot_ne (Or.inr (hw _ (List.mem_of_getElem? (i := 17) rfl))) (Or.inr (hw _ (List.mem_of_getElem? (i := 15) rfl))) (by decide) (t := .long) (t' := .char) (by decide) (by decide)))) (E_a1.wr W2) (Or.inr ⟨(hw _ (List.mem_of_getElem? (i := 17) rfl)), rfl, hnm⟩) (hw _ (List.mem_of_getElem? (i := 1) rfl)) (ty := .long) (by decide) rfl rfl (g := (mkF m 11 #[.val (.ref a1), .val (.int p1), .val (.long q1), .second] [(.long q1), (.ref a1)])) rfl rfl (hb hby own_d1_11)
  have F3 : Fld Z h3 a1 "com/example/holdfast/holdfast/cli/ProcFiles$Stat" "session" "J" (.long q1) := (Fi_1.other W2 (Or.inr (slot_ne (Or.inr (hw _ (List.mem_of_getElem? (i := 17) rfl))) (Or.inr (hw _ (List.mem_of_getElem? (i := 15) rfl))) (by decide) (t := .long) (t' := .char) (by decide) (by decide)))).same W3
  have Kc3 : Keep h0 h3 [a1] := Kc2.wr W3 (Or.inl (List.mem_of_getElem? (i := 0) rfl))
  have N3 := Fr.snoc X3 N2 g_a1
  refine own_via (g' := T3.setTop (mkF m 14 #[.val (.ref a1), .val (.int p1), .val (.long q1), .second] [])) (fun t k => st3 _ k) ?_
  have eE : T3.heap = h3 := e3
  exact own_retV X3 hx hlk Bd.returns (hb hby own_d1_14) ⟨rfl, N3, (by rw [eE]; exact Kc3), (by rw [eE]; exact ((E_a1.wr W2).wr W3)), (by rw [eE]; exact (F2.other W3 (Or.inr (slot_ne (Or.inr (hw _ (List.mem_of_getElem? (i := 15) rfl))) (Or.inr (hw _ (List.mem_of_getElem? (i := 17) rfl))) (by decide) (t := .char) (t' := .long) (by decide) (by decide))))), (by rw [eE]; exact F3)⟩ (by decide) (by decide)
theorem own_d4_0 : decode prog_4_method_2_code 0 = .ok (.aload_n 0, 1) := by decide +kernel
theorem own_d4_1 : decode prog_4_method_2_code 1 = .ok (.getfield 7, 3) := by decide +kernel
theorem own_d4_4 : decode prog_4_method_2_code 4 = .ok (.bipush 90, 2) := by decide +kernel
theorem own_d4_6 : decode prog_4_method_2_code 6 = .ok (.if_icmp .eq 12, 3) := by decide +kernel
theorem own_d4_9 : decode prog_4_method_2_code 9 = .ok (.aload_n 0, 1) := by decide +kernel
theorem own_d4_10 : decode prog_4_method_2_code 10 = .ok (.getfield 7, 3) := by decide +kernel
theorem own_d4_13 : decode prog_4_method_2_code 13 = .ok (.bipush 88, 2) := by decide +kernel
theorem own_d4_15 : decode prog_4_method_2_code 15 = .ok (.if_icmp .ne 7, 3) := by decide +kernel
theorem own_d4_18 : decode prog_4_method_2_code 18 = .ok (.iconst 1, 1) := by decide +kernel
theorem own_d4_19 : decode prog_4_method_2_code 19 = .ok (.goto 4, 3) := by decide +kernel
theorem own_d4_22 : decode prog_4_method_2_code 22 = .ok (.iconst 0, 1) := by decide +kernel
theorem own_d4_23 : decode prog_4_method_2_code 23 = .ok (.ireturn, 1) := by decide +kernel
theorem ef_own_rm4 (m : MethodId) (a1 : Addr) : entryFrame m #[(.ref a1)] 1 = mkF m 0 #[.val (.ref a1)] [] := by first | (simp [entryFrame, mkF, argsToLocals, Value.category]; done) | rfl
def own_rm4_Q (Z : State) (a1 : Addr) (p1 : Int32) (h0 : Heap) (n0 : Nat) (v : Option Value) (h : Heap) (L : List Loc) : Prop := v = some (.int (own_end p1)) ∧ Fr n0 L ∧ h = h0
set_option maxRecDepth 65536 in
set_option maxHeartbeats 40000000 in
theorem own_rm4 (l : Launch) (Z : State) (a0 : Array Value) (hw : ∀ d ∈ tables_1, d.before a0 Z = true) (ws : List Jvm.Cond) (a1 : Addr) (p1 : Int32) (h0 : Heap) (n0 : Nat) (Z0 : n0 ≤ h0.size) (Fi_0 : Fld Z h0 a1 "com/example/holdfast/holdfast/cli/ProcFiles$Stat" "state" "C" (.int p1)) :
    MetFree l (⟨"com/example/holdfast/holdfast/cli/ProcFiles$Stat", "ended", "()Z"⟩ : MethodName) (head1 (Jvm.Cond.code (⟨"com/example/holdfast/holdfast/cli/ProcFiles$Stat", "ended", "()Z"⟩ : MethodName) prog_4_method_2_code 1 (some .boolean) :: ws) ({ frames := 0, cells := 0, slots := 0, locals := 0 } : Room)) (fun a U => a = #[(.ref a1)] ∧ Z.Warmed39 U.vm ∧ U.heap = h0) (fun _ _ _ _ _ => True) (fun _ U o U' => ∃ v L, o = .returned v ∧ own_rm4_Q Z a1 p1 h0 n0 v U'.heap L ∧ FrameEnd U o U' L ({ frames := 0, cells := 0, slots := 0, locals := 0 } : Room).cells ({ frames := 0, cells := 0, slots := 0, locals := 0 } : Room).slots) := by
  refine MetFree.of_bodySF (plainFor_of_name own_pn1) hisR ?_
  intro p e s m args below meth c s₁ Bd hml0 hP hK
  obtain ⟨rfl, hZ, hh⟩ := hP
  have hx := Bd.exec
  have hby := Bd.bytes
  have hml : c.maxLocals = 1 := hml0
  have hown : s.vm.findClass "com/example/holdfast/holdfast/cli/ProcFiles$Stat" = some m.cls := findClass_of_methodNamed Bd.named
  have hnm := (name_of_methodNamed Bd.named Bd.method).1
  have hlk : meth.locks = false := BodyLoose.notSynchronized Bd
  have X0 : Stand p l e ({ frames := 0, cells := 0, slots := 0, locals := 0 } : Room) s m #[(.ref a1)] below meth c s₁ [] 0 0 := Stand.of_body Bd
  have e0 : s₁.heap = h0 := by rw [← hh, Bd.state]; rfl
  have N0 := Fr.nil n0
  have K0 : Keep h0 h0 [] := Keep.refl h0 []
  show own_Fin p e below (own_P (own_rm4_Q Z a1 p1 h0 n0) s ({ frames := 0, cells := 0, slots := 0, locals := 0 } : Room).cells ({ frames := 0, cells := 0, slots := 0, locals := 0 } : Room).slots) (s₁.setTop (entryFrame m #[(.ref a1)] 1))
  refine own_via (g' := s₁.setTop (mkF m 0 #[.val (.ref a1)] [])) (fun t k => castTop (ef_own_rm4 m a1) k) ?_
  refine own_via (g' := s₁.setTop (mkF m 1 #[.val (.ref a1)] [(.ref a1)])) (fun t k => XS.aloadN X0.here hx rfl (hb hby own_d4_0) rfl (rfl) k) ?_
  obtain ⟨T1, X1, e1, st1⟩ := getF X0 hx hZ hown (host := "") (Or.inl (hw _ (List.mem_of_getElem? (i := 14) rfl))) Via.refl e0 Fi_0 (g := (mkF m 1 #[.val (.ref a1)] [(.ref a1)])) rfl rfl (hb hby own_d4_1)
  refine own_via (g' := T1.setTop (mkF m 4 #[.val (.ref a1)] [(.int p1)])) (fun t k => st1 _ k) ?_
  refine own_via (g' := T1.setTop (mkF m 6 #[.val (.ref a1)] [(.int (90 : Int32)), (.int p1)])) (fun t k => XS.bipush X1.here hx rfl (hb hby own_d4_4) k) ?_
  by_cases hc6_2 : p1 = (90 : Int32)
  · refine own_via (g' := T1.setTop (mkF m 18 #[.val (.ref a1)] [])) (fun t k => XS.icmpYes X1.here hx rfl (pc0 := 6) (pc' := 18) rfl (hb hby own_d4_6) rfl (XT.ii_eq_t hc6_2) (by decide) (by decide) k) ?_
    refine own_via (g' := T1.setTop (mkF m 19 #[.val (.ref a1)] [(.int (1 : Int32))])) (fun t k => XS.iconst X1.here hx rfl (hb hby own_d4_18) k) ?_
    refine own_via (g' := T1.setTop (mkF m 23 #[.val (.ref a1)] [(.int (1 : Int32))])) (fun t k => XS.goto X1.here hx rfl (pc0 := 19) (pc' := 23) rfl (hb hby own_d4_19) (by decide) (by decide) k) ?_
    exact own_retB X1 hx hlk (t := .boolean) Bd.returns (by simp) (hb hby own_d4_23) ⟨(by rw [show nar .boolean (1 : Int32) = (1 : Int32) from rfl]; simp [own_end, hc6_2]), N0, e1⟩ (by decide) (by decide)
  · refine own_via (g' := T1.setTop (mkF m 9 #[.val (.ref a1)] [])) (fun t k => XS.icmpNo X1.here hx rfl (hb hby own_d4_6) rfl (XT.ii_eq_f hc6_2) k) ?_
    refine own_via (g' := T1.setTop (mkF m 10 #[.val (.ref a1)] [(.ref a1)])) (fun t k => XS.aloadN X1.here hx rfl (hb hby own_d4_9) rfl (rfl) k) ?_
    obtain ⟨T3, X3, e3, st3⟩ := getF X1 hx hZ hown (host := "") (Or.inl (hw _ (List.mem_of_getElem? (i := 14) rfl))) Via.refl e1 Fi_0 (g := (mkF m 10 #[.val (.ref a1)] [(.ref a1)])) rfl rfl (hb hby own_d4_10)
    refine own_via (g' := T3.setTop (mkF m 13 #[.val (.ref a1)] [(.int p1)])) (fun t k => st3 _ k) ?_
    refine own_via (g' := T3.setTop (mkF m 15 #[.val (.ref a1)] [(.int (88 : Int32)), (.int p1)])) (fun t k => XS.bipush X3.here hx rfl (hb hby own_d4_13) k) ?_
    by_cases hc15_4 : p1 = (88 : Int32)
    · refine own_via (g' := T3.setTop (mkF m 18 #[.val (.ref a1)] [])) (fun t k => XS.icmpNo X3.here hx rfl (hb hby own_d4_15) rfl (XT.ii_ne_f hc15_4) k) ?_
      refine own_via (g' := T3.setTop (mkF m 19 #[.val (.ref a1)] [(.int (1 : Int32))])) (fun t k => XS.iconst X3.here hx rfl (hb hby own_d4_18) k) ?_
      refine own_via (g' := T3.setTop (mkF m 23 #[.val (.ref a1)] [(.int (1 : Int32))])) (fun t k => XS.goto X3.here hx rfl (pc0 := 19) (pc' := 23) rfl (hb hby own_d4_19) (by decide) (by decide) k) ?_
      exact own_retB X3 hx hlk (t := .boolean) Bd.returns (by simp) (hb hby own_d4_23) ⟨(by rw [show nar .boolean (1 : Int32) = (1 : Int32) from rfl]; simp [own_end, hc6_2, hc15_4]), N0, e3⟩ (by decide) (by decide)
    · refine own_via (g' := T3.setTop (mkF m 22 #[.val (.ref a1)] [])) (fun t k => XS.icmpYes X3.here hx rfl (pc0 := 15) (pc' := 22) rfl (hb hby own_d4_15) rfl (XT.ii_ne_t hc15_4) (by decide) (by decide) k) ?_
      refine own_via (g' := T3.setTop (mkF m 23 #[.val (.ref a1)] [(.int (0 : Int32))])) (fun t k => XS.iconst X3.here hx rfl (hb hby own_d4_22) k) ?_
      exact own_retB X3 hx hlk (t := .boolean) Bd.returns (by simp) (hb hby own_d4_23) ⟨(by rw [show nar .boolean (0 : Int32) = (0 : Int32) from rfl]; simp [own_end, hc6_2, hc15_4]), N0, e3⟩ (by decide) (by decide)
theorem own_d5_0 : decode prog_4_method_6_code 0 = .ok (.aload_n 0, 1) := by decide +kernel
theorem own_d5_1 : decode prog_4_method_6_code 1 = .ok (.getfield 7, 3) := by decide +kernel
theorem own_d5_4 : decode prog_4_method_6_code 4 = .ok (.ireturn, 1) := by decide +kernel
theorem ef_own_rm5 (m : MethodId) (a1 : Addr) : entryFrame m #[(.ref a1)] 1 = mkF m 0 #[.val (.ref a1)] [] := by first | (simp [entryFrame, mkF, argsToLocals, Value.category]; done) | rfl
def own_rm5_Q (Z : State) (a1 : Addr) (p1 : Int32) (h0 : Heap) (n0 : Nat) (v : Option Value) (h : Heap) (L : List Loc) : Prop := v = some (.int (p1)) ∧ Fr n0 L ∧ h = h0
set_option maxRecDepth 65536 in
set_option maxHeartbeats 40000000 in
theorem own_rm5 (l : Launch) (Z : State) (a0 : Array Value) (hw : ∀ d ∈ tables_1, d.before a0 Z = true) (ws : List Jvm.Cond) (a1 : Addr) (p1 : Int32) (h0 : Heap) (n0 : Nat) (Z0 : n0 ≤ h0.size) (Fi_0 : Fld Z h0 a1 "com/example/holdfast/holdfast/cli/ProcFiles$Stat" "state" "C" (.int p1)) (hn1 : narrow .char (.int p1) = .int p1) :
    MetFree l (⟨"com/example/holdfast/holdfast/cli/ProcFiles$Stat", "state", "()C"⟩ : MethodName) (head1 (Jvm.Cond.code (⟨"com/example/holdfast/holdfast/cli/ProcFiles$Stat", "state", "()C"⟩ : MethodName) prog_4_method_6_code 1 (some .char) :: ws) ({ frames := 0, cells := 0, slots := 0, locals := 0 } : Room)) (fun a U => a = #[(.ref a1)] ∧ Z.Warmed39 U.vm ∧ U.heap = h0) (fun _ _ _ _ _ => True) (fun _ U o U' => ∃ v L, o = .returned v ∧ own_rm5_Q Z a1 p1 h0 n0 v U'.heap L ∧ FrameEnd U o U' L ({ frames := 0, cells := 0, slots := 0, locals := 0 } : Room).cells ({ frames := 0, cells := 0, slots := 0, locals := 0 } : Room).slots) := by
  refine MetFree.of_bodySF (plainFor_of_name own_pn1) hisR ?_
  intro p e s m args below meth c s₁ Bd hml0 hP hK
  obtain ⟨rfl, hZ, hh⟩ := hP
  have hx := Bd.exec
  have hby := Bd.bytes
  have hml : c.maxLocals = 1 := hml0
  have hown : s.vm.findClass "com/example/holdfast/holdfast/cli/ProcFiles$Stat" = some m.cls := findClass_of_methodNamed Bd.named
  have hnm := (name_of_methodNamed Bd.named Bd.method).1
  have hlk : meth.locks = false := BodyLoose.notSynchronized Bd
  have X0 : Stand p l e ({ frames := 0, cells := 0, slots := 0, locals := 0 } : Room) s m #[(.ref a1)] below meth c s₁ [] 0 0 := Stand.of_body Bd
  have e0 : s₁.heap = h0 := by rw [← hh, Bd.state]; rfl
  have N0 := Fr.nil n0
  have K0 : Keep h0 h0 [] := Keep.refl h0 []
  show own_Fin p e below (own_P (own_rm5_Q Z a1 p1 h0 n0) s ({ frames := 0, cells := 0, slots := 0, locals := 0 } : Room).cells ({ frames := 0, cells := 0, slots := 0, locals := 0 } : Room).slots) (s₁.setTop (entryFrame m #[(.ref a1)] 1))
  refine own_via (g' := s₁.setTop (mkF m 0 #[.val (.ref a1)] [])) (fun t k => castTop (ef_own_rm5 m a1) k) ?_
  refine own_via (g' := s₁.setTop (mkF m 1 #[.val (.ref a1)] [(.ref a1)])) (fun t k => XS.aloadN X0.here hx rfl (hb hby own_d5_0) rfl (rfl) k) ?_
  obtain ⟨T1, X1, e1, st1⟩ := getF X0 hx hZ hown (host := "") (Or.inl (hw _ (List.mem_of_getElem? (i := 14) rfl))) Via.refl e0 Fi_0 (g := (mkF m 1 #[.val (.ref a1)] [(.ref a1)])) rfl rfl (hb hby own_d5_1)
  refine own_via (g' := T1.setTop (mkF m 4 #[.val (.ref a1)] [(.int p1)])) (fun t k => st1 _ k) ?_
  exact own_retB X1 hx hlk (t := .char) Bd.returns (by simp) (hb hby own_d5_4) ⟨(congrArg some hn1), N0, e1⟩ (by decide) (by decide)
theorem own_d6_0 : decode prog_4_method_7_code 0 = .ok (.aload_n 0, 1) := by decide +kernel
theorem own_d6_1 : decode prog_4_method_7_code 1 = .ok (.getfield 13, 3) := by decide +kernel
theorem own_d6_4 : decode prog_4_method_7_code 4 = .ok (.lreturn, 1) := by decide +kernel
theorem ef_own_rm6 (m : MethodId) (a1 : Addr) : entryFrame m #[(.ref a1)] 1 = mkF m 0 #[.val (.ref a1)] [] := by first | (simp [entryFrame, mkF, argsToLocals, Value.category]; done) | rfl
def own_rm6_Q (Z : State) (a1 : Addr) (q1 : Int64) (h0 : Heap) (n0 : Nat) (v : Option Value) (h : Heap) (L : List Loc) : Prop := v = some (.long (q1)) ∧ Fr n0 L ∧ h = h0
set_option maxRecDepth 65536 in
set_option maxHeartbeats 40000000 in
theorem own_rm6 (l : Launch) (Z : State) (a0 : Array Value) (hw : ∀ d ∈ tables_1, d.before a0 Z = true) (ws : List Jvm.Cond) (a1 : Addr) (q1 : Int64) (h0 : Heap) (n0 : Nat) (Z0 : n0 ≤ h0.size) (Fi_0 : Fld Z h0 a1 "com/example/holdfast/holdfast/cli/ProcFiles$Stat" "session" "J" (.long q1)) :
    MetFree l (⟨"com/example/holdfast/holdfast/cli/ProcFiles$Stat", "session", "()J"⟩ : MethodName) (head1 (Jvm.Cond.code (⟨"com/example/holdfast/holdfast/cli/ProcFiles$Stat", "session", "()J"⟩ : MethodName) prog_4_method_7_code 1 (some .long) :: ws) ({ frames := 0, cells := 0, slots := 0, locals := 0 } : Room)) (fun a U => a = #[(.ref a1)] ∧ Z.Warmed39 U.vm ∧ U.heap = h0) (fun _ _ _ _ _ => True) (fun _ U o U' => ∃ v L, o = .returned v ∧ own_rm6_Q Z a1 q1 h0 n0 v U'.heap L ∧ FrameEnd U o U' L ({ frames := 0, cells := 0, slots := 0, locals := 0 } : Room).cells ({ frames := 0, cells := 0, slots := 0, locals := 0 } : Room).slots) := by
  refine MetFree.of_bodySF (plainFor_of_name own_pn1) hisR ?_
  intro p e s m args below meth c s₁ Bd hml0 hP hK
  obtain ⟨rfl, hZ, hh⟩ := hP
  have hx := Bd.exec
  have hby := Bd.bytes
  have hml : c.maxLocals = 1 := hml0
  have hown : s.vm.findClass "com/example/holdfast/holdfast/cli/ProcFiles$Stat" = some m.cls := findClass_of_methodNamed Bd.named
  have hnm := (name_of_methodNamed Bd.named Bd.method).1
  have hlk : meth.locks = false := BodyLoose.notSynchronized Bd
  have X0 : Stand p l e ({ frames := 0, cells := 0, slots := 0, locals := 0 } : Room) s m #[(.ref a1)] below meth c s₁ [] 0 0 := Stand.of_body Bd
  have e0 : s₁.heap = h0 := by rw [← hh, Bd.state]; rfl
  have N0 := Fr.nil n0
  have K0 : Keep h0 h0 [] := Keep.refl h0 []
  show own_Fin p e below (own_P (own_rm6_Q Z a1 q1 h0 n0) s ({ frames := 0, cells := 0, slots := 0, locals := 0 } : Room).cells ({ frames := 0, cells := 0, slots := 0, locals := 0 } : Room).slots) (s₁.setTop (entryFrame m #[(.ref a1)] 1))
  refine own_via (g' := s₁.setTop (mkF m 0 #[.val (.ref a1)] [])) (fun t k => castTop (ef_own_rm6 m a1) k) ?_
  refine own_via (g' := s₁.setTop (mkF m 1 #[.val (.ref a1)] [(.ref a1)])) (fun t k => XS.aloadN X0.here hx rfl (hb hby own_d6_0) rfl (rfl) k) ?_
  obtain ⟨T1, X1, e1, st1⟩ := getF X0 hx hZ hown (host := "") (Or.inl (hw _ (List.mem_of_getElem? (i := 16) rfl))) Via.refl e0 Fi_0 (g := (mkF m 1 #[.val (.ref a1)] [(.ref a1)])) rfl rfl (hb hby own_d6_1)
  refine own_via (g' := T1.setTop (mkF m 4 #[.val (.ref a1)] [(.long q1)])) (fun t k => st1 _ k) ?_
  exact own_retJ X1 hx hlk Bd.returns (hb hby own_d6_4) ⟨rfl, N0, e1⟩ (by decide) (by decide)
theorem own_pn2 : plainName "com/example/holdfast/holdfast/cli/StatEndedPinLaw" = true := by first | (simp [plainName, overriddenIn]; done) | decide +kernel
theorem own_pd1 : parseMethodDescriptor "(CJ)V" = some ⟨[.char, .long], none⟩ := by decide +kernel
theorem own_pd2 : parseMethodDescriptor "()Z" = some ⟨[], some .boolean⟩ := by decide +kernel
theorem own_pd3 : parseMethodDescriptor "()C" = some ⟨[], some .char⟩ := by decide +kernel
theorem own_pd4 : parseMethodDescriptor "()J" = some ⟨[], some .long⟩ := by decide +kernel
theorem ef_own_rm0 (m : MethodId) (i0 : Int32) (j1 : Int64) : entryFrame m #[(.int i0), (.long j1)] maxLocals = mkF m 0 #[.val (.int i0), .val (.long j1), .second, .unset, .unset, .unset] [] := by first | (simp [entryFrame, mkF, argsToLocals, Value.category, maxLocals]; done) | rfl
def own_rm0_Q (Z : State) (i0 : Int32) (j1 : Int64)  (h0 : Heap) (n0 : Nat) (v : Option Value) (h : Heap) (L : List Loc) : Prop := v = some (.int 1) ∧ Fr n0 L
set_option maxRecDepth 65536 in
set_option maxHeartbeats 40000000 in
theorem own_rm0 (l : Launch) (Z : State) (a0 : Array Value) (hw : ∀ d ∈ tables_1, d.before a0 Z = true) (ws : List Jvm.Cond) (i0 : Int32) (j1 : Int64)  (h0 : Heap) (n0 : Nat) (Z0 : n0 ≤ h0.size) :
    MetFree l x (head1 (Jvm.Cond.code x code maxLocals ret :: ws) room_1) (fun a U => a = #[(.int i0), (.long j1)] ∧ Z.Warmed39 U.vm ∧ U.heap = h0) (fun _ _ _ _ _ => True) (fun _ U o U' => ∃ v L, o = .returned v ∧ own_rm0_Q Z i0 j1  h0 n0 v U'.heap L ∧ FrameEnd U o U' L room_1.cells room_1.slots) := by
  refine MetFree.of_bodySF (plainFor_of_name own_pn2) hisR ?_
  intro p e s m args below meth c s₁ Bd hml0 hP hK
  obtain ⟨rfl, hZ, hh⟩ := hP
  have hx := Bd.exec
  have hby := Bd.bytes
  have hml : c.maxLocals = 6 := hml0
  have hown : s.vm.findClass "com/example/holdfast/holdfast/cli/StatEndedPinLaw" = some m.cls := findClass_of_methodNamed Bd.named
  have hnm := (name_of_methodNamed Bd.named Bd.method).1
  have hlk : meth.locks = false := BodyLoose.notSynchronized Bd
  have X0 : Stand p l e room_1 s m #[(.int i0), (.long j1)] below meth c s₁ [] 0 0 := Stand.of_body Bd
  have e0 : s₁.heap = h0 := by rw [← hh, Bd.state]; rfl
  have N0 := Fr.nil n0
  have K0 : Keep h0 h0 [] := Keep.refl h0 []
  show own_Fin p e below (own_P (own_rm0_Q Z i0 j1  h0 n0) s room_1.cells room_1.slots) (s₁.setTop (entryFrame m #[(.int i0), (.long j1)] maxLocals))
  refine own_via (g' := s₁.setTop (mkF m 0 #[.val (.int i0), .val (.long j1), .second, .unset, .unset, .unset] [])) (fun t k => castTop (ef_own_rm0 m i0 j1) k) ?_
  refine own_via (g' := s₁.setTop (mkF m 1 #[.val (.int i0), .val (.long j1), .second, .unset, .unset, .unset] [(.int i0)])) (fun t k => XS.iloadN X0.here hx rfl (hb hby at_0) rfl k) ?_
  refine own_via (g' := s₁.setTop (mkF m 2 #[.val (.int i0), .val (.long j1), .second, .unset, .unset, .unset] [(.int (i0.toUInt32.toUInt16.toUInt32.toInt32))])) (fun t k => XT.i2c X0.here hx rfl (hb hby at_1) rfl k) ?_
  generalize hc0 : (i0.toUInt32.toUInt16.toUInt32.toInt32) = c0
  have hn1 : narrow .char (.int c0) = .int c0 := hc0 ▸ XT.narrow_c i0
  have hf1 : fits .char (.int c0) = true := hc0 ▸ fits_nar_char i0
  refine own_via (g' := s₁.setTop (mkF m 3 #[.val (.int i0), .val (.long j1), .second, .val (.int c0), .unset, .unset] [])) (fun t k => XS.istoreN X0.here hx rfl (hb hby at_2) rfl (l' := #[.val (.int i0), .val (.long j1), .second, .val (.int c0), .unset, .unset]) rfl k) ?_
  obtain ⟨T1, h1, X1, e1, E1, A1, D1, -, st1⟩ := newO X0 hx hZ hown (hw _ (List.mem_of_getElem? (i := 0) rfl)) (hw _ (List.mem_of_getElem? (i := 1) rfl)) (hw _ (List.mem_of_getElem? (i := 2) rfl)) e0 (g := (mkF m 3 #[.val (.int i0), .val (.long j1), .second, .val (.int c0), .unset, .unset] [])) rfl (hb hby at_3) (by decide) (by decide)
  obtain ⟨b1, g1⟩ : ∃ z, z = h0.size := ⟨_, rfl⟩
  rw [← g1] at A1 D1 st1
  have sz_b1 : h0.size ≤ b1 := Nat.le_trans K0.1 (Nat.le_of_eq g1.symm)
  have g_b1 : n0 ≤ b1 := Nat.le_trans Z0 sz_b1
  have Kc1 : Keep h0 h1 [] := K0.ext E1
  have F1_15 : Fld Z h1 b1 "com/example/holdfast/holdfast/cli/ProcFiles$Stat" "state" "C" (.int (0 : Int32)) := D1 (Or.inr (hw _ (List.mem_of_getElem? (i := 15) rfl))) (ty := .char) (by decide)
  have F1_17 : Fld Z h1 b1 "com/example/holdfast/holdfast/cli/ProcFiles$Stat" "session" "J" (.long (0 : Int64)) := D1 (Or.inr (hw _ (List.mem_of_getElem? (i := 17) rfl))) (ty := .long) (by decide)
  refine own_via (g' := T1.setTop (mkF m 6 #[.val (.int i0), .val (.long j1), .second, .val (.int c0), .unset, .unset] [(.ref b1)])) (fun t k => st1 _ k) ?_
  refine own_via (g' := T1.setTop (mkF m 7 #[.val (.int i0), .val (.long j1), .second, .val (.int c0), .unset, .unset] [(.ref b1), (.ref b1)])) (fun t k => XS.dup X1.here hx rfl (hb hby at_6) rfl (rfl) k) ?_
  refine own_via (g' := T1.setTop (mkF m 8 #[.val (.int i0), .val (.long j1), .second, .val (.int c0), .unset, .unset] [(.int c0), (.ref b1), (.ref b1)])) (fun t k => XS.iloadN X1.here hx rfl (hb hby at_7) rfl k) ?_
  refine own_via (g' := T1.setTop (mkF m 9 #[.val (.int i0), .val (.long j1), .second, .val (.int c0), .unset, .unset] [(.long j1), (.int c0), (.ref b1), (.ref b1)])) (fun t k => XT.lloadN X1.here hx rfl (hb hby at_8) rfl k) ?_
  obtain ⟨v2, _, ⟨T2, L2, k2, n2⟩, -, X2, ⟨Lc2, hQ2, l2, y2, z2⟩, st2⟩ := X1.specialBack hx (y := (⟨"com/example/holdfast/holdfast/cli/ProcFiles$Stat", "<init>", "(CJ)V"⟩ : MethodName)) rfl hown (mvT hZ (hw _ (List.mem_of_getElem? (i := 3) rfl))) (mvT hZ (hw _ (List.mem_of_getElem? (i := 4) rfl))) (mvT hZ (hw _ (List.mem_of_getElem? (i := 5) rfl))) (by decide) (backOf (W := 1) (own_rm1 l Z a0 hw [] b1 c0 j1 h1 n0 (Nat.le_trans Z0 Kc1.1) A1 F1_15 F1_17 g_b1 hn1 hf1) hZ (hw _ (List.mem_of_getElem? (i := 5) rfl)) (hw _ (List.mem_of_getElem? (i := 2) rfl)) (by decide) (by decide)) (g := (mkF m 9 #[.val (.int i0), .val (.long j1), .second, .val (.int c0), .unset, .unset] [(.long j1), (.int c0), (.ref b1), (.ref b1)])) rfl (by rw [hml]; rfl) (Steps.refl _) (a := b1) (argsL := [(.int c0), (.long j1)]) (rest := [(.ref b1)]) (lenOf own_pd1 rfl) rfl (by show 2 * 0 + _ ≤ _; exact Nat.le_of_eq rfl) (hb hby at_9) (fun _ _ => ⟨rfl, e1, (by decide : 1 + 0 ≤ _), (by decide : 2 + 0 ≤ _)⟩)
  dsimp only [Pt.U, Pt.locs, Pt.cells, Pt.slots] at X2 l2 y2 z2 st2 hQ2
  subst l2 y2 z2
  obtain ⟨rfl, N2q, K2, A2, Fa2_0, Fa2_1⟩ := hQ2
  have Kc2 : Keep h0 T2.heap [] := Kc1.trans K2 (allS (Or.inr sz_b1) all0)
  have N2 := Fr.app N0 N2q
  refine own_via (g' := T2.setTop (mkF m 12 #[.val (.int i0), .val (.long j1), .second, .val (.int c0), .unset, .unset] [(.ref b1)])) (fun t k => st2.trans k) ?_
  refine own_via (g' := T2.setTop (mkF m 14 #[.val (.int i0), .val (.long j1), .second, .val (.int c0), .val (.ref b1), .unset] [])) (fun t k => XS.astore X2.here hx rfl (hb hby at_12) rfl (rfl) (l' := #[.val (.int i0), .val (.long j1), .second, .val (.int c0), .val (.ref b1), .unset]) rfl k) ?_
  refine own_via (g' := T2.setTop (mkF m 15 #[.val (.int i0), .val (.long j1), .second, .val (.int c0), .val (.ref b1), .unset] [(.int c0)])) (fun t k => XS.iloadN X2.here hx rfl (hb hby at_14) rfl k) ?_
  refine own_via (g' := T2.setTop (mkF m 16 #[.val (.int i0), .val (.long j1), .second, .val (.int c0), .val (.ref b1), .unset] [(.int (2 : Int32)), (.int c0)])) (fun t k => XS.iconst X2.here hx rfl (hb hby at_15) k) ?_
  refine own_via (g' := T2.setTop (mkF m 17 #[.val (.int i0), .val (.long j1), .second, .val (.int c0), .val (.ref b1), .unset] [(.int (c0 ||| (2 : Int32)))])) (fun t k => XT.ior X2.here hx rfl (hb hby at_16) rfl k) ?_
  refine own_via (g' := T2.setTop (mkF m 19 #[.val (.int i0), .val (.long j1), .second, .val (.int c0), .val (.ref b1), .unset] [(.int (90 : Int32)), (.int (c0 ||| (2 : Int32)))])) (fun t k => XS.bipush X2.here hx rfl (hb hby at_17) k) ?_
  by_cases hc19_3 : (c0 ||| (2 : Int32)) = (90 : Int32)
  · refine own_via (g' := T2.setTop (mkF m 22 #[.val (.int i0), .val (.long j1), .second, .val (.int c0), .val (.ref b1), .unset] [])) (fun t k => XS.icmpNo X2.here hx rfl (hb hby at_19) rfl (XT.ii_ne_f hc19_3) k) ?_
    refine own_via (g' := T2.setTop (mkF m 23 #[.val (.int i0), .val (.long j1), .second, .val (.int c0), .val (.ref b1), .unset] [(.int (1 : Int32))])) (fun t k => XS.iconst X2.here hx rfl (hb hby at_22) k) ?_
    refine own_via (g' := T2.setTop (mkF m 27 #[.val (.int i0), .val (.long j1), .second, .val (.int c0), .val (.ref b1), .unset] [(.int (1 : Int32))])) (fun t k => XS.goto X2.here hx rfl (pc0 := 23) (pc' := 27) rfl (hb hby at_23) (by decide) (by decide) k) ?_
    refine own_via (g' := T2.setTop (mkF m 29 #[.val (.int i0), .val (.long j1), .second, .val (.int c0), .val (.ref b1), .val (.int (1 : Int32))] [])) (fun t k => XS.istore X2.here hx rfl (hb hby at_27) rfl (l' := #[.val (.int i0), .val (.long j1), .second, .val (.int c0), .val (.ref b1), .val (.int (1 : Int32))]) rfl k) ?_
    refine own_via (g' := T2.setTop (mkF m 31 #[.val (.int i0), .val (.long j1), .second, .val (.int c0), .val (.ref b1), .val (.int (1 : Int32))] [(.ref b1)])) (fun t k => XS.aload X2.here hx rfl (hb hby at_29) rfl (rfl) k) ?_
    obtain ⟨cq4, kq4, q4a, q4b, q4c⟩ := isOf hZ rfl A2
    obtain ⟨v4, _, ⟨T4, L4, k4, n4⟩, -, X4, ⟨Lc4, hQ4, l4, y4, z4⟩, st4⟩ := X2.virtualBack hx (y := (⟨"com/example/holdfast/holdfast/cli/ProcFiles$Stat", "ended", "()Z"⟩ : MethodName)) (z := (⟨"com/example/holdfast/holdfast/cli/ProcFiles$Stat", "ended", "()Z"⟩ : MethodName)) hown (mvT hZ (hw _ (List.mem_of_getElem? (i := 18) rfl))) (mvT hZ (hw _ (List.mem_of_getElem? (i := 19) rfl))) (notFace_of_selects (args := #[]) (mvT hZ (hw _ (List.mem_of_getElem? (i := 21) rfl)))) (mvT hZ (hw _ (List.mem_of_getElem? (i := 21) rfl))) (mvT hZ (hw _ (List.mem_of_getElem? (i := 20) rfl))) (by decide) (backOf (W := 0) (own_rm4 l Z a0 hw [] b1 c0 T2.heap n0 (Nat.le_trans Z0 Kc2.1) Fa2_0) hZ (hw _ (List.mem_of_getElem? (i := 22) rfl)) (hw _ (List.mem_of_getElem? (i := 2) rfl)) (by decide) (by decide)) q4a q4c (g := (mkF m 31 #[.val (.int i0), .val (.long j1), .second, .val (.int c0), .val (.ref b1), .val (.int (1 : Int32))] [(.ref b1)])) rfl (by rw [hml]; rfl) (Steps.refl _) (argsL := []) (rest := []) (lenOf own_pd2 rfl) rfl (by show 2 * 0 + _ ≤ _; exact Nat.le_of_eq rfl) (hb hby at_31) (fun _ _ => ⟨rfl, rfl, (by decide : 1 + 0 ≤ _), (by decide : 2 + 0 ≤ _)⟩)
    dsimp only [Pt.U, Pt.locs, Pt.cells, Pt.slots] at X4 l4 y4 z4 st4 hQ4
    subst l4 y4 z4
    obtain ⟨rfl, N4q, e4⟩ := hQ4
    have N4 := Fr.app N2 N4q
    refine own_via (g' := T4.setTop (mkF m 34 #[.val (.int i0), .val (.long j1), .second, .val (.int c0), .val (.ref b1), .val (.int (1 : Int32))] [(.int (own_end c0))])) (fun t k => st4.trans k) ?_
    refine own_via (g' := T4.setTop (mkF m 36 #[.val (.int i0), .val (.long j1), .second, .val (.int c0), .val (.ref b1), .val (.int (1 : Int32))] [(.int (1 : Int32)), (.int (own_end c0))])) (fun t k => XS.iload X4.here hx rfl (hb hby at_34) rfl k) ?_
    refine own_via (g' := T4.setTop (mkF m 39 #[.val (.int i0), .val (.long j1), .second, .val (.int c0), .val (.ref b1), .val (.int (1 : Int32))] [])) (fun t k => XS.icmpNo X4.here hx rfl (hb hby at_36) rfl (XT.ii_ne_f (by have q := own_or c0; simp only [iff_true_intro hc19_3, true_iff, false_iff, not_or] at q; rcases q with q | q <;> simp [own_end, q])) k) ?_
    refine own_via (g' := T4.setTop (mkF m 41 #[.val (.int i0), .val (.long j1), .second, .val (.int c0), .val (.ref b1), .val (.int (1 : Int32))] [(.ref b1)])) (fun t k => XS.aload X4.here hx rfl (hb hby at_39) rfl (rfl) k) ?_
    obtain ⟨cq5, kq5, q5a, q5b, q5c⟩ := isOf hZ e4 A2
    obtain ⟨v5, _, ⟨T5, L5, k5, n5⟩, -, X5, ⟨Lc5, hQ5, l5, y5, z5⟩, st5⟩ := X4.virtualBack hx (y := (⟨"com/example/holdfast/holdfast/cli/ProcFiles$Stat", "state", "()C"⟩ : MethodName)) (z := (⟨"com/example/holdfast/holdfast/cli/ProcFiles$Stat", "state", "()C"⟩ : MethodName)) hown (mvT hZ (hw _ (List.mem_of_getElem? (i := 23) rfl))) (mvT hZ (hw _ (List.mem_of_getElem? (i := 24) rfl))) (notFace_of_selects (args := #[]) (mvT hZ (hw _ (List.mem_of_getElem? (i := 26) rfl)))) (mvT hZ (hw _ (List.mem_of_getElem? (i := 26) rfl))) (mvT hZ (hw _ (List.mem_of_getElem? (i := 25) rfl))) (by decide) (backOf (W := 0) (own_rm5 l Z a0 hw [] b1 c0 T2.heap n0 (Nat.le_trans Z0 Kc2.1) Fa2_0 hn1) hZ (hw _ (List.mem_of_getElem? (i := 27) rfl)) (hw _ (List.mem_of_getElem? (i := 2) rfl)) (by decide) (by decide)) q5a q5c (g := (mkF m 41 #[.val (.int i0), .val (.long j1), .second, .val (.int c0), .val (.ref b1), .val (.int (1 : Int32))] [(.ref b1)])) rfl (by rw [hml]; rfl) (Steps.refl _) (argsL := []) (rest := []) (lenOf own_pd3 rfl) rfl (by show 2 * 0 + _ ≤ _; exact Nat.le_of_eq rfl) (hb hby at_41) (fun _ _ => ⟨rfl, e4, (by decide : 1 + 0 ≤ _), (by decide : 2 + 0 ≤ _)⟩)
    dsimp only [Pt.U, Pt.locs, Pt.cells, Pt.slots] at X5 l5 y5 z5 st5 hQ5
    subst l5 y5 z5
    obtain ⟨rfl, N5q, e5⟩ := hQ5
    have N5 := Fr.app N4 N5q
    refine own_via (g' := T5.setTop (mkF m 44 #[.val (.int i0), .val (.long j1), .second, .val (.int c0), .val (.ref b1), .val (.int (1 : Int32))] [(.int c0)])) (fun t k => st5.trans k) ?_
    refine own_via (g' := T5.setTop (mkF m 45 #[.val (.int i0), .val (.long j1), .second, .val (.int c0), .val (.ref b1), .val (.int (1 : Int32))] [(.int c0), (.int c0)])) (fun t k => XS.iloadN X5.here hx rfl (hb hby at_44) rfl k) ?_
    refine own_via (g' := T5.setTop (mkF m 48 #[.val (.int i0), .val (.long j1), .second, .val (.int c0), .val (.ref b1), .val (.int (1 : Int32))] [])) (fun t k => XS.icmpNo X5.here hx rfl (hb hby at_45) rfl (XT.ii_ne_f rfl) k) ?_
    refine own_via (g' := T5.setTop (mkF m 50 #[.val (.int i0), .val (.long j1), .second, .val (.int c0), .val (.ref b1), .val (.int (1 : Int32))] [(.ref b1)])) (fun t k => XS.aload X5.here hx rfl (hb hby at_48) rfl (rfl) k) ?_
    obtain ⟨cq6, kq6, q6a, q6b, q6c⟩ := isOf hZ e5 A2
    obtain ⟨v6, _, ⟨T6, L6, k6, n6⟩, -, X6, ⟨Lc6, hQ6, l6, y6, z6⟩, st6⟩ := X5.virtualBack hx (y := (⟨"com/example/holdfast/holdfast/cli/ProcFiles$Stat", "session", "()J"⟩ : MethodName)) (z := (⟨"com/example/holdfast/holdfast/cli/ProcFiles$Stat", "session", "()J"⟩ : MethodName)) hown (mvT hZ (hw _ (List.mem_of_getElem? (i := 28) rfl))) (mvT hZ (hw _ (List.mem_of_getElem? (i := 29) rfl))) (notFace_of_selects (args := #[]) (mvT hZ (hw _ (List.mem_of_getElem? (i := 31) rfl)))) (mvT hZ (hw _ (List.mem_of_getElem? (i := 31) rfl))) (mvT hZ (hw _ (List.mem_of_getElem? (i := 30) rfl))) (by decide) (backOf (W := 0) (own_rm6 l Z a0 hw [] b1 j1 T2.heap n0 (Nat.le_trans Z0 Kc2.1) Fa2_1) hZ (hw _ (List.mem_of_getElem? (i := 32) rfl)) (hw _ (List.mem_of_getElem? (i := 2) rfl)) (by decide) (by decide)) q6a q6c (g := (mkF m 50 #[.val (.int i0), .val (.long j1), .second, .val (.int c0), .val (.ref b1), .val (.int (1 : Int32))] [(.ref b1)])) rfl (by rw [hml]; rfl) (Steps.refl _) (argsL := []) (rest := []) (lenOf own_pd4 rfl) rfl (by show 2 * 0 + _ ≤ _; exact Nat.le_of_eq rfl) (hb hby at_50) (fun _ _ => ⟨rfl, e5, (by decide : 1 + 0 ≤ _), (by decide : 2 + 0 ≤ _)⟩)
    dsimp only [Pt.U, Pt.locs, Pt.cells, Pt.slots] at X6 l6 y6 z6 st6 hQ6
    subst l6 y6 z6
    obtain ⟨rfl, N6q, e6⟩ := hQ6
    have N6 := Fr.app N5 N6q
    refine own_via (g' := T6.setTop (mkF m 53 #[.val (.int i0), .val (.long j1), .second, .val (.int c0), .val (.ref b1), .val (.int (1 : Int32))] [(.long j1)])) (fun t k => st6.trans k) ?_
    refine own_via (g' := T6.setTop (mkF m 54 #[.val (.int i0), .val (.long j1), .second, .val (.int c0), .val (.ref b1), .val (.int (1 : Int32))] [(.long j1), (.long j1)])) (fun t k => XT.lloadN X6.here hx rfl (hb hby at_53) rfl k) ?_
    refine own_via (g' := T6.setTop (mkF m 55 #[.val (.int i0), .val (.long j1), .second, .val (.int c0), .val (.ref b1), .val (.int (1 : Int32))] [(.int (XT.cmpL j1 j1))])) (fun t k => XT.lcmp X6.here hx rfl (hb hby at_54) rfl k) ?_
    refine own_via (g' := T6.setTop (mkF m 58 #[.val (.int i0), .val (.long j1), .second, .val (.int c0), .val (.ref b1), .val (.int (1 : Int32))] [])) (fun t k => XS.ifNo X6.here hx rfl (hb hby at_55) rfl (XT.ll_ne_f rfl) k) ?_
    refine own_via (g' := T6.setTop (mkF m 59 #[.val (.int i0), .val (.long j1), .second, .val (.int c0), .val (.ref b1), .val (.int (1 : Int32))] [(.int (1 : Int32))])) (fun t k => XS.iconst X6.here hx rfl (hb hby at_58) k) ?_
    refine own_via (g' := T6.setTop (mkF m 63 #[.val (.int i0), .val (.long j1), .second, .val (.int c0), .val (.ref b1), .val (.int (1 : Int32))] [(.int (1 : Int32))])) (fun t k => XS.goto X6.here hx rfl (pc0 := 59) (pc' := 63) rfl (hb hby at_59) (by decide) (by decide) k) ?_
    exact own_retB X6 hx hlk (t := .boolean) Bd.returns (by simp) (hb hby at_63) ⟨rfl, N6⟩ (by decide) (by decide)
  · refine own_via (g' := T2.setTop (mkF m 26 #[.val (.int i0), .val (.long j1), .second, .val (.int c0), .val (.ref b1), .unset] [])) (fun t k => XS.icmpYes X2.here hx rfl (pc0 := 19) (pc' := 26) rfl (hb hby at_19) rfl (XT.ii_ne_t hc19_3) (by decide) (by decide) k) ?_
    refine own_via (g' := T2.setTop (mkF m 27 #[.val (.int i0), .val (.long j1), .second, .val (.int c0), .val (.ref b1), .unset] [(.int (0 : Int32))])) (fun t k => XS.iconst X2.here hx rfl (hb hby at_26) k) ?_
    refine own_via (g' := T2.setTop (mkF m 29 #[.val (.int i0), .val (.long j1), .second, .val (.int c0), .val (.ref b1), .val (.int (0 : Int32))] [])) (fun t k => XS.istore X2.here hx rfl (hb hby at_27) rfl (l' := #[.val (.int i0), .val (.long j1), .second, .val (.int c0), .val (.ref b1), .val (.int (0 : Int32))]) rfl k) ?_
    refine own_via (g' := T2.setTop (mkF m 31 #[.val (.int i0), .val (.long j1), .second, .val (.int c0), .val (.ref b1), .val (.int (0 : Int32))] [(.ref b1)])) (fun t k => XS.aload X2.here hx rfl (hb hby at_29) rfl (rfl) k) ?_
    obtain ⟨cq7, kq7, q7a, q7b, q7c⟩ := isOf hZ rfl A2
    obtain ⟨v7, _, ⟨T7, L7, k7, n7⟩, -, X7, ⟨Lc7, hQ7, l7, y7, z7⟩, st7⟩ := X2.virtualBack hx (y := (⟨"com/example/holdfast/holdfast/cli/ProcFiles$Stat", "ended", "()Z"⟩ : MethodName)) (z := (⟨"com/example/holdfast/holdfast/cli/ProcFiles$Stat", "ended", "()Z"⟩ : MethodName)) hown (mvT hZ (hw _ (List.mem_of_getElem? (i := 18) rfl))) (mvT hZ (hw _ (List.mem_of_getElem? (i := 19) rfl))) (notFace_of_selects (args := #[]) (mvT hZ (hw _ (List.mem_of_getElem? (i := 21) rfl)))) (mvT hZ (hw _ (List.mem_of_getElem? (i := 21) rfl))) (mvT hZ (hw _ (List.mem_of_getElem? (i := 20) rfl))) (by decide) (backOf (W := 0) (own_rm4 l Z a0 hw [] b1 c0 T2.heap n0 (Nat.le_trans Z0 Kc2.1) Fa2_0) hZ (hw _ (List.mem_of_getElem? (i := 22) rfl)) (hw _ (List.mem_of_getElem? (i := 2) rfl)) (by decide) (by decide)) q7a q7c (g := (mkF m 31 #[.val (.int i0), .val (.long j1), .second, .val (.int c0), .val (.ref b1), .val (.int (0 : Int32))] [(.ref b1)])) rfl (by rw [hml]; rfl) (Steps.refl _) (argsL := []) (rest := []) (lenOf own_pd2 rfl) rfl (by show 2 * 0 + _ ≤ _; exact Nat.le_of_eq rfl) (hb hby at_31) (fun _ _ => ⟨rfl, rfl, (by decide : 1 + 0 ≤ _), (by decide : 2 + 0 ≤ _)⟩)
    dsimp only [Pt.U, Pt.locs, Pt.cells, Pt.slots] at X7 l7 y7 z7 st7 hQ7
    subst l7 y7 z7
    obtain ⟨rfl, N7q, e7⟩ := hQ7
    have N7 := Fr.app N2 N7q
    refine own_via (g' := T7.setTop (mkF m 34 #[.val (.int i0), .val (.long j1), .second, .val (.int c0), .val (.ref b1), .val (.int (0 : Int32))] [(.int (own_end c0))])) (fun t k => st7.trans k) ?_
    refine own_via (g' := T7.setTop (mkF m 36 #[.val (.int i0), .val (.long j1), .second, .val (.int c0), .val (.ref b1), .val (.int (0 : Int32))] [(.int (0 : Int32)), (.int (own_end c0))])) (fun t k => XS.iload X7.here hx rfl (hb hby at_34) rfl k) ?_
    refine own_via (g' := T7.setTop (mkF m 39 #[.val (.int i0), .val (.long j1), .second, .val (.int c0), .val (.ref b1), .val (.int (0 : Int32))] [])) (fun t k => XS.icmpNo X7.here hx rfl (hb hby at_36) rfl (XT.ii_ne_f (by have q := own_or c0; simp only [iff_false_intro hc19_3, true_iff, false_iff, not_or] at q; simp [own_end, q.1, q.2])) k) ?_
    refine own_via (g' := T7.setTop (mkF m 41 #[.val (.int i0), .val (.long j1), .second, .val (.int c0), .val (.ref b1), .val (.int (0 : Int32))] [(.ref b1)])) (fun t k => XS.aload X7.here hx rfl (hb hby at_39) rfl (rfl) k) ?_
    obtain ⟨cq8, kq8, q8a, q8b, q8c⟩ := isOf hZ e7 A2
    obtain ⟨v8, _, ⟨T8, L8, k8, n8⟩, -, X8, ⟨Lc8, hQ8, l8, y8, z8⟩, st8⟩ := X7.virtualBack hx (y := (⟨"com/example/holdfast/holdfast/cli/ProcFiles$Stat", "state", "()C"⟩ : MethodName)) (z := (⟨"com/example/holdfast/holdfast/cli/ProcFiles$Stat", "state", "()C"⟩ : MethodName)) hown (mvT hZ (hw _ (List.mem_of_getElem? (i := 23) rfl))) (mvT hZ (hw _ (List.mem_of_getElem? (i := 24) rfl))) (notFace_of_selects (args := #[]) (mvT hZ (hw _ (List.mem_of_getElem? (i := 26) rfl)))) (mvT hZ (hw _ (List.mem_of_getElem? (i := 26) rfl))) (mvT hZ (hw _ (List.mem_of_getElem? (i := 25) rfl))) (by decide) (backOf (W := 0) (own_rm5 l Z a0 hw [] b1 c0 T2.heap n0 (Nat.le_trans Z0 Kc2.1) Fa2_0 hn1) hZ (hw _ (List.mem_of_getElem? (i := 27) rfl)) (hw _ (List.mem_of_getElem? (i := 2) rfl)) (by decide) (by decide)) q8a q8c (g := (mkF m 41 #[.val (.int i0), .val (.long j1), .second, .val (.int c0), .val (.ref b1), .val (.int (0 : Int32))] [(.ref b1)])) rfl (by rw [hml]; rfl) (Steps.refl _) (argsL := []) (rest := []) (lenOf own_pd3 rfl) rfl (by show 2 * 0 + _ ≤ _; exact Nat.le_of_eq rfl) (hb hby at_41) (fun _ _ => ⟨rfl, e7, (by decide : 1 + 0 ≤ _), (by decide : 2 + 0 ≤ _)⟩)
    dsimp only [Pt.U, Pt.locs, Pt.cells, Pt.slots] at X8 l8 y8 z8 st8 hQ8
    subst l8 y8 z8
    obtain ⟨rfl, N8q, e8⟩ := hQ8
    have N8 := Fr.app N7 N8q
    refine own_via (g' := T8.setTop (mkF m 44 #[.val (.int i0), .val (.long j1), .second, .val (.int c0), .val (.ref b1), .val (.int (0 : Int32))] [(.int c0)])) (fun t k => st8.trans k) ?_
    refine own_via (g' := T8.setTop (mkF m 45 #[.val (.int i0), .val (.long j1), .second, .val (.int c0), .val (.ref b1), .val (.int (0 : Int32))] [(.int c0), (.int c0)])) (fun t k => XS.iloadN X8.here hx rfl (hb hby at_44) rfl k) ?_
    refine own_via (g' := T8.setTop (mkF m 48 #[.val (.int i0), .val (.long j1), .second, .val (.int c0), .val (.ref b1), .val (.int (0 : Int32))] [])) (fun t k => XS.icmpNo X8.here hx rfl (hb hby at_45) rfl (XT.ii_ne_f rfl) k) ?_
    refine own_via (g' := T8.setTop (mkF m 50 #[.val (.int i0), .val (.long j1), .second, .val (.int c0), .val (.ref b1), .val (.int (0 : Int32))] [(.ref b1)])) (fun t k => XS.aload X8.here hx rfl (hb hby at_48) rfl (rfl) k) ?_
    obtain ⟨cq9, kq9, q9a, q9b, q9c⟩ := isOf hZ e8 A2
    obtain ⟨v9, _, ⟨T9, L9, k9, n9⟩, -, X9, ⟨Lc9, hQ9, l9, y9, z9⟩, st9⟩ := X8.virtualBack hx (y := (⟨"com/example/holdfast/holdfast/cli/ProcFiles$Stat", "session", "()J"⟩ : MethodName)) (z := (⟨"com/example/holdfast/holdfast/cli/ProcFiles$Stat", "session", "()J"⟩ : MethodName)) hown (mvT hZ (hw _ (List.mem_of_getElem? (i := 28) rfl))) (mvT hZ (hw _ (List.mem_of_getElem? (i := 29) rfl))) (notFace_of_selects (args := #[]) (mvT hZ (hw _ (List.mem_of_getElem? (i := 31) rfl)))) (mvT hZ (hw _ (List.mem_of_getElem? (i := 31) rfl))) (mvT hZ (hw _ (List.mem_of_getElem? (i := 30) rfl))) (by decide) (backOf (W := 0) (own_rm6 l Z a0 hw [] b1 j1 T2.heap n0 (Nat.le_trans Z0 Kc2.1) Fa2_1) hZ (hw _ (List.mem_of_getElem? (i := 32) rfl)) (hw _ (List.mem_of_getElem? (i := 2) rfl)) (by decide) (by decide)) q9a q9c (g := (mkF m 50 #[.val (.int i0), .val (.long j1), .second, .val (.int c0), .val (.ref b1), .val (.int (0 : Int32))] [(.ref b1)])) rfl (by rw [hml]; rfl) (Steps.refl _) (argsL := []) (rest := []) (lenOf own_pd4 rfl) rfl (by show 2 * 0 + _ ≤ _; exact Nat.le_of_eq rfl) (hb hby at_50) (fun _ _ => ⟨rfl, e8, (by decide : 1 + 0 ≤ _), (by decide : 2 + 0 ≤ _)⟩)
    dsimp only [Pt.U, Pt.locs, Pt.cells, Pt.slots] at X9 l9 y9 z9 st9 hQ9
    subst l9 y9 z9
    obtain ⟨rfl, N9q, e9⟩ := hQ9
    have N9 := Fr.app N8 N9q
    refine own_via (g' := T9.setTop (mkF m 53 #[.val (.int i0), .val (.long j1), .second, .val (.int c0), .val (.ref b1), .val (.int (0 : Int32))] [(.long j1)])) (fun t k => st9.trans k) ?_
    refine own_via (g' := T9.setTop (mkF m 54 #[.val (.int i0), .val (.long j1), .second, .val (.int c0), .val (.ref b1), .val (.int (0 : Int32))] [(.long j1), (.long j1)])) (fun t k => XT.lloadN X9.here hx rfl (hb hby at_53) rfl k) ?_
    refine own_via (g' := T9.setTop (mkF m 55 #[.val (.int i0), .val (.long j1), .second, .val (.int c0), .val (.ref b1), .val (.int (0 : Int32))] [(.int (XT.cmpL j1 j1))])) (fun t k => XT.lcmp X9.here hx rfl (hb hby at_54) rfl k) ?_
    refine own_via (g' := T9.setTop (mkF m 58 #[.val (.int i0), .val (.long j1), .second, .val (.int c0), .val (.ref b1), .val (.int (0 : Int32))] [])) (fun t k => XS.ifNo X9.here hx rfl (hb hby at_55) rfl (XT.ll_ne_f rfl) k) ?_
    refine own_via (g' := T9.setTop (mkF m 59 #[.val (.int i0), .val (.long j1), .second, .val (.int c0), .val (.ref b1), .val (.int (0 : Int32))] [(.int (1 : Int32))])) (fun t k => XS.iconst X9.here hx rfl (hb hby at_58) k) ?_
    refine own_via (g' := T9.setTop (mkF m 63 #[.val (.int i0), .val (.long j1), .second, .val (.int c0), .val (.ref b1), .val (.int (0 : Int32))] [(.int (1 : Int32))])) (fun t k => XS.goto X9.here hx rfl (pc0 := 59) (pc' := 63) rfl (hb hby at_59) (by decide) (by decide) k) ?_
    exact own_retB X9 hx hlk (t := .boolean) Bd.returns (by simp) (hb hby at_63) ⟨rfl, N9⟩ (by decide) (by decide)
set_option maxRecDepth 65536 in
set_option maxHeartbeats 40000000 in
theorem comes_1 {Post : Tables → Env → Array Value → State → Outcome → State → Prop} (hpost : ∀ tb e args s v u, (limb_1_1.after args s (.returned v) u = true ∧ limb_1_2.after args s (.returned v) u = true ∧ True) → FrameEnd s (.returned v) u (Jvm.fieldLocs frame_1_writes args s ++ Jvm.arrayLocs frame_1_arrays args s ++ Jvm.staticLocs frame_1_statics s) 16 128 → Post tb e args s (.returned v) u) :
    ArmFor flags0 classFile x code maxLocals ret World_1 tables_1 room_1 Calls_1 rest_1 Pre_1 Post := by
  intro l hfl _ _ p e ha hc hk s m args below hf hA hF happ hP
  obtain ⟨hcalls, hrest, hpre⟩ := hP
  obtain ⟨-, -, -, hnamed, -, -, -, hat⟩ := (Spec.applies_iff hf).mp happ
  obtain ⟨hg, hn⟩ := and_e (Cond.before_iff.mp (show (Jvm.Cond.and given_1 narrow_1).before args s = true from hpre))
  obtain ⟨g1, g2⟩ := and_e hg
  obtain ⟨g3, g4⟩ := and_e g2
  obtain ⟨w0, w1, rfl⟩ : ∃ w0 w1 : Value, args = #[w0, w1] := by
    have hs : args.size = 2 := by simpa [Cond.value, given_1] using g1
    obtain ⟨L⟩ := args
    match L, hs with
    | [w0, w1], _ => exact ⟨w0, w1, rfl⟩
  have hw := fun d (hd : d ∈ tables_1) => atoms_spec (ws := Jvm.Cond.code x code maxLocals ret :: tables_1) hat d (List.mem_cons_of_mem _ hd)
  have hfit : Fit s := fun {y c} hc i hi => by
    obtain ⟨ha, rfl⟩ := Array.getElem?_eq_some_iff.mp hc
    have q := List.all_eq_true.mp ((Array.all_eq_true_iff_forall_mem.mp hF) _ (Array.getElem_mem ha)) i (List.mem_range.mpr hi)
    simpa [Array.getElem?_eq_getElem hi] using q
  obtain ⟨i0, ei0⟩ := is_v g3
  obtain rfl : w0 = (.int i0) := Option.some.inj ei0
  obtain ⟨i1, ei1⟩ := isL_v g4
  obtain rfl : w1 = (.long i1) := Option.some.inj ei1
  obtain ⟨n, o, h1, h2, h3, _, L, rfl, ⟨rfl, N⟩, hq⟩ := own_rm0 l s _ hw tables_1 i0 i1 s.heap s.heap.size (Nat.le_refl _)  p e ha hc hk s m _ below hf ((Spec.applies_iff_loose hf).mp happ).1 ⟨rfl, State.Warmed39.refl s, rfl⟩ trivial
  refine ⟨n, _, h1, h2, h3, hpost _ _ _ _ _ _ ⟨Cond.after_iff.mpr rfl, Cond.after_iff.mpr (eq_i res_at (Term.int_eval (1)) rfl), trivial⟩ ⟨hq.1, hq.2.1, (hq.2.2.sift fun y hy => Or.inr (N y hy)).mono (by decide) (by decide)⟩⟩
theorem main_1_1 : Claimed_1_1 := comes_1 fun _ _ _ _ _ _ h hF => ⟨h.1, hF⟩
theorem main_1_2 : Claimed_1_2 := comes_1 fun _ _ _ _ _ _ h hF => ⟨h.2.1, hF⟩
end Jvm.Pilot.@@N@@
namespace Jvm.Pilot.@@N@@
open Jvm Jvm.ClassFile Sem Op Lib Jvm.Free Jvm.Stand Jvm.Pilot.@@N@@.Jvm.D
/-! MADE BY PROGRAM (witnessworld.py) out of the Statement's table words and the real class files: 10 classes; the members and pool entries that the words name. The judged class is class 1, her method 1. -/
namespace start1
open Jvm.ClassFile
def u (s : String) : CpInfo := .utf8 (stringToUtf16 s)
/-- a pool by its gaps: so many unusable entries, then the entry; so many at the end -/
def gap : Nat → List CpInfo → List CpInfo
  | 0, r => r
  | n + 1, r => .unusable :: gap n r
def poolList (es : List (Nat × CpInfo)) (last : Nat) : List CpInfo := es.foldr (fun e r => gap e.1 (e.2 :: r)) (gap last [])
def pool (es : List (Nat × CpInfo)) (last : Nat) : Array CpInfo := ⟨poolList es last⟩
def fileOf (pool : Array CpInfo) (this : Nat) (attrs : Array Attribute := #[]) (ms : Array MethodInfo := #[]) (fl : Nat := 33) (sup : Nat := 0) (ifs : Array Nat := #[]) (fds : Array FieldInfo := #[]) : ClassFile where
  minorVersion := 0
  majorVersion := 65
  constantPool := pool
  accessFlags := fl
  thisClass := this
  superClass := sup
  interfaces := ifs
  fields := fds
  methods := ms
  attributes := attrs
def plain (name : String) (sup : Option ClassId) : Class where
  name := name
  kind := .ordinary
  loader := none
  accessFlags := 33
  super := sup
  interfaces := #[]
  cf := none
  fields := #[]
  methods := #[]
  instanceTypes := #[]
  staticTypes := #[]
  resolved := #[]
  callSites := []
  init := .initialized
  statics := none
  mirror := none

def pool0 : Array CpInfo := pool [(5, u "<init>"), (0, u "()V"), (1, .class_ 10), (1, u "java/lang/Object")] 113

def k0c0 : Code := { maxStack := 0, maxLocals := 1, code := object_method_1_code, exceptionTable := #[], attributes := #[] }
def k0m0 : Method := { name := "<init>", desc := "()V", sig := { parameters := [], returnType := none }, accessFlags := 1, code := some k0c0 }
/-- java/lang/Object -/
def k0 : Class := { plain "java/lang/Object" none with
  accessFlags := 33
  interfaces := #[]
  cf := some (fileOf pool0 8 #[] #[{ accessFlags := 1, nameIndex := 5, descriptorIndex := 6, attributes := #[] }] 33 0 #[] #[])
  fields := #[]
  methods := #[k0m0]
  instanceTypes := #[]
  staticTypes := #[]
  resolved := Array.replicate 124 none
  statics := none }

def pool1 : Array CpInfo := pool [(2, .class_ 4), (1, u "java/lang/Object"), (0, u "<init>"), (0, u "()V"), (0, .class_ 8), (0, u "com/example/holdfast/holdfast/cli/ProcFiles$Stat"), (0, .methodref 7 10), (0, .nameAndType 5 11), (0, u "(CJ)V"), (0, .methodref 7 13), (0, .nameAndType 14 15), (0, u "ended"), (0, u "()Z"), (0, .methodref 7 17), (0, .nameAndType 18 19), (0, u "state"), (0, u "()C"), (0, .methodref 7 21), (0, .nameAndType 22 23), (0, u "session"), (0, u "()J"), (0, .class_ 25), (0, u "com/example/holdfast/holdfast/cli/StatEndedPinLaw"), (2, u "law"), (0, u "(IJ)Z")] 7

def k1m0 : Method := { name := "<init>", desc := "()V", sig := { parameters := [], returnType := none }, accessFlags := 2, code := none }
def k1c1 : Code := { maxStack := 5, maxLocals := 6, code := code, exceptionTable := #[], attributes := #[] }
def k1m1 : Method := { name := "law", desc := "(IJ)Z", sig := { parameters := [.int, .long], returnType := some .boolean }, accessFlags := 9, code := some k1c1 }
/-- com/example/holdfast/holdfast/cli/StatEndedPinLaw -/
def k1 : Class := { plain "com/example/holdfast/holdfast/cli/StatEndedPinLaw" (some 0) with
  accessFlags := 49
  interfaces := #[]
  cf := some (fileOf pool1 24 #[] #[{ accessFlags := 2, nameIndex := 5, descriptorIndex := 6, attributes := #[] }, { accessFlags := 9, nameIndex := 28, descriptorIndex := 29, attributes := #[] }] 49 2 #[] #[])
  fields := #[]
  methods := #[k1m0, k1m1]
  instanceTypes := #[]
  staticTypes := #[]
  resolved := Array.replicate 37 none
  statics := none }

def pool2 : Array CpInfo := pool [(1, .methodref 2 3), (0, .class_ 4), (0, .nameAndType 5 6), (0, u "java/lang/Object"), (0, u "<init>"), (0, u "()V"), (0, .class_ 8), (0, u "java/lang/Record")] 13

def k2c0 : Code := { maxStack := 1, maxLocals := 1, code := jdk_30_method_1_code, exceptionTable := #[], attributes := #[] }
def k2m0 : Method := { name := "<init>", desc := "()V", sig := { parameters := [], returnType := none }, accessFlags := 4, code := some k2c0 }
/-- java/lang/Record -/
def k2 : Class := { plain "java/lang/Record" (some 0) with
  accessFlags := 1057
  interfaces := #[]
  cf := some (fileOf pool2 7 #[] #[{ accessFlags := 4, nameIndex := 5, descriptorIndex := 6, attributes := #[] }] 1057 2 #[] #[])
  fields := #[]
  methods := #[k2m0]
  instanceTypes := #[]
  staticTypes := #[]
  resolved := Array.replicate 22 none
  statics := none }

def pool3 : Array CpInfo := pool [(1, .methodref 2 3), (0, .class_ 4), (0, .nameAndType 5 6), (0, u "java/lang/Record"), (0, u "<init>"), (0, u "()V"), (0, .fieldref 8 9), (0, .class_ 10), (0, .nameAndType 11 12), (0, u "com/example/holdfast/holdfast/cli/ProcFiles$Stat"), (0, u "state"), (0, u "C"), (0, .fieldref 8 14), (0, .nameAndType 15 16), (0, u "session"), (0, u "J"), (12, u "(CJ)V"), (3, u "ended"), (0, u "()Z"), (4, u "()C"), (0, u "()J"), (3, .class_ 45), (0, u "com/example/holdfast/holdfast/cli/ProcFiles")] 20

def k3c0 : Code := { maxStack := 3, maxLocals := 4, code := prog_4_method_1_code, exceptionTable := #[], attributes := #[] }
def k3m0 : Method := { name := "<init>", desc := "(CJ)V", sig := { parameters := [.char, .long], returnType := none }, accessFlags := 0, code := some k3c0 }
def k3c1 : Code := { maxStack := 2, maxLocals := 1, code := prog_4_method_2_code, exceptionTable := #[], attributes := #[] }
def k3m1 : Method := { name := "ended", desc := "()Z", sig := { parameters := [], returnType := some .boolean }, accessFlags := 0, code := some k3c1 }
def k3c2 : Code := { maxStack := 1, maxLocals := 1, code := prog_4_method_6_code, exceptionTable := #[], attributes := #[] }
def k3m2 : Method := { name := "state", desc := "()C", sig := { parameters := [], returnType := some .char }, accessFlags := 1, code := some k3c2 }
def k3c3 : Code := { maxStack := 2, maxLocals := 1, code := prog_4_method_7_code, exceptionTable := #[], attributes := #[] }
def k3m3 : Method := { name := "session", desc := "()J", sig := { parameters := [], returnType := some .long }, accessFlags := 1, code := some k3c3 }
/-- com/example/holdfast/holdfast/cli/ProcFiles$Stat -/
def k3 : Class := { plain "com/example/holdfast/holdfast/cli/ProcFiles$Stat" (some 2) with
  accessFlags := 48
  interfaces := #[]
  cf := some (fileOf pool3 8 #[.nestHost 44] #[{ accessFlags := 0, nameIndex := 5, descriptorIndex := 29, attributes := #[] }, { accessFlags := 0, nameIndex := 33, descriptorIndex := 34, attributes := #[] }, { accessFlags := 1, nameIndex := 11, descriptorIndex := 39, attributes := #[] }, { accessFlags := 1, nameIndex := 15, descriptorIndex := 40, attributes := #[] }] 48 2 #[] #[{ accessFlags := 18, nameIndex := 11, descriptorIndex := 12, attributes := #[] }, { accessFlags := 18, nameIndex := 15, descriptorIndex := 16, attributes := #[] }])
  fields := #[{ name := "state", type := .char, accessFlags := 18, slot := 0, constantValue := 0 }, { name := "session", type := .long, accessFlags := 18, slot := 1, constantValue := 0 }]
  methods := #[k3m0, k3m1, k3m2, k3m3]
  instanceTypes := #[.char, .long]
  staticTypes := #[]
  resolved := Array.replicate 66 none
  statics := none }

def pool4 : Array CpInfo := pool [(1, u "java/lang/Cloneable"), (0, .class_ 1), (0, u "java/lang/Object"), (0, .class_ 3)] 3

/-- java/lang/Cloneable -/
def k4 : Class := { plain "java/lang/Cloneable" (some 0) with
  accessFlags := 1537
  interfaces := #[]
  cf := some (fileOf pool4 2 #[] #[] 1537 4 #[] #[])
  fields := #[]
  methods := #[]
  instanceTypes := #[]
  staticTypes := #[]
  resolved := Array.replicate 8 none
  statics := none }

def pool5 : Array CpInfo := pool [(1, u "java/io/Serializable"), (0, .class_ 1), (0, u "java/lang/Object"), (0, .class_ 3)] 3

/-- java/io/Serializable -/
def k5 : Class := { plain "java/io/Serializable" (some 0) with
  accessFlags := 1537
  interfaces := #[]
  cf := some (fileOf pool5 2 #[] #[] 1537 4 #[] #[])
  fields := #[]
  methods := #[]
  instanceTypes := #[]
  staticTypes := #[]
  resolved := Array.replicate 8 none
  statics := none }

/-- the primitive byte -/
def k6 : Class := { plain "byte" none with kind := .primitive 'B', accessFlags := 0x411 }
/-- [B -/
def k7 : Class := { plain "[B" (some 0) with kind := .array 6 .byte, interfaces := #[4, 5], accessFlags := 1041 }

/-- the primitive int -/
def k8 : Class := { plain "int" none with kind := .primitive 'I', accessFlags := 0x411 }
/-- [I -/
def k9 : Class := { plain "[I" (some 0) with kind := .array 8 .int, interfaces := #[4, 5], accessFlags := 1041 }

def heap : Heap := #[]
def classes : Array Class := #[k0, k1, k2, k3, k4, k5, k6, k7, k8, k9]
def interned : List (Array UInt16 × Addr) := []
def slotsUsed : Nat := 0
def theMethod : MethodId := ⟨1, 1⟩
def args0 : Array Value := #[.int 0, .long 2]
def aboutOver (below : List Frame) : State where
  vm := { classes := classes, interned := interned.toArray }
  heap := heap
  slotsUsed := slotsUsed
  threads := #[{ frames := .invoking theMethod args0 :: below }]
def below0 : List Frame := [.native { method := ⟨0, 0⟩, args := #[] }]
def about1 : State := aboutOver below0
def p0 : Program := .bare "" "" ""
def e0 : Env := launch0.env 0 0 0
theorem w_frames : about1.frames = Frame.invoking theMethod args0 :: below0 := rfl
set_option maxRecDepth 65536 in
theorem w_args : argsFit about1.vm theMethod args0 = true := by decide +kernel
set_option maxRecDepth 65536 in
theorem w_heap : heapFits about1 = true := by decide +kernel
set_option maxRecDepth 65536 in
theorem w_runnable : about1.curStatus? = some .runnable := by decide +kernel
set_option maxRecDepth 65536 in
theorem w_alone : about1.alone = true := by decide +kernel
set_option maxRecDepth 65536 in
theorem w_named : about1.methodNamed? x = some theMethod := by decide +kernel
set_option maxRecDepth 65536 in
theorem w_hears : about1.hears theMethod below0 = true := by decide +kernel
set_option maxRecDepth 65536 in
theorem w_ripe : about1.ripe theMethod args0 below0 = true := by decide +kernel
theorem w_running : about1.status = .running := rfl
set_option maxRecDepth 65536 in
theorem w_room : about1.hasRoom e0.platform room_1 = true :=
  launch0.hasRoom_least _ room_1 (by decide +kernel) (by decide +kernel) (by decide +kernel) (by decide +kernel) (by decide +kernel) (by decide +kernel)
theorem allAtoms_all (ts : List Jvm.Cond) (a : Array Jvm.Value) (st : Jvm.State) : (allAtoms ts).before a st = ts.all (fun c => c.before a st) := by
  induction ts with
  | nil => rfl
  | cons c t ih =>
    show (Jvm.Cond.and c (allAtoms t)).before a st = _
    rw [Jvm.Cond.before_and, ih, List.all_cons]
def words1 : List Jvm.Cond := Jvm.Cond.code x code maxLocals ret :: tables_1
/-- a 'code' word, met by the world's own term for the bytes: nothing is compared byte by byte -/
theorem code_word {y : MethodName} {bytes : ByteArray} {mx : Nat} {rt : Option FieldType} {a : Array Value} {s : State} {m : MethodId} {meth : Method} {c : Code} (h1 : s.methodNamed? y = some m) (h2 : s.vm.method? m = some meth) (h3 : meth.code = some c) (h4 : c.code = bytes)
    (h5 : (c.maxLocals == mx && c.exceptionTable.isEmpty && decide (c.maxStack ≤ mostOperands) && decide (meth.sig.returnType = rt) && !meth.locks && decide (parseMethodDescriptor y.desc = some meth.sig)) = true) : (Jvm.Cond.code y bytes mx rt).before a s = true := by
  simp only [Bool.and_eq_true, beq_iff_eq, Bool.not_eq_true', decide_eq_true_eq] at h5
  obtain ⟨⟨⟨⟨⟨g1, g2⟩, g3⟩, g4⟩, g5⟩, g6⟩ := h5
  simp [Cond.before, Cond.holds, Cond.value, h1, h2, h3, h4, g1, g2, g3, g4, g5, g6]
def isCode : Jvm.Cond → Bool
  | .code _ _ _ _ => true
  | _ => false
theorem all_split {L : List Jvm.Cond} {P : Jvm.Cond → Bool} (h1 : L.all (fun c => isCode c || P c) = true) (h2 : ∀ c ∈ L.filter isCode, P c = true) : L.all P = true := by
  refine List.all_eq_true.mpr fun c hc => ?_
  have h := List.all_eq_true.mp h1 c hc
  rcases Bool.eq_false_or_eq_true (isCode c) with hi | hi
  · exact h2 c (List.mem_filter.mpr ⟨hc, hi⟩)
  · simpa [hi] using h
set_option maxRecDepth 65536 in
theorem w_c0 : (Jvm.Cond.code x code maxLocals ret).before args0 about1 = true := code_word (m := ⟨1, 1⟩) (meth := k1m1) (c := k1c1) (by decide +kernel) rfl rfl rfl (by decide +kernel)
set_option maxRecDepth 65536 in
theorem w_c1 : (Jvm.Cond.code ({ cls := "com/example/holdfast/holdfast/cli/ProcFiles$Stat", name := "<init>", desc := "(CJ)V" } : Jvm.MethodName) prog_4_method_1_code (4 : Nat) (Option.none : Option Jvm.ClassFile.FieldType)).before args0 about1 = true := code_word (m := ⟨3, 0⟩) (meth := k3m0) (c := k3c0) (by decide +kernel) rfl rfl rfl (by decide +kernel)
set_option maxRecDepth 65536 in
theorem w_c2 : (Jvm.Cond.code ({ cls := "java/lang/Record", name := "<init>", desc := "()V" } : Jvm.MethodName) jdk_30_method_1_code (1 : Nat) (Option.none : Option Jvm.ClassFile.FieldType)).before args0 about1 = true := code_word (m := ⟨2, 0⟩) (meth := k2m0) (c := k2c0) (by decide +kernel) rfl rfl rfl (by decide +kernel)
set_option maxRecDepth 65536 in
theorem w_c3 : (Jvm.Cond.code ({ cls := "java/lang/Object", name := "<init>", desc := "()V" } : Jvm.MethodName) object_method_1_code (1 : Nat) (Option.none : Option Jvm.ClassFile.FieldType)).before args0 about1 = true := code_word (m := ⟨0, 0⟩) (meth := k0m0) (c := k0c0) (by decide +kernel) rfl rfl rfl (by decide +kernel)
set_option maxRecDepth 65536 in
theorem w_c4 : (Jvm.Cond.code ({ cls := "com/example/holdfast/holdfast/cli/ProcFiles$Stat", name := "ended", desc := "()Z" } : Jvm.MethodName) prog_4_method_2_code (1 : Nat) (Option.some Jvm.ClassFile.FieldType.boolean)).before args0 about1 = true := code_word (m := ⟨3, 1⟩) (meth := k3m1) (c := k3c1) (by decide +kernel) rfl rfl rfl (by decide +kernel)
set_option maxRecDepth 65536 in
theorem w_c5 : (Jvm.Cond.code ({ cls := "com/example/holdfast/holdfast/cli/ProcFiles$Stat", name := "state", desc := "()C" } : Jvm.MethodName) prog_4_method_6_code (1 : Nat) (Option.some Jvm.ClassFile.FieldType.char)).before args0 about1 = true := code_word (m := ⟨3, 2⟩) (meth := k3m2) (c := k3c2) (by decide +kernel) rfl rfl rfl (by decide +kernel)
set_option maxRecDepth 65536 in
theorem w_c6 : (Jvm.Cond.code ({ cls := "com/example/holdfast/holdfast/cli/ProcFiles$Stat", name := "session", desc := "()J" } : Jvm.MethodName) prog_4_method_7_code (1 : Nat) (Option.some Jvm.ClassFile.FieldType.long)).before args0 about1 = true := code_word (m := ⟨3, 3⟩) (meth := k3m3) (c := k3c3) (by decide +kernel) rfl rfl rfl (by decide +kernel)
def codes1 : List Jvm.Cond := [Jvm.Cond.code x code maxLocals ret, Jvm.Cond.code ({ cls := "com/example/holdfast/holdfast/cli/ProcFiles$Stat", name := "<init>", desc := "(CJ)V" } : Jvm.MethodName) prog_4_method_1_code (4 : Nat) (Option.none : Option Jvm.ClassFile.FieldType), Jvm.Cond.code ({ cls := "java/lang/Record", name := "<init>", desc := "()V" } : Jvm.MethodName) jdk_30_method_1_code (1 : Nat) (Option.none : Option Jvm.ClassFile.FieldType), Jvm.Cond.code ({ cls := "java/lang/Object", name := "<init>", desc := "()V" } : Jvm.MethodName) object_method_1_code (1 : Nat) (Option.none : Option Jvm.ClassFile.FieldType), Jvm.Cond.code ({ cls := "com/example/holdfast/holdfast/cli/ProcFiles$Stat", name := "ended", desc := "()Z" } : Jvm.MethodName) prog_4_method_2_code (1 : Nat) (Option.some Jvm.ClassFile.FieldType.boolean), Jvm.Cond.code ({ cls := "com/example/holdfast/holdfast/cli/ProcFiles$Stat", name := "state", desc := "()C" } : Jvm.MethodName) prog_4_method_6_code (1 : Nat) (Option.some Jvm.ClassFile.FieldType.char), Jvm.Cond.code ({ cls := "com/example/holdfast/holdfast/cli/ProcFiles$Stat", name := "session", desc := "()J" } : Jvm.MethodName) prog_4_method_7_code (1 : Nat) (Option.some Jvm.ClassFile.FieldType.long)]
set_option maxRecDepth 65536 in
theorem codes_eq : words1.filter isCode = codes1 := rfl
theorem w_codes : ∀ c ∈ words1.filter isCode, c.before args0 about1 = true := by
  rw [codes_eq]
  intro c hc
  simp only [codes1, List.mem_cons, List.not_mem_nil, or_false] at hc
  rcases hc with rfl | rfl | rfl | rfl | rfl | rfl | rfl
  · exact w_c0
  · exact w_c1
  · exact w_c2
  · exact w_c3
  · exact w_c4
  · exact w_c5
  · exact w_c6
set_option maxRecDepth 65536 in
theorem w_t1 : (words1.take 24).all (fun c => isCode c || c.before args0 about1) = true := by decide +kernel
set_option maxRecDepth 65536 in
theorem w_t2 : (words1.drop 24).all (fun c => isCode c || c.before args0 about1) = true := by decide +kernel
theorem w_tables : (allAtoms (Jvm.Cond.code x code maxLocals ret :: tables_1)).before args0 about1 = true := by
  rw [allAtoms_all]
  show words1.all (fun c => c.before args0 about1) = true
  refine all_split ?_ w_codes
  rw [← List.take_append_drop 24 words1, List.all_append, w_t1, w_t2]
  rfl
set_option maxRecDepth 65536 in
theorem w_case : (Jvm.Cond.and given_1 narrow_1).before args0 about1 = true := by decide +kernel
theorem w_applies : (headSpec (Jvm.Cond.code x code maxLocals ret :: tables_1) room_1).applies x e0.platform about1 = true :=
  (Spec.applies_iff w_frames).mpr ⟨w_running, w_runnable, w_alone, w_named, w_hears, w_ripe, w_room, w_tables⟩
theorem atStart : AtStart classFile x code maxLocals ret World_1 tables_1 room_1 Calls_1 rest_1 Pre_1 launch0 p0 e0 about1 theMethod args0 below0 :=
  ⟨lists_1, trivial, launch0.admits_env _ _ _, launch0.least_env, fairChoices_fair.cas, fairChoices_fair.clock, w_frames, w_args, w_heap, w_applies, trivial, trivial, w_case⟩
end start1
theorem witness_1 : WitnessClaimed_1 := ⟨start1.p0, start1.e0, start1.about1, start1.theMethod, start1.args0, start1.below0, start1.atStart⟩
end Jvm.Pilot.@@N@@
