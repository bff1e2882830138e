import JvmDerived
import JvmDerived.Pilot.@@N@@Statement
import JvmDerived.Pilot.@@N@@Code
set_option linter.unusedVariables false
set_option linter.unusedSimpArgs false
namespace Jvm.Pilot.@@N@@
open Jvm Jvm.ClassFile Sem Op Lib Jvm.Free Jvm.Stand Jvm.LawKit Jvm.RoadKit Bundle Jvm.Pilot.@@N@@.Jvm.D
section own_walk
variable {p : Program} {l : Launch} {e : Env} {R : Room} {s : State} {m : MethodId} {args : Array Value} {below : List Frame} {meth : Method} {c : Code} {T : State} {locs : List Loc} {cells slots : Nat} {Z : State} {h h' : Heap}
def own_Fin (p : Program) (e : Env) (below : List Frame) (P : Outcome → State → Prop) (g : State) : Prop :=
  ∃ s₂ o, Steps p.tables e below g s₂ ∧ s₂.status = .running ∧ Ended s₂ below o ∧ P o s₂
def own_P (Q : Option Value → Heap → List Loc → Prop) (s : State) (k n : Nat) (o : Outcome) (s₂ : State) : Prop :=
  ∃ v L, o = .returned v ∧ Q v s₂.heap L ∧ FrameEnd s o s₂ L k n
theorem own_via {P : Outcome → State → Prop} {g g' : State} (k : ∀ t, Steps p.tables e below g' t → Steps p.tables e below g t) (H : own_Fin p e below P g') : own_Fin p e below P g := by
  obtain ⟨s₂, o, a, b⟩ := H
  exact ⟨s₂, o, k _ a, b⟩
theorem own_ret {v : Option Value} {g : State} {Q : Option Value → Heap → List Loc → Prop} {k n : Nat} (X : Stand p l e R s m args below meth c T locs cells slots) (hlk : meth.locks = false) (hv : meth.sig.returnType = none → v = none)
    (hst : ∀ fs, (∀ (f : JFrame) (acts : List Action), f.method = m → f.locked = none → f.entered = [] → (doReturn e (T.setTop f) acts v).1 = T.setFrames fs) → Steps p.tables e below g (T.setFrames fs))
    (hQ : Q v T.heap locs) (hk : cells ≤ k) (hn : slots ≤ n) : own_Fin p e below (own_P Q s k n) g := by
  obtain ⟨fs, hr, hrun, hended, hW, hsame⟩ := X.leave (v := v) hv hlk
  exact ⟨_, _, hst fs hr, hrun, hended, _, _, rfl, hQ, ⟨_, rfl⟩, hW, hsame.mono hk hn⟩
theorem own_retW {w : Value} {t : FieldType} {i : Instr} {pc : Nat} {Ls : Array Slot} {rest : List Value} {Q : Option Value → Heap → List Loc → Prop} {k n : Nat} (X : Stand p l e R s m args below meth c T locs cells slots) (hx : p.tables.exec = Jvm.exec) (hlk : meth.locks = false) (hret : meth.sig.returnType = some t) (hnw : narrow t w = w)
    (hi : (i = .ireturn ∧ (t = .int ∨ t = .boolean ∨ t = .byte ∨ t = .char ∨ t = .short) ∧ ∃ z, w = .int z) ∨ (i = .lreturn ∧ t = .long ∧ ∃ z, w = .long z) ∨ (i = .dreturn ∧ t = .double ∧ ∃ z, w = .double z) ∨ (i = .freturn ∧ t = .float ∧ ∃ z, w = .float z) ∨ (i = .areturn ∧ t.isReference = true ∧ w.isRef = true))
    (hd : decode c.code pc = .ok (i, 1)) (hQ : Q (some w) T.heap locs) (hk : cells ≤ k) (hn : slots ≤ n) : own_Fin p e below (own_P Q s k n) (T.setTop (mkF m pc Ls (w :: rest))) :=
  own_ret X hlk (fun q => by rw [hret] at q; cases q) (fun fs hr => retOut X hx hret hnw hi hd hr) hQ hk hn
theorem own_retI {z : Int32} {pc : Nat} {Ls : Array Slot} {rest : List Value} {Q : Option Value → Heap → List Loc → Prop} {k n : Nat} (X : Stand p l e R s m args below meth c T locs cells slots) (hx : p.tables.exec = Jvm.exec) (hlk : meth.locks = false) (hret : meth.sig.returnType = some .int)
    (hd : decode c.code pc = .ok (.ireturn, 1)) (hQ : Q (some (.int z)) T.heap locs) (hk : cells ≤ k) (hn : slots ≤ n) : own_Fin p e below (own_P Q s k n) (T.setTop (mkF m pc Ls (.int z :: rest))) :=
  own_retW X hx hlk hret rfl (Or.inl ⟨rfl, Or.inl rfl, z, rfl⟩) hd hQ hk hn
theorem own_retJ {z : Int64} {pc : Nat} {Ls : Array Slot} {rest : List Value} {Q : Option Value → Heap → List Loc → Prop} {k n : Nat} (X : Stand p l e R s m args below meth c T locs cells slots) (hx : p.tables.exec = Jvm.exec) (hlk : meth.locks = false) (hret : meth.sig.returnType = some .long)
    (hd : decode c.code pc = .ok (.lreturn, 1)) (hQ : Q (some (.long z)) T.heap locs) (hk : cells ≤ k) (hn : slots ≤ n) : own_Fin p e below (own_P Q s k n) (T.setTop (mkF m pc Ls (.long z :: rest))) :=
  own_retW X hx hlk hret rfl (Or.inr (Or.inl ⟨rfl, rfl, z, rfl⟩)) hd hQ hk hn
theorem own_nref {t : FieldType} {w : Value} (hw : w.isRef = true) : narrow t w = w := by
  cases w <;> first | (cases t <;> rfl) | (cases hw)
theorem own_fitR {c : String} {w : Value} (hw : w.isRef = true) : fits (.object c) w = true := by
  cases w <;> first | rfl | (cases hw)
theorem own_retA {w : Value} {t : FieldType} {pc : Nat} {Ls : Array Slot} {rest : List Value} {Q : Option Value → Heap → List Loc → Prop} {k n : Nat} (X : Stand p l e R s m args below meth c T locs cells slots) (hx : p.tables.exec = Jvm.exec) (hlk : meth.locks = false) (hw : w.isRef = true) (hret : meth.sig.returnType = some t) (ht : t.isReference = true)
    (hd : decode c.code pc = .ok (.areturn, 1)) (hQ : Q (some w) T.heap locs) (hk : cells ≤ k) (hn : slots ≤ n) : own_Fin p e below (own_P Q s k n) (T.setTop (mkF m pc Ls (w :: rest))) :=
  own_retW X hx hlk hret (own_nref hw) (Or.inr (Or.inr (Or.inr (Or.inr ⟨rfl, ht, hw⟩)))) hd hQ hk hn
theorem own_retB {z : Int32} {t : FieldType} {pc : Nat} {Ls : Array Slot} {rest : List Value} {Q : Option Value → Heap → List Loc → Prop} {k n : Nat} (X : Stand p l e R s m args below meth c T locs cells slots) (hx : p.tables.exec = Jvm.exec) (hlk : meth.locks = false) (hret : meth.sig.returnType = some t) (ht : t = .boolean ∨ t = .byte ∨ t = .char ∨ t = .short)
    (hd : decode c.code pc = .ok (.ireturn, 1)) (hQ : Q (some (.int (nar t z))) T.heap locs) (hk : cells ≤ k) (hn : slots ≤ n) : own_Fin p e below (own_P Q s k n) (T.setTop (mkF m pc Ls (.int z :: rest))) :=
  own_ret X hlk (fun q => by rw [hret] at q; cases q) (fun fs hr => retN X hx hret ht hd hr) hQ hk hn
theorem own_retV {pc : Nat} {Ls : Array Slot} {Q : Option Value → Heap → List Loc → Prop} {k n : Nat} (X : Stand p l e R s m args below meth c T locs cells slots) (hx : p.tables.exec = Jvm.exec) (hlk : meth.locks = false) (hret : meth.sig.returnType = none)
    (hd : decode c.code pc = .ok (.return_, 1)) (hQ : Q none T.heap locs) (hk : cells ≤ k) (hn : slots ≤ n) : own_Fin p e below (own_P Q s k n) (T.setTop (mkF m pc Ls [])) :=
  own_ret X hlk (fun _ => rfl) (fun fs hr => X.returnOut hx hret hd hr) hQ hk hn
/-- an array: its kind and its members -/
def own_Ar (Z : State) (h : Heap) (a : Addr) (ty : FieldType) (L : List Value) : Prop := ∃ c : Cell, Arr Z h a c ty ∧ c.slots.toList = L
theorem own_Ar.ext {a : Addr} {ty : FieldType} {L : List Value} (F : own_Ar Z h a ty L) (E : Ext h h') : own_Ar Z h' a ty L := by obtain ⟨c, A, r⟩ := F; exact ⟨c, A.ext E, r⟩
theorem own_Ar.other {a b : Addr} {sl : Nat} {v : Value} {ty : FieldType} {L : List Value} (F : own_Ar Z h b ty L) (W : Wr h h' a sl v) (q : b ≠ a) : own_Ar Z h' b ty L := by obtain ⟨c, A, r⟩ := F; exact ⟨c, A.other W q, r⟩
theorem own_Ar.keep {a : Addr} {ws : List Addr} {ty : FieldType} {L : List Value} (F : own_Ar Z h a ty L) (K : Keep h h' ws) (q : a ∉ ws) : own_Ar Z h' a ty L := by obtain ⟨c, A, r⟩ := F; exact ⟨c, ⟨K.2.1 a c A.1 q, A.2⟩, r⟩
theorem own_Ar.lt {a : Addr} {ty : FieldType} {L : List Value} (F : own_Ar Z h a ty L) : a < h.size := by obtain ⟨c, A, r⟩ := F; exact A.lt
theorem own_Ar.set {a : Addr} {j : Nat} {v : Value} {ty : FieldType} {L : List Value} (F : own_Ar Z h a ty L) (W : Wr h h' a j v) : own_Ar Z h' a ty (L.set j v) := by
  obtain ⟨c, A, r⟩ := F
  refine ⟨_, A.same W, ?_⟩
  subst r
  simp [Cell.setSlot]
theorem own_in {c : Cell} {L : List Value} (r : c.slots.toList = L) {j : Int32} (h0 : ¬ j < 0) (hj : j.toNatClampNeg < L.length) : ¬ (j < 0 ∨ c.slots.size ≤ j.toNatClampNeg) := by
  subst r
  simp only [Array.length_toList] at hj
  intro q
  rcases q with q | q
  · exact h0 q
  · omega
theorem own_at {c : Cell} {L : List Value} (r : c.slots.toList = L) {j : Nat} {v : Value} (hv : L[j]? = some v) : c.slots[j]? = some v := by
  subst r; simpa using hv
theorem own_inv {c : Cell} {L : List Value} (r : c.slots.toList = L) {j : Int32} {v : Value} (h0 : ¬ j < 0) (hv : L[j.toNatClampNeg]? = some v) : ¬ (j < 0 ∨ c.slots.size ≤ j.toNatClampNeg) :=
  own_in r h0 (List.getElem?_eq_some_iff.mp hv).1
theorem own_newP {a0 : Array Value} (X : Stand p l e R s m args below meth c T locs cells slots) (hx : p.tables.exec = Jvm.exec) (hZ : Z.Warmed39 s.vm) {aty : ArrayType} (w : (Cond.arrayClass (newarray.typeOf aty)).before a0 Z = true) (eT : T.heap = h) {g : JFrame} (hg : g.method = m) (hd : decode c.code g.pc = .ok (.newarray aty, 2)) {n : Int32} {rest : List Value} (hs : g.stack = .int n :: rest)
    (hn : ¬ n < 0) {cap : Nat} (hcap : n.toNatClampNeg ≤ cap) (hb : cap * 8 ≤ 536870912) (hc : cells + 1 ≤ R.cells) (hl : slots + cap ≤ R.slots) :
    ∃ T' h', Stand p l e R s m args below meth c T' locs (cells + 1) (slots + cap) ∧ T'.heap = h' ∧ Ext h h' ∧ own_Ar Z h' h.size (newarray.typeOf aty) (List.replicate n.toNatClampNeg (defaultValue (newarray.typeOf aty))) ∧
      ∀ target, Steps p.tables e below (T'.setTop { g with pc := g.pc + 2, stack := .ref h.size :: rest }) target → Steps p.tables e below (T.setTop g) target := by
  obtain ⟨T', h', cA, X', e', E', A', st⟩ := newP X hx hZ w eT hg hd hs hn hcap hb hc hl
  exact ⟨T', h', X', e', E', ⟨_, A', by simp [newA]⟩, st⟩
theorem own_stJ (X : Stand p l e R s m args below meth c T locs cells slots) (hx : p.tables.exec = Jvm.exec) (hZ : Z.Warmed39 s.vm) (eT : T.heap = h) {a : Addr} {L : List Value} (A : own_Ar Z h a .long L) {j : Int32} {x : Int64} (h0 : ¬ j < 0) (hj : j.toNatClampNeg < L.length) {g : JFrame} (hg : g.method = m) {rest : List Value} (hs : g.stack = .long x :: .int j :: .ref a :: rest) (hd : decode c.code g.pc = .ok (.lastore, 1)) :
    ∃ T' h', Stand p l e R s m args below meth c T' (locs ++ [⟨a, j.toNatClampNeg⟩]) cells slots ∧ T'.heap = h' ∧ Wr h h' a j.toNatClampNeg (.long x) ∧ own_Ar Z h' a .long (L.set j.toNatClampNeg (.long x)) ∧ ∀ target, Steps p.tables e below (T'.setTop { g with pc := g.pc + 1, stack := rest }) target → Steps p.tables e below (T.setTop g) target := by
  obtain ⟨cl, A', r⟩ := id A
  obtain ⟨T', h', X', e', W', st⟩ := stJ X hx hZ eT A' (own_in r h0 hj) hg hs hd
  exact ⟨T', h', X', e', W', A.set W', st⟩
theorem own_stI (X : Stand p l e R s m args below meth c T locs cells slots) (hx : p.tables.exec = Jvm.exec) (hZ : Z.Warmed39 s.vm) (eT : T.heap = h) {a : Addr} {L : List Value} (A : own_Ar Z h a .int L) {j : Int32} {x : Int32} (h0 : ¬ j < 0) (hj : j.toNatClampNeg < L.length) {g : JFrame} (hg : g.method = m) {rest : List Value} (hs : g.stack = .int x :: .int j :: .ref a :: rest) (hd : decode c.code g.pc = .ok (.iastore, 1)) :
    ∃ T' h', Stand p l e R s m args below meth c T' (locs ++ [⟨a, j.toNatClampNeg⟩]) cells slots ∧ T'.heap = h' ∧ Wr h h' a j.toNatClampNeg (.int x) ∧ own_Ar Z h' a .int (L.set j.toNatClampNeg (.int x)) ∧ ∀ target, Steps p.tables e below (T'.setTop { g with pc := g.pc + 1, stack := rest }) target → Steps p.tables e below (T.setTop g) target := by
  obtain ⟨cl, A', r⟩ := id A
  obtain ⟨T', h', X', e', W', st⟩ := stI X hx hZ eT A' (own_in r h0 hj) hg hs hd
  exact ⟨T', h', X', e', W', A.set W', st⟩
theorem own_stB (X : Stand p l e R s m args below meth c T locs cells slots) (hx : p.tables.exec = Jvm.exec) (hZ : Z.Warmed39 s.vm) (eT : T.heap = h) {a : Addr} {L : List Value} (A : own_Ar Z h a .byte L) {j : Int32} {x : Int32} (h0 : ¬ j < 0) (hj : j.toNatClampNeg < L.length) {g : JFrame} (hg : g.method = m) {rest : List Value} (hs : g.stack = .int x :: .int j :: .ref a :: rest) (hd : decode c.code g.pc = .ok (.bastore, 1)) :
    ∃ T' h', Stand p l e R s m args below meth c T' (locs ++ [⟨a, j.toNatClampNeg⟩]) cells slots ∧ T'.heap = h' ∧ Wr h h' a j.toNatClampNeg (.int (nar .byte x)) ∧ own_Ar Z h' a .byte (L.set j.toNatClampNeg (.int (nar .byte x))) ∧ ∀ target, Steps p.tables e below (T'.setTop { g with pc := g.pc + 1, stack := rest }) target → Steps p.tables e below (T.setTop g) target := by
  obtain ⟨cl, A', r⟩ := id A
  obtain ⟨T', h', X', e', W', st⟩ := stB X hx hZ eT A' (own_in r h0 hj) hg hs hd
  exact ⟨T', h', X', e', W', A.set W', st⟩
theorem own_stZ (X : Stand p l e R s m args below meth c T locs cells slots) (hx : p.tables.exec = Jvm.exec) (hZ : Z.Warmed39 s.vm) (eT : T.heap = h) {a : Addr} {L : List Value} (A : own_Ar Z h a .boolean L) {j : Int32} {x : Int32} (h0 : ¬ j < 0) (hj : j.toNatClampNeg < L.length) {g : JFrame} (hg : g.method = m) {rest : List Value} (hs : g.stack = .int x :: .int j :: .ref a :: rest) (hd : decode c.code g.pc = .ok (.bastore, 1)) :
    ∃ T' h', Stand p l e R s m args below meth c T' (locs ++ [⟨a, j.toNatClampNeg⟩]) cells slots ∧ T'.heap = h' ∧ Wr h h' a j.toNatClampNeg (.int (nar .boolean x)) ∧ own_Ar Z h' a .boolean (L.set j.toNatClampNeg (.int (nar .boolean x))) ∧ ∀ target, Steps p.tables e below (T'.setTop { g with pc := g.pc + 1, stack := rest }) target → Steps p.tables e below (T.setTop g) target := by
  obtain ⟨cl, A', r⟩ := id A
  obtain ⟨T', h', X', e', W', st⟩ := stZ X hx hZ eT A' (own_in r h0 hj) hg hs hd
  exact ⟨T', h', X', e', W', A.set W', st⟩
theorem own_stC (X : Stand p l e R s m args below meth c T locs cells slots) (hx : p.tables.exec = Jvm.exec) (hZ : Z.Warmed39 s.vm) (eT : T.heap = h) {a : Addr} {L : List Value} (A : own_Ar Z h a .char L) {j : Int32} {x : Int32} (h0 : ¬ j < 0) (hj : j.toNatClampNeg < L.length) {g : JFrame} (hg : g.method = m) {rest : List Value} (hs : g.stack = .int x :: .int j :: .ref a :: rest) (hd : decode c.code g.pc = .ok (.castore, 1)) :
    ∃ T' h', Stand p l e R s m args below meth c T' (locs ++ [⟨a, j.toNatClampNeg⟩]) cells slots ∧ T'.heap = h' ∧ Wr h h' a j.toNatClampNeg (.int (nar .char x)) ∧ own_Ar Z h' a .char (L.set j.toNatClampNeg (.int (nar .char x))) ∧ ∀ target, Steps p.tables e below (T'.setTop { g with pc := g.pc + 1, stack := rest }) target → Steps p.tables e below (T.setTop g) target := by
  obtain ⟨cl, A', r⟩ := id A
  obtain ⟨T', h', X', e', W', st⟩ := stC X hx hZ eT A' (own_in r h0 hj) hg hs hd
  exact ⟨T', h', X', e', W', A.set W', st⟩
theorem own_ldJ (X : Stand p l e R s m args below meth c T locs cells slots) (hx : p.tables.exec = Jvm.exec) (hZ : Z.Warmed39 s.vm) (eT : T.heap = h) {a : Addr} {L : List Value} (A : own_Ar Z h a .long L) {j : Int32} {v : Value} (h0 : ¬ j < 0) (hv : L[j.toNatClampNeg]? = some v) {g : JFrame} (hg : g.method = m) {rest : List Value} (hs : g.stack = .int j :: .ref a :: rest) (hd : decode c.code g.pc = .ok (.laload, 1)) (target : State)
    (hr : Steps p.tables e below (T.setTop { g with pc := g.pc + 1, stack := v :: rest }) target) : Steps p.tables e below (T.setTop g) target := by
  obtain ⟨cl, A', r⟩ := A
  exact X.laload hx (by rw [eT]; exact A'.1) (State.isArrayOf_alike hZ.alike A'.2.1) A'.2.2 (own_inv r h0 hv) (own_at r hv) hg hs hd target hr
theorem own_ldI (X : Stand p l e R s m args below meth c T locs cells slots) (hx : p.tables.exec = Jvm.exec) (hZ : Z.Warmed39 s.vm) (eT : T.heap = h) {a : Addr} {L : List Value} (A : own_Ar Z h a .int L) {j : Int32} {v : Value} (h0 : ¬ j < 0) (hv : L[j.toNatClampNeg]? = some v) {g : JFrame} (hg : g.method = m) {rest : List Value} (hs : g.stack = .int j :: .ref a :: rest) (hd : decode c.code g.pc = .ok (.iaload, 1)) (target : State)
    (hr : Steps p.tables e below (T.setTop { g with pc := g.pc + 1, stack := v :: rest }) target) : Steps p.tables e below (T.setTop g) target := by
  obtain ⟨cl, A', r⟩ := A
  exact X.iaload hx (by rw [eT]; exact A'.1) (State.isArrayOf_alike hZ.alike A'.2.1) A'.2.2 (own_inv r h0 hv) (own_at r hv) hg hs hd target hr
theorem own_ldB (X : Stand p l e R s m args below meth c T locs cells slots) (hx : p.tables.exec = Jvm.exec) (hZ : Z.Warmed39 s.vm) (eT : T.heap = h) {a : Addr} {L : List Value} (A : own_Ar Z h a .byte L) {j : Int32} {v : Value} (h0 : ¬ j < 0) (hv : L[j.toNatClampNeg]? = some v) {g : JFrame} (hg : g.method = m) {rest : List Value} (hs : g.stack = .int j :: .ref a :: rest) (hd : decode c.code g.pc = .ok (.baload, 1)) (target : State)
    (hr : Steps p.tables e below (T.setTop { g with pc := g.pc + 1, stack := v :: rest }) target) : Steps p.tables e below (T.setTop g) target := by
  obtain ⟨cl, A', r⟩ := A
  exact X.baloadBytes hx (by rw [eT]; exact A'.1) (State.isArrayOf_alike hZ.alike A'.2.1) A'.2.2 (own_inv r h0 hv) (own_at r hv) hg hs hd target hr
theorem own_ldZ (X : Stand p l e R s m args below meth c T locs cells slots) (hx : p.tables.exec = Jvm.exec) (hZ : Z.Warmed39 s.vm) (eT : T.heap = h) {a : Addr} {L : List Value} (A : own_Ar Z h a .boolean L) {j : Int32} {v : Value} (h0 : ¬ j < 0) (hv : L[j.toNatClampNeg]? = some v) {g : JFrame} (hg : g.method = m) {rest : List Value} (hs : g.stack = .int j :: .ref a :: rest) (hd : decode c.code g.pc = .ok (.baload, 1)) (target : State)
    (hr : Steps p.tables e below (T.setTop { g with pc := g.pc + 1, stack := v :: rest }) target) : Steps p.tables e below (T.setTop g) target := by
  obtain ⟨cl, A', r⟩ := A
  exact X.baloadBooleans hx (by rw [eT]; exact A'.1) (State.isArrayOf_alike hZ.alike A'.2.1) A'.2.2 (own_inv r h0 hv) (own_at r hv) hg hs hd target hr
theorem own_ldC (X : Stand p l e R s m args below meth c T locs cells slots) (hx : p.tables.exec = Jvm.exec) (hZ : Z.Warmed39 s.vm) (eT : T.heap = h) {a : Addr} {L : List Value} (A : own_Ar Z h a .char L) {j : Int32} {v : Value} (h0 : ¬ j < 0) (hv : L[j.toNatClampNeg]? = some v) {g : JFrame} (hg : g.method = m) {rest : List Value} (hs : g.stack = .int j :: .ref a :: rest) (hd : decode c.code g.pc = .ok (.caload, 1)) (target : State)
    (hr : Steps p.tables e below (T.setTop { g with pc := g.pc + 1, stack := v :: rest }) target) : Steps p.tables e below (T.setTop g) target := by
  obtain ⟨cl, A', r⟩ := A
  exact X.caload hx (by rw [eT]; exact A'.1) (State.isArrayOf_alike hZ.alike A'.2.1) A'.2.2 (own_inv r h0 hv) (own_at r hv) hg hs hd target hr
theorem own_len (X : Stand p l e R s m args below meth c T locs cells slots) (hx : p.tables.exec = Jvm.exec) (hZ : Z.Warmed39 s.vm) (eT : T.heap = h) {a : Addr} {ty : FieldType} {L : List Value} (A : own_Ar Z h a ty L) {n : Int32} (hn : L.length.toInt32 = n) {g : JFrame} (hg : g.method = m) {rest : List Value} (hs : g.stack = .ref a :: rest) (hd : decode c.code g.pc = .ok (.arraylength, 1)) (target : State)
    (hr : Steps p.tables e below (T.setTop { g with pc := g.pc + 1, stack := .int n :: rest }) target) : Steps p.tables e below (T.setTop g) target := by
  obtain ⟨cl, A', r⟩ := A
  refine X.arraylength hx (by rw [eT]; exact A'.1) (State.isArrayOf_alike hZ.alike A'.2.1) hg hs hd target ?_
  have q : cl.slots.size.toInt32 = n := by rw [← hn, ← r]; simp
  rw [q]; exact hr
theorem own_sta_keep {C n d : String} {w : Value} {ws : List Addr} (F : Sta Z h C n d w) (K : Keep h h' ws) (q : ∀ (a : Addr) (c : Cell), h[a]? = some c → c.vm.isStatics = true → a ∉ ws) : Sta Z h' C n d w := by
  obtain ⟨cf, i, k, f, st, cell, h1, h2, h3, h4, h5, h6, h7⟩ := F
  exact ⟨cf, i, k, f, st, cell, h1, h2, h3, h4, K.2.1 st cell h5 (q st cell h5 h6), h6, h7⟩
theorem own_nr {a b : Addr} (q : ¬ Value.ref a = Value.ref b) : ¬ a = b := fun r => q (congrArg Value.ref r)
end own_walk
section own_walkS
variable {p : Program} {l : Launch} {e : Env} {R : Room} {s : State} {vm0 : Vm} {kS : Nat} {m : MethodId} {args : Array Value} {below : List Frame} {meth : Method} {c : Code} {T : State} {locs : List Loc} {cells slots : Nat} {Z : State} {h h' : Heap}
def own_PW (Q : Option Value → Heap → List Loc → Prop) (s : State) (k n : Nat) (o : Outcome) (s₂ : State) : Prop :=
  ∃ v L, o = .returned v ∧ Q v s₂.heap L ∧ ReturnedEndW s o s₂ L k n
theorem own_retS {v : Option Value} {g : State} {Q : Option Value → Heap → List Loc → Prop} {k n : Nat} (X : Stand p l e R (s.setVm vm0) m args below meth c T locs cells slots) (hS : s.Since vm0 kS) (hk : kS ≤ T.heap.size) (hlk : meth.locks = false) (hv : meth.sig.returnType = none → v = none)
    (hst : ∀ fs, (∀ (f : JFrame) (acts : List Action), f.method = m → f.locked = none → f.entered = [] → (doReturn e (T.setTop f) acts v).1 = T.setFrames fs) → Steps p.tables e below g (T.setFrames fs))
    (hQ : Q v T.heap locs) (hc : cells ≤ k) (hn : slots ≤ n) : own_Fin p e below (own_PW Q s k n) g := by
  obtain ⟨fs, hr, hrun, hended, hE⟩ := X.leaveW hS hk (v := v) hv hlk
  exact ⟨_, _, hst fs hr, hrun, hended, _, _, rfl, hQ, hE.1, hE.2.1, hE.2.2.1, hE.2.2.2.mono hc hn⟩
theorem own_retWS {w : Value} {t : FieldType} {i : Instr} {pc : Nat} {Ls : Array Slot} {rest : List Value} {Q : Option Value → Heap → List Loc → Prop} {k n : Nat} (X : Stand p l e R (s.setVm vm0) m args below meth c T locs cells slots) (hS : s.Since vm0 kS) (hkS : kS ≤ T.heap.size) (hx : p.tables.exec = Jvm.exec) (hlk : meth.locks = false) (hret : meth.sig.returnType = some t) (hnw : narrow t w = w)
    (hi : (i = .ireturn ∧ (t = .int ∨ t = .boolean ∨ t = .byte ∨ t = .char ∨ t = .short) ∧ ∃ z, w = .int z) ∨ (i = .lreturn ∧ t = .long ∧ ∃ z, w = .long z) ∨ (i = .dreturn ∧ t = .double ∧ ∃ z, w = .double z) ∨ (i = .freturn ∧ t = .float ∧ ∃ z, w = .float z) ∨ (i = .areturn ∧ t.isReference = true ∧ w.isRef = true))
    (hd : decode c.code pc = .ok (i, 1)) (hQ : Q (some w) T.heap locs) (hk : cells ≤ k) (hn : slots ≤ n) : own_Fin p e below (own_PW Q s k n) (T.setTop (mkF m pc Ls (w :: rest))) :=
  own_retS X hS hkS hlk (fun q => by rw [hret] at q; cases q) (fun fs hr => retOut X hx hret hnw hi hd hr) hQ hk hn
theorem own_retIS {z : Int32} {pc : Nat} {Ls : Array Slot} {rest : List Value} {Q : Option Value → Heap → List Loc → Prop} {k n : Nat} (X : Stand p l e R (s.setVm vm0) m args below meth c T locs cells slots) (hS : s.Since vm0 kS) (hkS : kS ≤ T.heap.size) (hx : p.tables.exec = Jvm.exec) (hlk : meth.locks = false) (hret : meth.sig.returnType = some .int)
    (hd : decode c.code pc = .ok (.ireturn, 1)) (hQ : Q (some (.int z)) T.heap locs) (hk : cells ≤ k) (hn : slots ≤ n) : own_Fin p e below (own_PW Q s k n) (T.setTop (mkF m pc Ls (.int z :: rest))) :=
  own_retWS X hS hkS hx hlk hret rfl (Or.inl ⟨rfl, Or.inl rfl, z, rfl⟩) hd hQ hk hn
theorem own_retJS {z : Int64} {pc : Nat} {Ls : Array Slot} {rest : List Value} {Q : Option Value → Heap → List Loc → Prop} {k n : Nat} (X : Stand p l e R (s.setVm vm0) m args below meth c T locs cells slots) (hS : s.Since vm0 kS) (hkS : kS ≤ T.heap.size) (hx : p.tables.exec = Jvm.exec) (hlk : meth.locks = false) (hret : meth.sig.returnType = some .long)
    (hd : decode c.code pc = .ok (.lreturn, 1)) (hQ : Q (some (.long z)) T.heap locs) (hk : cells ≤ k) (hn : slots ≤ n) : own_Fin p e below (own_PW Q s k n) (T.setTop (mkF m pc Ls (.long z :: rest))) :=
  own_retWS X hS hkS hx hlk hret rfl (Or.inr (Or.inl ⟨rfl, rfl, z, rfl⟩)) hd hQ hk hn
theorem own_retAS {w : Value} {t : FieldType} {pc : Nat} {Ls : Array Slot} {rest : List Value} {Q : Option Value → Heap → List Loc → Prop} {k n : Nat} (X : Stand p l e R (s.setVm vm0) m args below meth c T locs cells slots) (hS : s.Since vm0 kS) (hkS : kS ≤ T.heap.size) (hx : p.tables.exec = Jvm.exec) (hlk : meth.locks = false) (hw : w.isRef = true) (hret : meth.sig.returnType = some t) (ht : t.isReference = true)
    (hd : decode c.code pc = .ok (.areturn, 1)) (hQ : Q (some w) T.heap locs) (hk : cells ≤ k) (hn : slots ≤ n) : own_Fin p e below (own_PW Q s k n) (T.setTop (mkF m pc Ls (w :: rest))) :=
  own_retWS X hS hkS hx hlk hret (own_nref hw) (Or.inr (Or.inr (Or.inr (Or.inr ⟨rfl, ht, hw⟩)))) hd hQ hk hn
theorem own_retBS {z : Int32} {t : FieldType} {pc : Nat} {Ls : Array Slot} {rest : List Value} {Q : Option Value → Heap → List Loc → Prop} {k n : Nat} (X : Stand p l e R (s.setVm vm0) m args below meth c T locs cells slots) (hS : s.Since vm0 kS) (hkS : kS ≤ T.heap.size) (hx : p.tables.exec = Jvm.exec) (hlk : meth.locks = false) (hret : meth.sig.returnType = some t) (ht : t = .boolean ∨ t = .byte ∨ t = .char ∨ t = .short)
    (hd : decode c.code pc = .ok (.ireturn, 1)) (hQ : Q (some (.int (nar t z))) T.heap locs) (hk : cells ≤ k) (hn : slots ≤ n) : own_Fin p e below (own_PW Q s k n) (T.setTop (mkF m pc Ls (.int z :: rest))) :=
  own_retS X hS hkS hlk (fun q => by rw [hret] at q; cases q) (fun fs hr => retN X hx hret ht hd hr) hQ hk hn
theorem own_retVS {pc : Nat} {Ls : Array Slot} {Q : Option Value → Heap → List Loc → Prop} {k n : Nat} (X : Stand p l e R (s.setVm vm0) m args below meth c T locs cells slots) (hS : s.Since vm0 kS) (hkS : kS ≤ T.heap.size) (hx : p.tables.exec = Jvm.exec) (hlk : meth.locks = false) (hret : meth.sig.returnType = none)
    (hd : decode c.code pc = .ok (.return_, 1)) (hQ : Q none T.heap locs) (hk : cells ≤ k) (hn : slots ≤ n) : own_Fin p e below (own_PW Q s k n) (T.setTop (mkF m pc Ls [])) :=
  own_retS X hS hkS hlk (fun _ => rfl) (fun fs hr => X.returnOut hx hret hd hr) hQ hk hn
end own_walkS
theorem own_ltlen {p : Int32} {n : Nat} (h0 : ¬ p < 0) (hn : n < 2147483648) : p < n.toInt32 ↔ p.toNatClampNeg < n := by
  rw [Int32.lt_iff_toInt_lt, len_toInt (by omega)]
  rw [Int32.lt_iff_toInt_lt] at h0
  have z : (0 : Int32).toInt = 0 := rfl
  have e : (p.toNatClampNeg : Int) = p.toInt := by rw [Int32.toNatClampNeg]; omega
  omega
def own_z (n i w : Int32) : Int32 := if i < n then w &&& 255 else 0
def own_acc (a : Int64) (z : Int32) : Int64 := (a <<< ((8 : Int32) &&& 0x3f).toInt64) ||| z.toInt64
def own_lead (n w0 w1 w2 w3 w4 w5 w6 w7 : Int32) : Int64 := own_acc (own_acc (own_acc (own_acc (own_acc (own_acc (own_acc (own_acc 0 (own_z n 0 w0)) (own_z n 1 w1)) (own_z n 2 w2)) (own_z n 3 w3)) (own_z n 4 w4)) (own_z n 5 w5)) (own_z n 6 w6)) (own_z n 7 w7)
theorem own_acc_i (a : Int64) (z : Int32) (h0 : 0 ≤ z.toInt) (h1 : z.toInt < 256) : ((own_acc a z).toInt - (a.toInt * 256 + z.toInt)) % 18446744073709551616 = 0 := by
  have s := c_lshl a 8 8 (by decide)
  have e : ((2 ^ 8 : Nat) : Int) = 256 := by decide
  rw [e] at s
  have m : (z.toInt64).toInt = z.toInt := c_i2l z
  have o := c_orL (a <<< ((8 : Int32) &&& 0x3f).toInt64) z.toInt64 8 (by decide) 256 (by decide) (by omega) (by rw [m]; omega) (by rw [m]; omega)
  show (((a <<< ((8 : Int32) &&& 0x3f).toInt64) ||| z.toInt64).toInt - _) % _ = 0
  rw [m] at o
  omega
theorem own_z_i (n i w : Int32) : 0 ≤ (own_z n i w).toInt ∧ (own_z n i w).toInt < 256 ∧ (i < n → (own_z n i w).toInt = w.toInt % 256) ∧ (¬ i < n → (own_z n i w).toInt = 0) := by
  have m := c_mask w 255 8 (by decide) (by decide)
  have e : ((2 ^ 8 : Nat) : Int) = 256 := by decide
  rw [e] at m
  have z : (0 : Int32).toInt = 0 := rfl
  unfold own_z
  by_cases h : i < n
  · rw [if_pos h, m]; exact ⟨by omega, by omega, fun _ => rfl, fun q => absurd h q⟩
  · rw [if_neg h, z]; exact ⟨by omega, by omega, fun q => absurd q h, fun _ => rfl⟩
theorem own_byte (x : Int32) : (nar .byte x.toInt8.toInt32).toInt % 256 = x.toInt % 256 := by
  have a := c_i2b x
  have b : (nar .byte x.toInt8.toInt32).toInt % 256 = x.toInt8.toInt32.toInt % 256 := by
    have c := c_i2b x.toInt8.toInt32
    have d : nar .byte x.toInt8.toInt32 = x.toInt8.toInt32.toInt8.toInt32 := rfl
    rw [d]; omega
  omega
def own_b (x : Int64) : Int32 := nar .byte x.toInt32.toInt8.toInt32
theorem own_b_i (x : Int64) : (own_b x).toInt % 256 = x.toInt % 256 := by
  have a := own_byte x.toInt32
  have b := c_l2i x
  show (nar .byte x.toInt32.toInt8.toInt32).toInt % 256 = _
  omega
def own_sh (x : Int64) (k : Int32) : Int64 := (x.toUInt64 >>> (k &&& 0x3f).toInt64.toUInt64).toInt64
theorem own_hi (x : BitVec 64) (k : Nat) (hk : k < 64) : (x &&& (BitVec.allOnes 64 <<< k)) = (x >>> k) <<< k := by
  apply BitVec.eq_of_getLsbD_eq
  intro i hi
  rw [BitVec.getLsbD_and, BitVec.getLsbD_shiftLeft, BitVec.getLsbD_shiftLeft, BitVec.getLsbD_ushiftRight, BitVec.getLsbD_allOnes]
  by_cases c : i < k
  · simp [c]
  · have e : k + (i - k) = i := by omega
    have e2 : i - k < 64 := by omega
    simp [c, hi, e, e2]
theorem own_hi_i (x m : Int64) (k : Nat) (hk : k < 64) (hm : m.toBitVec = BitVec.allOnes 64 <<< k) (P : Int) (hP : P = (2 ^ k : Nat)) : ((x &&& m).toInt - (x.toInt - x.toInt % P)) % 18446744073709551616 = 0 := by
  subst hP
  have e : (x &&& m).toBitVec = (x.toBitVec >>> k) <<< k := by rw [Int64.toBitVec_and, hm, own_hi _ _ hk]
  have t : (x &&& m).toBitVec.toNat = x.toBitVec.toNat - x.toBitVec.toNat % 2 ^ k := by
    rw [e, BitVec.toNat_shiftLeft, BitVec.toNat_ushiftRight, Nat.shiftRight_eq_div_pow, Nat.shiftLeft_eq]
    have q := Nat.div_add_mod x.toBitVec.toNat (2 ^ k)
    have r := x.toBitVec.isLt
    have c : x.toBitVec.toNat / 2 ^ k * 2 ^ k = x.toBitVec.toNat - x.toBitVec.toNat % 2 ^ k := by rw [Nat.mul_comm]; omega
    rw [c]; exact Nat.mod_eq_of_lt (by omega)
  have r1 : ((x &&& m).toInt - ((x &&& m).toBitVec.toNat : Int)) % 18446744073709551616 = 0 := by
    show ((x &&& m).toBitVec.toInt - _) % _ = 0
    rw [BitVec.toInt_eq_toNat_cond]; split <;> omega
  have r2 : (x.toInt - (x.toBitVec.toNat : Int)) % 18446744073709551616 = 0 := by
    show (x.toBitVec.toInt - _) % _ = 0
    rw [BitVec.toInt_eq_toNat_cond]; split <;> omega
  have le : x.toBitVec.toNat % 2 ^ k ≤ x.toBitVec.toNat := Nat.mod_le _ _
  have pm : (18446744073709551616 : Int) = ((2 ^ k : Nat) : Int) * ((2 ^ (64 - k) : Nat) : Int) := by
    rw [← Int.natCast_mul, ← Nat.pow_add, show k + (64 - k) = 64 by omega]; rfl
  have me : x.toInt % ((2 ^ k : Nat) : Int) = ((x.toBitVec.toNat % 2 ^ k : Nat) : Int) := by
    obtain ⟨z, hz⟩ := Int.dvd_of_emod_eq_zero r2
    have : x.toInt = (x.toBitVec.toNat : Int) + ((2 ^ k : Nat) : Int) * (((2 ^ (64 - k) : Nat) : Int) * z) := by rw [← Int.mul_assoc, ← pm]; omega
    rw [this, Int.add_mul_emod_self_left, Int.natCast_emod]
  rw [me]; omega

theorem own_sum (x : Int64) (n : Int32) :
    ((own_lead n (own_b (own_sh x 56)) (own_b (own_sh x 48)) (own_b (own_sh x 40)) (own_b (own_sh x 32)) (own_b (own_sh x 24)) (own_b (own_sh x 16)) (own_b (own_sh x 8)) (own_b x)).toInt -
      ((own_z n 0 (own_b (own_sh x 56))).toInt * 72057594037927936 + (own_z n 1 (own_b (own_sh x 48))).toInt * 281474976710656 + (own_z n 2 (own_b (own_sh x 40))).toInt * 1099511627776 + (own_z n 3 (own_b (own_sh x 32))).toInt * 4294967296 + (own_z n 4 (own_b (own_sh x 24))).toInt * 16777216 + (own_z n 5 (own_b (own_sh x 16))).toInt * 65536 + (own_z n 6 (own_b (own_sh x 8))).toInt * 256 + (own_z n 7 (own_b x)).toInt)) % 18446744073709551616 = 0 := by
  unfold own_lead
  have g := own_z_i
  have k0 := own_z_i n 0 (own_b (own_sh x 56))
  generalize own_z n 0 (own_b (own_sh x 56)) = z0 at *
  have k1 := own_z_i n 1 (own_b (own_sh x 48))
  generalize own_z n 1 (own_b (own_sh x 48)) = z1 at *
  have k2 := own_z_i n 2 (own_b (own_sh x 40))
  generalize own_z n 2 (own_b (own_sh x 40)) = z2 at *
  have k3 := own_z_i n 3 (own_b (own_sh x 32))
  generalize own_z n 3 (own_b (own_sh x 32)) = z3 at *
  have k4 := own_z_i n 4 (own_b (own_sh x 24))
  generalize own_z n 4 (own_b (own_sh x 24)) = z4 at *
  have k5 := own_z_i n 5 (own_b (own_sh x 16))
  generalize own_z n 5 (own_b (own_sh x 16)) = z5 at *
  have k6 := own_z_i n 6 (own_b (own_sh x 8))
  generalize own_z n 6 (own_b (own_sh x 8)) = z6 at *
  have k7 := own_z_i n 7 (own_b x)
  generalize own_z n 7 (own_b x) = z7 at *
  have a0 := own_acc_i 0 z0 k0.1 k0.2.1
  generalize own_acc 0 z0 = A0 at *
  have a1 := own_acc_i A0 z1 k1.1 k1.2.1
  generalize own_acc A0 z1 = A1 at *
  have a2 := own_acc_i A1 z2 k2.1 k2.2.1
  generalize own_acc A1 z2 = A2 at *
  have a3 := own_acc_i A2 z3 k3.1 k3.2.1
  generalize own_acc A2 z3 = A3 at *
  have a4 := own_acc_i A3 z4 k4.1 k4.2.1
  generalize own_acc A3 z4 = A4 at *
  have a5 := own_acc_i A4 z5 k5.1 k5.2.1
  generalize own_acc A4 z5 = A5 at *
  have a6 := own_acc_i A5 z6 k6.1 k6.2.1
  generalize own_acc A5 z6 = A6 at *
  have a7 := own_acc_i A6 z7 k7.1 k7.2.1
  generalize own_acc A6 z7 = A7 at *
  have z : (0 : Int64).toInt = 0 := rfl
  rw [z] at a0
  obtain ⟨r0, f0⟩ := Int.dvd_of_emod_eq_zero a0
  obtain ⟨r1, f1⟩ := Int.dvd_of_emod_eq_zero a1
  obtain ⟨r2, f2⟩ := Int.dvd_of_emod_eq_zero a2
  obtain ⟨r3, f3⟩ := Int.dvd_of_emod_eq_zero a3
  obtain ⟨r4, f4⟩ := Int.dvd_of_emod_eq_zero a4
  obtain ⟨r5, f5⟩ := Int.dvd_of_emod_eq_zero a5
  obtain ⟨r6, f6⟩ := Int.dvd_of_emod_eq_zero a6
  obtain ⟨r7, f7⟩ := Int.dvd_of_emod_eq_zero a7
  clear k0 k1 k2 k3 k4 k5 k6 k7 g a0 a1 a2 a3 a4 a5 a6 a7
  exact Int.emod_eq_zero_of_dvd ⟨72057594037927936 * r0 + 281474976710656 * r1 + 1099511627776 * r2 + 4294967296 * r3 + 16777216 * r4 + 65536 * r5 + 256 * r6 + 1 * r7, by omega⟩
theorem own_bsh (x : Int64) (k : Int32) (j : Nat) (hj : k.toBitVec.toNat % 64 = j) (h0 : 0 < j) : (own_b (own_sh x k)).toInt % 256 = (x.toInt % 18446744073709551616) / (2 ^ j : Nat) % 256 := by
  rw [own_b_i]
  have := c_lushr x k j hj h0
  show ((x.toUInt64 >>> (k &&& 0x3f).toInt64.toUInt64).toInt64).toInt % 256 = _
  rw [this]
theorem own_eq64 {a b : Int64} (h : (a.toInt - b.toInt) % 18446744073709551616 = 0) : a = b := by
  apply Int64.toInt_inj.mp
  have r1 := rng64 a; have r2 := rng64 b
  omega
def own_want (x : Int64) (n : Int32) : Int64 := if n < 8 then (if n = 0 then 0 else x &&& ((-1 : Int64) <<< (((64 : Int32) - ((8 : Int32) * n)) &&& 0x3f).toInt64)) else x
theorem own_n {n : Int32} (h0 : 0 ≤ n.toInt) (h1 : n.toInt ≤ 15) : n = 0 ∨ n = 1 ∨ n = 2 ∨ n = 3 ∨ n = 4 ∨ n = 5 ∨ n = 6 ∨ n = 7 ∨ n = 8 ∨ n = 9 ∨ n = 10 ∨ n = 11 ∨ n = 12 ∨ n = 13 ∨ n = 14 ∨ n = 15 := by
  obtain ⟨k, hk⟩ : ∃ k : Int, n.toInt = k := ⟨_, rfl⟩
  have e : n = Int32.ofInt k := by rw [← hk, Int32.ofInt_toInt]
  rw [hk] at h0 h1
  have : k = 0 ∨ k = 1 ∨ k = 2 ∨ k = 3 ∨ k = 4 ∨ k = 5 ∨ k = 6 ∨ k = 7 ∨ k = 8 ∨ k = 9 ∨ k = 10 ∨ k = 11 ∨ k = 12 ∨ k = 13 ∨ k = 14 ∨ k = 15 := by omega
  rw [e]
  rcases this with rfl | rfl | rfl | rfl | rfl | rfl | rfl | rfl | rfl | rfl | rfl | rfl | rfl | rfl | rfl | rfl <;> decide
theorem own_digits (u : Int) (h0 : 0 ≤ u) (h1 : u < 18446744073709551616) : ∃ d0 d1 d2 d3 d4 d5 d6 d7 : Int, (0 ≤ d0 ∧ d0 < 256) ∧ (0 ≤ d1 ∧ d1 < 256) ∧ (0 ≤ d2 ∧ d2 < 256) ∧ (0 ≤ d3 ∧ d3 < 256) ∧ (0 ≤ d4 ∧ d4 < 256) ∧ (0 ≤ d5 ∧ d5 < 256) ∧ (0 ≤ d6 ∧ d6 < 256) ∧ (0 ≤ d7 ∧ d7 < 256) ∧
    u = d0 * 72057594037927936 + d1 * 281474976710656 + d2 * 1099511627776 + d3 * 4294967296 + d4 * 16777216 + d5 * 65536 + d6 * 256 + d7 * 1 ∧ u / 72057594037927936 % 256 = d0 ∧ u / 281474976710656 % 256 = d1 ∧ u / 1099511627776 % 256 = d2 ∧ u / 4294967296 % 256 = d3 ∧ u / 16777216 % 256 = d4 ∧ u / 65536 % 256 = d5 ∧ u / 256 % 256 = d6 ∧ u % 256 = d7 := by
  have e1 : u / 65536 = u / 256 / 256 := by omega
  have e2 : u / 16777216 = u / 65536 / 256 := by omega
  have e3 : u / 4294967296 = u / 16777216 / 256 := by omega
  have e4 : u / 1099511627776 = u / 4294967296 / 256 := by omega
  have e5 : u / 281474976710656 = u / 1099511627776 / 256 := by omega
  have e6 : u / 72057594037927936 = u / 281474976710656 / 256 := by omega
  refine ⟨u / 72057594037927936 % 256, u / 281474976710656 % 256, u / 1099511627776 % 256, u / 4294967296 % 256, u / 16777216 % 256, u / 65536 % 256, u / 256 % 256, u % 256, by omega, by omega, by omega, by omega, by omega, by omega, by omega, by omega, ?_, rfl, rfl, rfl, rfl, rfl, rfl, rfl, rfl⟩
  have m1 : 256 * (u / 256 / 256) + u / 256 % 256 = u / 256 := by omega
  have m2 : 256 * (u / 65536 / 256) + u / 65536 % 256 = u / 65536 := by omega
  have m3 : 256 * (u / 16777216 / 256) + u / 16777216 % 256 = u / 16777216 := by omega
  have m4 : 256 * (u / 4294967296 / 256) + u / 4294967296 % 256 = u / 4294967296 := by omega
  have m5 : 256 * (u / 1099511627776 / 256) + u / 1099511627776 % 256 = u / 1099511627776 := by omega
  have m6 : 256 * (u / 281474976710656 / 256) + u / 281474976710656 % 256 = u / 281474976710656 := by omega
  have m0 : 256 * (u / 256) + u % 256 = u := by omega
  have m7 : u / 72057594037927936 % 256 = u / 72057594037927936 := by omega
  rw [← e1] at m1
  rw [← e2] at m2
  rw [← e3] at m3
  rw [← e4] at m4
  rw [← e5] at m5
  rw [← e6] at m6
  rw [m7]
  generalize u / 256 % 256 = c1 at *
  generalize u / 65536 % 256 = c2 at *
  generalize u / 16777216 % 256 = c3 at *
  generalize u / 4294967296 % 256 = c4 at *
  generalize u / 1099511627776 % 256 = c5 at *
  generalize u / 281474976710656 % 256 = c6 at *
  generalize u % 256 = c0 at *
  generalize u / 72057594037927936 = Q7 at *
  generalize u / 281474976710656 = Q6 at *
  generalize u / 1099511627776 = Q5 at *
  generalize u / 4294967296 = Q4 at *
  generalize u / 16777216 = Q3 at *
  generalize u / 65536 = Q2 at *
  generalize u / 256 = Q1 at *
  clear e1 e2 e3 e4 e5 e6 m7
  omega
theorem own_u (x : Int64) : ∃ u : Int, 0 ≤ u ∧ u < 18446744073709551616 ∧ x.toInt % 18446744073709551616 = u ∧ (x.toInt = u ∨ x.toInt = u - 18446744073709551616) ∧ x.toInt % 256 = u % 256 := by
  have rx := rng64 x
  refine ⟨_, ?_, ?_, rfl, ?_, ?_⟩ <;> omega
theorem own_lo1_0 (d0 d1 d2 d3 d4 d5 d6 d7 : Int) (g0 : 0 ≤ d0 ∧ d0 < 256) (g1 : 0 ≤ d1 ∧ d1 < 256) (g2 : 0 ≤ d2 ∧ d2 < 256) (g3 : 0 ≤ d3 ∧ d3 < 256) (g4 : 0 ≤ d4 ∧ d4 < 256) (g5 : 0 ≤ d5 ∧ d5 < 256) (g6 : 0 ≤ d6 ∧ d6 < 256) (g7 : 0 ≤ d7 ∧ d7 < 256) : (d0 * 72057594037927936 + d1 * 281474976710656 + d2 * 1099511627776 + d3 * 4294967296 + d4 * 16777216 + d5 * 65536 + d6 * 256 + d7 * 1) % 72057594037927936 = d1 * 281474976710656 + d2 * 1099511627776 + d3 * 4294967296 + d4 * 16777216 + d5 * 65536 + d6 * 256 + d7 * 1 := by
  rw [show d0 * 72057594037927936 + d1 * 281474976710656 + d2 * 1099511627776 + d3 * 4294967296 + d4 * 16777216 + d5 * 65536 + d6 * 256 + d7 * 1 = (d1 * 281474976710656 + d2 * 1099511627776 + d3 * 4294967296 + d4 * 16777216 + d5 * 65536 + d6 * 256 + d7 * 1) + 72057594037927936 * (d0 * 1) by omega, Int.add_mul_emod_self_left]
  exact Int.emod_eq_of_lt (by omega) (by omega)
theorem own_lo1_1 (d0 d1 d2 d3 d4 d5 d6 d7 : Int) (g0 : 0 ≤ d0 ∧ d0 < 256) (g1 : 0 ≤ d1 ∧ d1 < 256) (g2 : 0 ≤ d2 ∧ d2 < 256) (g3 : 0 ≤ d3 ∧ d3 < 256) (g4 : 0 ≤ d4 ∧ d4 < 256) (g5 : 0 ≤ d5 ∧ d5 < 256) (g6 : 0 ≤ d6 ∧ d6 < 256) (g7 : 0 ≤ d7 ∧ d7 < 256) : (d0 * 72057594037927936 + d1 * 281474976710656 + d2 * 1099511627776 + d3 * 4294967296 + d4 * 16777216 + d5 * 65536 + d6 * 256 + d7 * 1 - 18446744073709551616) % 72057594037927936 = d1 * 281474976710656 + d2 * 1099511627776 + d3 * 4294967296 + d4 * 16777216 + d5 * 65536 + d6 * 256 + d7 * 1 := by
  rw [show d0 * 72057594037927936 + d1 * 281474976710656 + d2 * 1099511627776 + d3 * 4294967296 + d4 * 16777216 + d5 * 65536 + d6 * 256 + d7 * 1 - 18446744073709551616 = (d1 * 281474976710656 + d2 * 1099511627776 + d3 * 4294967296 + d4 * 16777216 + d5 * 65536 + d6 * 256 + d7 * 1) + 72057594037927936 * (d0 * 1 + (-256)) by omega, Int.add_mul_emod_self_left]
  exact Int.emod_eq_of_lt (by omega) (by omega)
theorem own_lo2_0 (d0 d1 d2 d3 d4 d5 d6 d7 : Int) (g0 : 0 ≤ d0 ∧ d0 < 256) (g1 : 0 ≤ d1 ∧ d1 < 256) (g2 : 0 ≤ d2 ∧ d2 < 256) (g3 : 0 ≤ d3 ∧ d3 < 256) (g4 : 0 ≤ d4 ∧ d4 < 256) (g5 : 0 ≤ d5 ∧ d5 < 256) (g6 : 0 ≤ d6 ∧ d6 < 256) (g7 : 0 ≤ d7 ∧ d7 < 256) : (d0 * 72057594037927936 + d1 * 281474976710656 + d2 * 1099511627776 + d3 * 4294967296 + d4 * 16777216 + d5 * 65536 + d6 * 256 + d7 * 1) % 281474976710656 = d2 * 1099511627776 + d3 * 4294967296 + d4 * 16777216 + d5 * 65536 + d6 * 256 + d7 * 1 := by
  rw [show d0 * 72057594037927936 + d1 * 281474976710656 + d2 * 1099511627776 + d3 * 4294967296 + d4 * 16777216 + d5 * 65536 + d6 * 256 + d7 * 1 = (d2 * 1099511627776 + d3 * 4294967296 + d4 * 16777216 + d5 * 65536 + d6 * 256 + d7 * 1) + 281474976710656 * (d0 * 256 + d1 * 1) by omega, Int.add_mul_emod_self_left]
  exact Int.emod_eq_of_lt (by omega) (by omega)
theorem own_lo2_1 (d0 d1 d2 d3 d4 d5 d6 d7 : Int) (g0 : 0 ≤ d0 ∧ d0 < 256) (g1 : 0 ≤ d1 ∧ d1 < 256) (g2 : 0 ≤ d2 ∧ d2 < 256) (g3 : 0 ≤ d3 ∧ d3 < 256) (g4 : 0 ≤ d4 ∧ d4 < 256) (g5 : 0 ≤ d5 ∧ d5 < 256) (g6 : 0 ≤ d6 ∧ d6 < 256) (g7 : 0 ≤ d7 ∧ d7 < 256) : (d0 * 72057594037927936 + d1 * 281474976710656 + d2 * 1099511627776 + d3 * 4294967296 + d4 * 16777216 + d5 * 65536 + d6 * 256 + d7 * 1 - 18446744073709551616) % 281474976710656 = d2 * 1099511627776 + d3 * 4294967296 + d4 * 16777216 + d5 * 65536 + d6 * 256 + d7 * 1 := by
  rw [show d0 * 72057594037927936 + d1 * 281474976710656 + d2 * 1099511627776 + d3 * 4294967296 + d4 * 16777216 + d5 * 65536 + d6 * 256 + d7 * 1 - 18446744073709551616 = (d2 * 1099511627776 + d3 * 4294967296 + d4 * 16777216 + d5 * 65536 + d6 * 256 + d7 * 1) + 281474976710656 * (d0 * 256 + d1 * 1 + (-65536)) by omega, Int.add_mul_emod_self_left]
  exact Int.emod_eq_of_lt (by omega) (by omega)
theorem own_lo3_0 (d0 d1 d2 d3 d4 d5 d6 d7 : Int) (g0 : 0 ≤ d0 ∧ d0 < 256) (g1 : 0 ≤ d1 ∧ d1 < 256) (g2 : 0 ≤ d2 ∧ d2 < 256) (g3 : 0 ≤ d3 ∧ d3 < 256) (g4 : 0 ≤ d4 ∧ d4 < 256) (g5 : 0 ≤ d5 ∧ d5 < 256) (g6 : 0 ≤ d6 ∧ d6 < 256) (g7 : 0 ≤ d7 ∧ d7 < 256) : (d0 * 72057594037927936 + d1 * 281474976710656 + d2 * 1099511627776 + d3 * 4294967296 + d4 * 16777216 + d5 * 65536 + d6 * 256 + d7 * 1) % 1099511627776 = d3 * 4294967296 + d4 * 16777216 + d5 * 65536 + d6 * 256 + d7 * 1 := by
  rw [show d0 * 72057594037927936 + d1 * 281474976710656 + d2 * 1099511627776 + d3 * 4294967296 + d4 * 16777216 + d5 * 65536 + d6 * 256 + d7 * 1 = (d3 * 4294967296 + d4 * 16777216 + d5 * 65536 + d6 * 256 + d7 * 1) + 1099511627776 * (d0 * 65536 + d1 * 256 + d2 * 1) by omega, Int.add_mul_emod_self_left]
  exact Int.emod_eq_of_lt (by omega) (by omega)
theorem own_lo3_1 (d0 d1 d2 d3 d4 d5 d6 d7 : Int) (g0 : 0 ≤ d0 ∧ d0 < 256) (g1 : 0 ≤ d1 ∧ d1 < 256) (g2 : 0 ≤ d2 ∧ d2 < 256) (g3 : 0 ≤ d3 ∧ d3 < 256) (g4 : 0 ≤ d4 ∧ d4 < 256) (g5 : 0 ≤ d5 ∧ d5 < 256) (g6 : 0 ≤ d6 ∧ d6 < 256) (g7 : 0 ≤ d7 ∧ d7 < 256) : (d0 * 72057594037927936 + d1 * 281474976710656 + d2 * 1099511627776 + d3 * 4294967296 + d4 * 16777216 + d5 * 65536 + d6 * 256 + d7 * 1 - 18446744073709551616) % 1099511627776 = d3 * 4294967296 + d4 * 16777216 + d5 * 65536 + d6 * 256 + d7 * 1 := by
  rw [show d0 * 72057594037927936 + d1 * 281474976710656 + d2 * 1099511627776 + d3 * 4294967296 + d4 * 16777216 + d5 * 65536 + d6 * 256 + d7 * 1 - 18446744073709551616 = (d3 * 4294967296 + d4 * 16777216 + d5 * 65536 + d6 * 256 + d7 * 1) + 1099511627776 * (d0 * 65536 + d1 * 256 + d2 * 1 + (-16777216)) by omega, Int.add_mul_emod_self_left]
  exact Int.emod_eq_of_lt (by omega) (by omega)
theorem own_lo4_0 (d0 d1 d2 d3 d4 d5 d6 d7 : Int) (g0 : 0 ≤ d0 ∧ d0 < 256) (g1 : 0 ≤ d1 ∧ d1 < 256) (g2 : 0 ≤ d2 ∧ d2 < 256) (g3 : 0 ≤ d3 ∧ d3 < 256) (g4 : 0 ≤ d4 ∧ d4 < 256) (g5 : 0 ≤ d5 ∧ d5 < 256) (g6 : 0 ≤ d6 ∧ d6 < 256) (g7 : 0 ≤ d7 ∧ d7 < 256) : (d0 * 72057594037927936 + d1 * 281474976710656 + d2 * 1099511627776 + d3 * 4294967296 + d4 * 16777216 + d5 * 65536 + d6 * 256 + d7 * 1) % 4294967296 = d4 * 16777216 + d5 * 65536 + d6 * 256 + d7 * 1 := by
  rw [show d0 * 72057594037927936 + d1 * 281474976710656 + d2 * 1099511627776 + d3 * 4294967296 + d4 * 16777216 + d5 * 65536 + d6 * 256 + d7 * 1 = (d4 * 16777216 + d5 * 65536 + d6 * 256 + d7 * 1) + 4294967296 * (d0 * 16777216 + d1 * 65536 + d2 * 256 + d3 * 1) by omega, Int.add_mul_emod_self_left]
  exact Int.emod_eq_of_lt (by omega) (by omega)
theorem own_lo4_1 (d0 d1 d2 d3 d4 d5 d6 d7 : Int) (g0 : 0 ≤ d0 ∧ d0 < 256) (g1 : 0 ≤ d1 ∧ d1 < 256) (g2 : 0 ≤ d2 ∧ d2 < 256) (g3 : 0 ≤ d3 ∧ d3 < 256) (g4 : 0 ≤ d4 ∧ d4 < 256) (g5 : 0 ≤ d5 ∧ d5 < 256) (g6 : 0 ≤ d6 ∧ d6 < 256) (g7 : 0 ≤ d7 ∧ d7 < 256) : (d0 * 72057594037927936 + d1 * 281474976710656 + d2 * 1099511627776 + d3 * 4294967296 + d4 * 16777216 + d5 * 65536 + d6 * 256 + d7 * 1 - 18446744073709551616) % 4294967296 = d4 * 16777216 + d5 * 65536 + d6 * 256 + d7 * 1 := by
  rw [show d0 * 72057594037927936 + d1 * 281474976710656 + d2 * 1099511627776 + d3 * 4294967296 + d4 * 16777216 + d5 * 65536 + d6 * 256 + d7 * 1 - 18446744073709551616 = (d4 * 16777216 + d5 * 65536 + d6 * 256 + d7 * 1) + 4294967296 * (d0 * 16777216 + d1 * 65536 + d2 * 256 + d3 * 1 + (-4294967296)) by omega, Int.add_mul_emod_self_left]
  exact Int.emod_eq_of_lt (by omega) (by omega)
theorem own_lo5_0 (d0 d1 d2 d3 d4 d5 d6 d7 : Int) (g0 : 0 ≤ d0 ∧ d0 < 256) (g1 : 0 ≤ d1 ∧ d1 < 256) (g2 : 0 ≤ d2 ∧ d2 < 256) (g3 : 0 ≤ d3 ∧ d3 < 256) (g4 : 0 ≤ d4 ∧ d4 < 256) (g5 : 0 ≤ d5 ∧ d5 < 256) (g6 : 0 ≤ d6 ∧ d6 < 256) (g7 : 0 ≤ d7 ∧ d7 < 256) : (d0 * 72057594037927936 + d1 * 281474976710656 + d2 * 1099511627776 + d3 * 4294967296 + d4 * 16777216 + d5 * 65536 + d6 * 256 + d7 * 1) % 16777216 = d5 * 65536 + d6 * 256 + d7 * 1 := by
  rw [show d0 * 72057594037927936 + d1 * 281474976710656 + d2 * 1099511627776 + d3 * 4294967296 + d4 * 16777216 + d5 * 65536 + d6 * 256 + d7 * 1 = (d5 * 65536 + d6 * 256 + d7 * 1) + 16777216 * (d0 * 4294967296 + d1 * 16777216 + d2 * 65536 + d3 * 256 + d4 * 1) by omega, Int.add_mul_emod_self_left]
  exact Int.emod_eq_of_lt (by omega) (by omega)
theorem own_lo5_1 (d0 d1 d2 d3 d4 d5 d6 d7 : Int) (g0 : 0 ≤ d0 ∧ d0 < 256) (g1 : 0 ≤ d1 ∧ d1 < 256) (g2 : 0 ≤ d2 ∧ d2 < 256) (g3 : 0 ≤ d3 ∧ d3 < 256) (g4 : 0 ≤ d4 ∧ d4 < 256) (g5 : 0 ≤ d5 ∧ d5 < 256) (g6 : 0 ≤ d6 ∧ d6 < 256) (g7 : 0 ≤ d7 ∧ d7 < 256) : (d0 * 72057594037927936 + d1 * 281474976710656 + d2 * 1099511627776 + d3 * 4294967296 + d4 * 16777216 + d5 * 65536 + d6 * 256 + d7 * 1 - 18446744073709551616) % 16777216 = d5 * 65536 + d6 * 256 + d7 * 1 := by
  rw [show d0 * 72057594037927936 + d1 * 281474976710656 + d2 * 1099511627776 + d3 * 4294967296 + d4 * 16777216 + d5 * 65536 + d6 * 256 + d7 * 1 - 18446744073709551616 = (d5 * 65536 + d6 * 256 + d7 * 1) + 16777216 * (d0 * 4294967296 + d1 * 16777216 + d2 * 65536 + d3 * 256 + d4 * 1 + (-1099511627776)) by omega, Int.add_mul_emod_self_left]
  exact Int.emod_eq_of_lt (by omega) (by omega)
theorem own_lo6_0 (d0 d1 d2 d3 d4 d5 d6 d7 : Int) (g0 : 0 ≤ d0 ∧ d0 < 256) (g1 : 0 ≤ d1 ∧ d1 < 256) (g2 : 0 ≤ d2 ∧ d2 < 256) (g3 : 0 ≤ d3 ∧ d3 < 256) (g4 : 0 ≤ d4 ∧ d4 < 256) (g5 : 0 ≤ d5 ∧ d5 < 256) (g6 : 0 ≤ d6 ∧ d6 < 256) (g7 : 0 ≤ d7 ∧ d7 < 256) : (d0 * 72057594037927936 + d1 * 281474976710656 + d2 * 1099511627776 + d3 * 4294967296 + d4 * 16777216 + d5 * 65536 + d6 * 256 + d7 * 1) % 65536 = d6 * 256 + d7 * 1 := by
  rw [show d0 * 72057594037927936 + d1 * 281474976710656 + d2 * 1099511627776 + d3 * 4294967296 + d4 * 16777216 + d5 * 65536 + d6 * 256 + d7 * 1 = (d6 * 256 + d7 * 1) + 65536 * (d0 * 1099511627776 + d1 * 4294967296 + d2 * 16777216 + d3 * 65536 + d4 * 256 + d5 * 1) by omega, Int.add_mul_emod_self_left]
  exact Int.emod_eq_of_lt (by omega) (by omega)
theorem own_lo6_1 (d0 d1 d2 d3 d4 d5 d6 d7 : Int) (g0 : 0 ≤ d0 ∧ d0 < 256) (g1 : 0 ≤ d1 ∧ d1 < 256) (g2 : 0 ≤ d2 ∧ d2 < 256) (g3 : 0 ≤ d3 ∧ d3 < 256) (g4 : 0 ≤ d4 ∧ d4 < 256) (g5 : 0 ≤ d5 ∧ d5 < 256) (g6 : 0 ≤ d6 ∧ d6 < 256) (g7 : 0 ≤ d7 ∧ d7 < 256) : (d0 * 72057594037927936 + d1 * 281474976710656 + d2 * 1099511627776 + d3 * 4294967296 + d4 * 16777216 + d5 * 65536 + d6 * 256 + d7 * 1 - 18446744073709551616) % 65536 = d6 * 256 + d7 * 1 := by
  rw [show d0 * 72057594037927936 + d1 * 281474976710656 + d2 * 1099511627776 + d3 * 4294967296 + d4 * 16777216 + d5 * 65536 + d6 * 256 + d7 * 1 - 18446744073709551616 = (d6 * 256 + d7 * 1) + 65536 * (d0 * 1099511627776 + d1 * 4294967296 + d2 * 16777216 + d3 * 65536 + d4 * 256 + d5 * 1 + (-281474976710656)) by omega, Int.add_mul_emod_self_left]
  exact Int.emod_eq_of_lt (by omega) (by omega)
theorem own_lo7_0 (d0 d1 d2 d3 d4 d5 d6 d7 : Int) (g0 : 0 ≤ d0 ∧ d0 < 256) (g1 : 0 ≤ d1 ∧ d1 < 256) (g2 : 0 ≤ d2 ∧ d2 < 256) (g3 : 0 ≤ d3 ∧ d3 < 256) (g4 : 0 ≤ d4 ∧ d4 < 256) (g5 : 0 ≤ d5 ∧ d5 < 256) (g6 : 0 ≤ d6 ∧ d6 < 256) (g7 : 0 ≤ d7 ∧ d7 < 256) : (d0 * 72057594037927936 + d1 * 281474976710656 + d2 * 1099511627776 + d3 * 4294967296 + d4 * 16777216 + d5 * 65536 + d6 * 256 + d7 * 1) % 256 = d7 * 1 := by
  rw [show d0 * 72057594037927936 + d1 * 281474976710656 + d2 * 1099511627776 + d3 * 4294967296 + d4 * 16777216 + d5 * 65536 + d6 * 256 + d7 * 1 = (d7 * 1) + 256 * (d0 * 281474976710656 + d1 * 1099511627776 + d2 * 4294967296 + d3 * 16777216 + d4 * 65536 + d5 * 256 + d6 * 1) by omega, Int.add_mul_emod_self_left]
  exact Int.emod_eq_of_lt (by omega) (by omega)
theorem own_lo7_1 (d0 d1 d2 d3 d4 d5 d6 d7 : Int) (g0 : 0 ≤ d0 ∧ d0 < 256) (g1 : 0 ≤ d1 ∧ d1 < 256) (g2 : 0 ≤ d2 ∧ d2 < 256) (g3 : 0 ≤ d3 ∧ d3 < 256) (g4 : 0 ≤ d4 ∧ d4 < 256) (g5 : 0 ≤ d5 ∧ d5 < 256) (g6 : 0 ≤ d6 ∧ d6 < 256) (g7 : 0 ≤ d7 ∧ d7 < 256) : (d0 * 72057594037927936 + d1 * 281474976710656 + d2 * 1099511627776 + d3 * 4294967296 + d4 * 16777216 + d5 * 65536 + d6 * 256 + d7 * 1 - 18446744073709551616) % 256 = d7 * 1 := by
  rw [show d0 * 72057594037927936 + d1 * 281474976710656 + d2 * 1099511627776 + d3 * 4294967296 + d4 * 16777216 + d5 * 65536 + d6 * 256 + d7 * 1 - 18446744073709551616 = (d7 * 1) + 256 * (d0 * 281474976710656 + d1 * 1099511627776 + d2 * 4294967296 + d3 * 16777216 + d4 * 65536 + d5 * 256 + d6 * 1 + (-72057594037927936)) by omega, Int.add_mul_emod_self_left]
  exact Int.emod_eq_of_lt (by omega) (by omega)
set_option maxHeartbeats 40000000 in
theorem own_law (x : Int64) (n : Int32) (h0 : 0 ≤ n.toInt) (h1 : n.toInt ≤ 15) :
    own_lead n (own_b (own_sh x 56)) (own_b (own_sh x 48)) (own_b (own_sh x 40)) (own_b (own_sh x 32)) (own_b (own_sh x 24)) (own_b (own_sh x 16)) (own_b (own_sh x 8)) (own_b x) = own_want x n := by
  apply own_eq64
  have S := own_sum x n
  generalize own_lead n (own_b (own_sh x 56)) (own_b (own_sh x 48)) (own_b (own_sh x 40)) (own_b (own_sh x 32)) (own_b (own_sh x 24)) (own_b (own_sh x 16)) (own_b (own_sh x 8)) (own_b x) = A at *
  have b0 := own_bsh x 56 56 (by decide) (by decide)
  have b1 := own_bsh x 48 48 (by decide) (by decide)
  have b2 := own_bsh x 40 40 (by decide) (by decide)
  have b3 := own_bsh x 32 32 (by decide) (by decide)
  have b4 := own_bsh x 24 24 (by decide) (by decide)
  have b5 := own_bsh x 16 16 (by decide) (by decide)
  have b6 := own_bsh x 8 8 (by decide) (by decide)
  have b7 := own_b_i x
  have k0 := own_z_i n 0 (own_b (own_sh x 56))
  generalize (own_z n 0 (own_b (own_sh x 56))).toInt = z0 at *
  generalize (own_b (own_sh x 56)).toInt = y0 at *
  have k1 := own_z_i n 1 (own_b (own_sh x 48))
  generalize (own_z n 1 (own_b (own_sh x 48))).toInt = z1 at *
  generalize (own_b (own_sh x 48)).toInt = y1 at *
  have k2 := own_z_i n 2 (own_b (own_sh x 40))
  generalize (own_z n 2 (own_b (own_sh x 40))).toInt = z2 at *
  generalize (own_b (own_sh x 40)).toInt = y2 at *
  have k3 := own_z_i n 3 (own_b (own_sh x 32))
  generalize (own_z n 3 (own_b (own_sh x 32))).toInt = z3 at *
  generalize (own_b (own_sh x 32)).toInt = y3 at *
  have k4 := own_z_i n 4 (own_b (own_sh x 24))
  generalize (own_z n 4 (own_b (own_sh x 24))).toInt = z4 at *
  generalize (own_b (own_sh x 24)).toInt = y4 at *
  have k5 := own_z_i n 5 (own_b (own_sh x 16))
  generalize (own_z n 5 (own_b (own_sh x 16))).toInt = z5 at *
  generalize (own_b (own_sh x 16)).toInt = y5 at *
  have k6 := own_z_i n 6 (own_b (own_sh x 8))
  generalize (own_z n 6 (own_b (own_sh x 8))).toInt = z6 at *
  generalize (own_b (own_sh x 8)).toInt = y6 at *
  have k7 := own_z_i n 7 (own_b x)
  generalize (own_z n 7 (own_b x)).toInt = z7 at *
  generalize (own_b x).toInt = y7 at *
  have p0 : ((2 ^ 56 : Nat) : Int) = 72057594037927936 := by decide
  rw [p0] at b0
  have p1 : ((2 ^ 48 : Nat) : Int) = 281474976710656 := by decide
  rw [p1] at b1
  have p2 : ((2 ^ 40 : Nat) : Int) = 1099511627776 := by decide
  rw [p2] at b2
  have p3 : ((2 ^ 32 : Nat) : Int) = 4294967296 := by decide
  rw [p3] at b3
  have p4 : ((2 ^ 24 : Nat) : Int) = 16777216 := by decide
  rw [p4] at b4
  have p5 : ((2 ^ 16 : Nat) : Int) = 65536 := by decide
  rw [p5] at b5
  have p6 : ((2 ^ 8 : Nat) : Int) = 256 := by decide
  rw [p6] at b6
  obtain ⟨u, u0, u1, hu, hx, b7'⟩ := own_u x
  rw [b7'] at b7
  rw [hu] at b0 b1 b2 b3 b4 b5 b6
  obtain ⟨d0, d1, d2, d3, d4, d5, d6, d7, g0, g1, g2, g3, g4, g5, g6, g7, hs, f0, f1, f2, f3, f4, f5, f6, f7⟩ := own_digits u u0 u1
  rw [f0] at b0
  rw [f1] at b1
  rw [f2] at b2
  rw [f3] at b3
  rw [f4] at b4
  rw [f5] at b5
  rw [f6] at b6
  rw [f7] at b7
  clear f0 f1 f2 f3 f4 f5 f6 f7 p0 p1 p2 p3 p4 p5 p6 hu b7' u0 u1
  rcases own_n h0 h1 with rfl | rfl | rfl | rfl | rfl | rfl | rfl | rfl | rfl | rfl | rfl | rfl | rfl | rfl | rfl | rfl
  · have e : own_want x 0 = 0 := by first | rfl | (simp [own_want]; done)
    rw [e]
    have c0 := k0.2.2.2 (by decide)
    have c1 := k1.2.2.2 (by decide)
    have c2 := k2.2.2.2 (by decide)
    have c3 := k3.2.2.2 (by decide)
    have c4 := k4.2.2.2 (by decide)
    have c5 := k5.2.2.2 (by decide)
    have c6 := k6.2.2.2 (by decide)
    have c7 := k7.2.2.2 (by decide)
    clear k0 k1 k2 k3 k4 k5 k6 k7 b0 b1 b2 b3 b4 b5 b6 b7
    rw [c0, c1, c2, c3, c4, c5, c6, c7] at S
    clear c0 c1 c2 c3 c4 c5 c6 c7
    have z : (0 : Int64).toInt = 0 := rfl
    rw [z]
    clear hs hx g0 g1 g2 g3 g4 g5 g6 g7
    omega
  · have e : own_want x 1 = x &&& (-72057594037927936 : Int64) := by first | rfl | (simp [own_want]; done)
    rw [e]
    have c0 := k0.2.2.1 (by decide)
    rw [b0] at c0
    have c1 := k1.2.2.2 (by decide)
    have c2 := k2.2.2.2 (by decide)
    have c3 := k3.2.2.2 (by decide)
    have c4 := k4.2.2.2 (by decide)
    have c5 := k5.2.2.2 (by decide)
    have c6 := k6.2.2.2 (by decide)
    have c7 := k7.2.2.2 (by decide)
    clear k0 k1 k2 k3 k4 k5 k6 k7 b0 b1 b2 b3 b4 b5 b6 b7
    rw [c0, c1, c2, c3, c4, c5, c6, c7] at S
    clear c0 c1 c2 c3 c4 c5 c6 c7
    have hm := own_hi_i x (-72057594037927936 : Int64) 56 (by decide) (by decide) 72057594037927936 (by decide)
    generalize (x &&& (-72057594037927936 : Int64)).toInt = M at *
    obtain ⟨q, hq⟩ := Int.dvd_of_emod_eq_zero S
    rcases hx with h | h
    · rw [h, hs, own_lo1_0 d0 d1 d2 d3 d4 d5 d6 d7 g0 g1 g2 g3 g4 g5 g6 g7] at hm
      obtain ⟨r, hr⟩ := Int.dvd_of_emod_eq_zero hm
      clear S hm g0 g1 g2 g3 g4 g5 g6 g7
      exact Int.emod_eq_zero_of_dvd ⟨q - r, by omega⟩
    · rw [h, hs, own_lo1_1 d0 d1 d2 d3 d4 d5 d6 d7 g0 g1 g2 g3 g4 g5 g6 g7] at hm
      obtain ⟨r, hr⟩ := Int.dvd_of_emod_eq_zero hm
      clear S hm g0 g1 g2 g3 g4 g5 g6 g7
      exact Int.emod_eq_zero_of_dvd ⟨q - r + 1, by omega⟩
  · have e : own_want x 2 = x &&& (-281474976710656 : Int64) := by first | rfl | (simp [own_want]; done)
    rw [e]
    have c0 := k0.2.2.1 (by decide)
    rw [b0] at c0
    have c1 := k1.2.2.1 (by decide)
    rw [b1] at c1
    have c2 := k2.2.2.2 (by decide)
    have c3 := k3.2.2.2 (by decide)
    have c4 := k4.2.2.2 (by decide)
    have c5 := k5.2.2.2 (by decide)
    have c6 := k6.2.2.2 (by decide)
    have c7 := k7.2.2.2 (by decide)
    clear k0 k1 k2 k3 k4 k5 k6 k7 b0 b1 b2 b3 b4 b5 b6 b7
    rw [c0, c1, c2, c3, c4, c5, c6, c7] at S
    clear c0 c1 c2 c3 c4 c5 c6 c7
    have hm := own_hi_i x (-281474976710656 : Int64) 48 (by decide) (by decide) 281474976710656 (by decide)
    generalize (x &&& (-281474976710656 : Int64)).toInt = M at *
    obtain ⟨q, hq⟩ := Int.dvd_of_emod_eq_zero S
    rcases hx with h | h
    · rw [h, hs, own_lo2_0 d0 d1 d2 d3 d4 d5 d6 d7 g0 g1 g2 g3 g4 g5 g6 g7] at hm
      obtain ⟨r, hr⟩ := Int.dvd_of_emod_eq_zero hm
      clear S hm g0 g1 g2 g3 g4 g5 g6 g7
      exact Int.emod_eq_zero_of_dvd ⟨q - r, by omega⟩
    · rw [h, hs, own_lo2_1 d0 d1 d2 d3 d4 d5 d6 d7 g0 g1 g2 g3 g4 g5 g6 g7] at hm
      obtain ⟨r, hr⟩ := Int.dvd_of_emod_eq_zero hm
      clear S hm g0 g1 g2 g3 g4 g5 g6 g7
      exact Int.emod_eq_zero_of_dvd ⟨q - r + 1, by omega⟩
  · have e : own_want x 3 = x &&& (-1099511627776 : Int64) := by first | rfl | (simp [own_want]; done)
    rw [e]
    have c0 := k0.2.2.1 (by decide)
    rw [b0] at c0
    have c1 := k1.2.2.1 (by decide)
    rw [b1] at c1
    have c2 := k2.2.2.1 (by decide)
    rw [b2] at c2
    have c3 := k3.2.2.2 (by decide)
    have c4 := k4.2.2.2 (by decide)
    have c5 := k5.2.2.2 (by decide)
    have c6 := k6.2.2.2 (by decide)
    have c7 := k7.2.2.2 (by decide)
    clear k0 k1 k2 k3 k4 k5 k6 k7 b0 b1 b2 b3 b4 b5 b6 b7
    rw [c0, c1, c2, c3, c4, c5, c6, c7] at S
    clear c0 c1 c2 c3 c4 c5 c6 c7
    have hm := own_hi_i x (-1099511627776 : Int64) 40 (by decide) (by decide) 1099511627776 (by decide)
    generalize (x &&& (-1099511627776 : Int64)).toInt = M at *
    obtain ⟨q, hq⟩ := Int.dvd_of_emod_eq_zero S
    rcases hx with h | h
    · rw [h, hs, own_lo3_0 d0 d1 d2 d3 d4 d5 d6 d7 g0 g1 g2 g3 g4 g5 g6 g7] at hm
      obtain ⟨r, hr⟩ := Int.dvd_of_emod_eq_zero hm
      clear S hm g0 g1 g2 g3 g4 g5 g6 g7
      exact Int.emod_eq_zero_of_dvd ⟨q - r, by omega⟩
    · rw [h, hs, own_lo3_1 d0 d1 d2 d3 d4 d5 d6 d7 g0 g1 g2 g3 g4 g5 g6 g7] at hm
      obtain ⟨r, hr⟩ := Int.dvd_of_emod_eq_zero hm
      clear S hm g0 g1 g2 g3 g4 g5 g6 g7
      exact Int.emod_eq_zero_of_dvd ⟨q - r + 1, by omega⟩
  · have e : own_want x 4 = x &&& (-4294967296 : Int64) := by first | rfl | (simp [own_want]; done)
    rw [e]
    have c0 := k0.2.2.1 (by decide)
    rw [b0] at c0
    have c1 := k1.2.2.1 (by decide)
    rw [b1] at c1
    have c2 := k2.2.2.1 (by decide)
    rw [b2] at c2
    have c3 := k3.2.2.1 (by decide)
    rw [b3] at c3
    have c4 := k4.2.2.2 (by decide)
    have c5 := k5.2.2.2 (by decide)
    have c6 := k6.2.2.2 (by decide)
    have c7 := k7.2.2.2 (by decide)
    clear k0 k1 k2 k3 k4 k5 k6 k7 b0 b1 b2 b3 b4 b5 b6 b7
    rw [c0, c1, c2, c3, c4, c5, c6, c7] at S
    clear c0 c1 c2 c3 c4 c5 c6 c7
    have hm := own_hi_i x (-4294967296 : Int64) 32 (by decide) (by decide) 4294967296 (by decide)
    generalize (x &&& (-4294967296 : Int64)).toInt = M at *
    obtain ⟨q, hq⟩ := Int.dvd_of_emod_eq_zero S
    rcases hx with h | h
    · rw [h, hs, own_lo4_0 d0 d1 d2 d3 d4 d5 d6 d7 g0 g1 g2 g3 g4 g5 g6 g7] at hm
      obtain ⟨r, hr⟩ := Int.dvd_of_emod_eq_zero hm
      clear S hm g0 g1 g2 g3 g4 g5 g6 g7
      exact Int.emod_eq_zero_of_dvd ⟨q - r, by omega⟩
    · rw [h, hs, own_lo4_1 d0 d1 d2 d3 d4 d5 d6 d7 g0 g1 g2 g3 g4 g5 g6 g7] at hm
      obtain ⟨r, hr⟩ := Int.dvd_of_emod_eq_zero hm
      clear S hm g0 g1 g2 g3 g4 g5 g6 g7
      exact Int.emod_eq_zero_of_dvd ⟨q - r + 1, by omega⟩
  · have e : own_want x 5 = x &&& (-16777216 : Int64) := by first | rfl | (simp [own_want]; done)
    rw [e]
    have c0 := k0.2.2.1 (by decide)
    rw [b0] at c0
    have c1 := k1.2.2.1 (by decide)
    rw [b1] at c1
    have c2 := k2.2.2.1 (by decide)
    rw [b2] at c2
    have c3 := k3.2.2.1 (by decide)
    rw [b3] at c3
    have c4 := k4.2.2.1 (by decide)
    rw [b4] at c4
    have c5 := k5.2.2.2 (by decide)
    have c6 := k6.2.2.2 (by decide)
    have c7 := k7.2.2.2 (by decide)
    clear k0 k1 k2 k3 k4 k5 k6 k7 b0 b1 b2 b3 b4 b5 b6 b7
    rw [c0, c1, c2, c3, c4, c5, c6, c7] at S
    clear c0 c1 c2 c3 c4 c5 c6 c7
    have hm := own_hi_i x (-16777216 : Int64) 24 (by decide) (by decide) 16777216 (by decide)
    generalize (x &&& (-16777216 : Int64)).toInt = M at *
    obtain ⟨q, hq⟩ := Int.dvd_of_emod_eq_zero S
    rcases hx with h | h
    · rw [h, hs, own_lo5_0 d0 d1 d2 d3 d4 d5 d6 d7 g0 g1 g2 g3 g4 g5 g6 g7] at hm
      obtain ⟨r, hr⟩ := Int.dvd_of_emod_eq_zero hm
      clear S hm g0 g1 g2 g3 g4 g5 g6 g7
      exact Int.emod_eq_zero_of_dvd ⟨q - r, by omega⟩
    · rw [h, hs, own_lo5_1 d0 d1 d2 d3 d4 d5 d6 d7 g0 g1 g2 g3 g4 g5 g6 g7] at hm
      obtain ⟨r, hr⟩ := Int.dvd_of_emod_eq_zero hm
      clear S hm g0 g1 g2 g3 g4 g5 g6 g7
      exact Int.emod_eq_zero_of_dvd ⟨q - r + 1, by omega⟩
  · have e : own_want x 6 = x &&& (-65536 : Int64) := by first | rfl | (simp [own_want]; done)
    rw [e]
    have c0 := k0.2.2.1 (by decide)
    rw [b0] at c0
    have c1 := k1.2.2.1 (by decide)
    rw [b1] at c1
    have c2 := k2.2.2.1 (by decide)
    rw [b2] at c2
    have c3 := k3.2.2.1 (by decide)
    rw [b3] at c3
    have c4 := k4.2.2.1 (by decide)
    rw [b4] at c4
    have c5 := k5.2.2.1 (by decide)
    rw [b5] at c5
    have c6 := k6.2.2.2 (by decide)
    have c7 := k7.2.2.2 (by decide)
    clear k0 k1 k2 k3 k4 k5 k6 k7 b0 b1 b2 b3 b4 b5 b6 b7
    rw [c0, c1, c2, c3, c4, c5, c6, c7] at S
    clear c0 c1 c2 c3 c4 c5 c6 c7
    have hm := own_hi_i x (-65536 : Int64) 16 (by decide) (by decide) 65536 (by decide)
    generalize (x &&& (-65536 : Int64)).toInt = M at *
    obtain ⟨q, hq⟩ := Int.dvd_of_emod_eq_zero S
    rcases hx with h | h
    · rw [h, hs, own_lo6_0 d0 d1 d2 d3 d4 d5 d6 d7 g0 g1 g2 g3 g4 g5 g6 g7] at hm
      obtain ⟨r, hr⟩ := Int.dvd_of_emod_eq_zero hm
      clear S hm g0 g1 g2 g3 g4 g5 g6 g7
      exact Int.emod_eq_zero_of_dvd ⟨q - r, by omega⟩
    · rw [h, hs, own_lo6_1 d0 d1 d2 d3 d4 d5 d6 d7 g0 g1 g2 g3 g4 g5 g6 g7] at hm
      obtain ⟨r, hr⟩ := Int.dvd_of_emod_eq_zero hm
      clear S hm g0 g1 g2 g3 g4 g5 g6 g7
      exact Int.emod_eq_zero_of_dvd ⟨q - r + 1, by omega⟩
  · have e : own_want x 7 = x &&& (-256 : Int64) := by first | rfl | (simp [own_want]; done)
    rw [e]
    have c0 := k0.2.2.1 (by decide)
    rw [b0] at c0
    have c1 := k1.2.2.1 (by decide)
    rw [b1] at c1
    have c2 := k2.2.2.1 (by decide)
    rw [b2] at c2
    have c3 := k3.2.2.1 (by decide)
    rw [b3] at c3
    have c4 := k4.2.2.1 (by decide)
    rw [b4] at c4
    have c5 := k5.2.2.1 (by decide)
    rw [b5] at c5
    have c6 := k6.2.2.1 (by decide)
    rw [b6] at c6
    have c7 := k7.2.2.2 (by decide)
    clear k0 k1 k2 k3 k4 k5 k6 k7 b0 b1 b2 b3 b4 b5 b6 b7
    rw [c0, c1, c2, c3, c4, c5, c6, c7] at S
    clear c0 c1 c2 c3 c4 c5 c6 c7
    have hm := own_hi_i x (-256 : Int64) 8 (by decide) (by decide) 256 (by decide)
    generalize (x &&& (-256 : Int64)).toInt = M at *
    obtain ⟨q, hq⟩ := Int.dvd_of_emod_eq_zero S
    rcases hx with h | h
    · rw [h, hs, own_lo7_0 d0 d1 d2 d3 d4 d5 d6 d7 g0 g1 g2 g3 g4 g5 g6 g7] at hm
      obtain ⟨r, hr⟩ := Int.dvd_of_emod_eq_zero hm
      clear S hm g0 g1 g2 g3 g4 g5 g6 g7
      exact Int.emod_eq_zero_of_dvd ⟨q - r, by omega⟩
    · rw [h, hs, own_lo7_1 d0 d1 d2 d3 d4 d5 d6 d7 g0 g1 g2 g3 g4 g5 g6 g7] at hm
      obtain ⟨r, hr⟩ := Int.dvd_of_emod_eq_zero hm
      clear S hm g0 g1 g2 g3 g4 g5 g6 g7
      exact Int.emod_eq_zero_of_dvd ⟨q - r + 1, by omega⟩
  · have e : own_want x 8 = x := by first | rfl | (simp [own_want]; done)
    rw [e]
    have c0 := k0.2.2.1 (by decide)
    rw [b0] at c0
    have c1 := k1.2.2.1 (by decide)
    rw [b1] at c1
    have c2 := k2.2.2.1 (by decide)
    rw [b2] at c2
    have c3 := k3.2.2.1 (by decide)
    rw [b3] at c3
    have c4 := k4.2.2.1 (by decide)
    rw [b4] at c4
    have c5 := k5.2.2.1 (by decide)
    rw [b5] at c5
    have c6 := k6.2.2.1 (by decide)
    rw [b6] at c6
    have c7 := k7.2.2.1 (by decide)
    rw [b7] at c7
    clear k0 k1 k2 k3 k4 k5 k6 k7 b0 b1 b2 b3 b4 b5 b6 b7
    rw [c0, c1, c2, c3, c4, c5, c6, c7] at S
    clear c0 c1 c2 c3 c4 c5 c6 c7
    obtain ⟨q, hq⟩ := Int.dvd_of_emod_eq_zero S
    rcases hx with h | h
    · clear S g0 g1 g2 g3 g4 g5 g6 g7
      exact Int.emod_eq_zero_of_dvd ⟨q, by omega⟩
    · clear S g0 g1 g2 g3 g4 g5 g6 g7
      exact Int.emod_eq_zero_of_dvd ⟨q + 1, by omega⟩
  · have e : own_want x 9 = x := by first | rfl | (simp [own_want]; done)
    rw [e]
    have c0 := k0.2.2.1 (by decide)
    rw [b0] at c0
    have c1 := k1.2.2.1 (by decide)
    rw [b1] at c1
    have c2 := k2.2.2.1 (by decide)
    rw [b2] at c2
    have c3 := k3.2.2.1 (by decide)
    rw [b3] at c3
    have c4 := k4.2.2.1 (by decide)
    rw [b4] at c4
    have c5 := k5.2.2.1 (by decide)
    rw [b5] at c5
    have c6 := k6.2.2.1 (by decide)
    rw [b6] at c6
    have c7 := k7.2.2.1 (by decide)
    rw [b7] at c7
    clear k0 k1 k2 k3 k4 k5 k6 k7 b0 b1 b2 b3 b4 b5 b6 b7
    rw [c0, c1, c2, c3, c4, c5, c6, c7] at S
    clear c0 c1 c2 c3 c4 c5 c6 c7
    obtain ⟨q, hq⟩ := Int.dvd_of_emod_eq_zero S
    rcases hx with h | h
    · clear S g0 g1 g2 g3 g4 g5 g6 g7
      exact Int.emod_eq_zero_of_dvd ⟨q, by omega⟩
    · clear S g0 g1 g2 g3 g4 g5 g6 g7
      exact Int.emod_eq_zero_of_dvd ⟨q + 1, by omega⟩
  · have e : own_want x 10 = x := by first | rfl | (simp [own_want]; done)
    rw [e]
    have c0 := k0.2.2.1 (by decide)
    rw [b0] at c0
    have c1 := k1.2.2.1 (by decide)
    rw [b1] at c1
    have c2 := k2.2.2.1 (by decide)
    rw [b2] at c2
    have c3 := k3.2.2.1 (by decide)
    rw [b3] at c3
    have c4 := k4.2.2.1 (by decide)
    rw [b4] at c4
    have c5 := k5.2.2.1 (by decide)
    rw [b5] at c5
    have c6 := k6.2.2.1 (by decide)
    rw [b6] at c6
    have c7 := k7.2.2.1 (by decide)
    rw [b7] at c7
    clear k0 k1 k2 k3 k4 k5 k6 k7 b0 b1 b2 b3 b4 b5 b6 b7
    rw [c0, c1, c2, c3, c4, c5, c6, c7] at S
    clear c0 c1 c2 c3 c4 c5 c6 c7
    obtain ⟨q, hq⟩ := Int.dvd_of_emod_eq_zero S
    rcases hx with h | h
    · clear S g0 g1 g2 g3 g4 g5 g6 g7
      exact Int.emod_eq_zero_of_dvd ⟨q, by omega⟩
    · clear S g0 g1 g2 g3 g4 g5 g6 g7
      exact Int.emod_eq_zero_of_dvd ⟨q + 1, by omega⟩
  · have e : own_want x 11 = x := by first | rfl | (simp [own_want]; done)
    rw [e]
    have c0 := k0.2.2.1 (by decide)
    rw [b0] at c0
    have c1 := k1.2.2.1 (by decide)
    rw [b1] at c1
    have c2 := k2.2.2.1 (by decide)
    rw [b2] at c2
    have c3 := k3.2.2.1 (by decide)
    rw [b3] at c3
    have c4 := k4.2.2.1 (by decide)
    rw [b4] at c4
    have c5 := k5.2.2.1 (by decide)
    rw [b5] at c5
    have c6 := k6.2.2.1 (by decide)
    rw [b6] at c6
    have c7 := k7.2.2.1 (by decide)
    rw [b7] at c7
    clear k0 k1 k2 k3 k4 k5 k6 k7 b0 b1 b2 b3 b4 b5 b6 b7
    rw [c0, c1, c2, c3, c4, c5, c6, c7] at S
    clear c0 c1 c2 c3 c4 c5 c6 c7
    obtain ⟨q, hq⟩ := Int.dvd_of_emod_eq_zero S
    rcases hx with h | h
    · clear S g0 g1 g2 g3 g4 g5 g6 g7
      exact Int.emod_eq_zero_of_dvd ⟨q, by omega⟩
    · clear S g0 g1 g2 g3 g4 g5 g6 g7
      exact Int.emod_eq_zero_of_dvd ⟨q + 1, by omega⟩
  · have e : own_want x 12 = x := by first | rfl | (simp [own_want]; done)
    rw [e]
    have c0 := k0.2.2.1 (by decide)
    rw [b0] at c0
    have c1 := k1.2.2.1 (by decide)
    rw [b1] at c1
    have c2 := k2.2.2.1 (by decide)
    rw [b2] at c2
    have c3 := k3.2.2.1 (by decide)
    rw [b3] at c3
    have c4 := k4.2.2.1 (by decide)
    rw [b4] at c4
    have c5 := k5.2.2.1 (by decide)
    rw [b5] at c5
    have c6 := k6.2.2.1 (by decide)
    rw [b6] at c6
    have c7 := k7.2.2.1 (by decide)
    rw [b7] at c7
    clear k0 k1 k2 k3 k4 k5 k6 k7 b0 b1 b2 b3 b4 b5 b6 b7
    rw [c0, c1, c2, c3, c4, c5, c6, c7] at S
    clear c0 c1 c2 c3 c4 c5 c6 c7
    obtain ⟨q, hq⟩ := Int.dvd_of_emod_eq_zero S
    rcases hx with h | h
    · clear S g0 g1 g2 g3 g4 g5 g6 g7
      exact Int.emod_eq_zero_of_dvd ⟨q, by omega⟩
    · clear S g0 g1 g2 g3 g4 g5 g6 g7
      exact Int.emod_eq_zero_of_dvd ⟨q + 1, by omega⟩
  · have e : own_want x 13 = x := by first | rfl | (simp [own_want]; done)
    rw [e]
    have c0 := k0.2.2.1 (by decide)
    rw [b0] at c0
    have c1 := k1.2.2.1 (by decide)
    rw [b1] at c1
    have c2 := k2.2.2.1 (by decide)
    rw [b2] at c2
    have c3 := k3.2.2.1 (by decide)
    rw [b3] at c3
    have c4 := k4.2.2.1 (by decide)
    rw [b4] at c4
    have c5 := k5.2.2.1 (by decide)
    rw [b5] at c5
    have c6 := k6.2.2.1 (by decide)
    rw [b6] at c6
    have c7 := k7.2.2.1 (by decide)
    rw [b7] at c7
    clear k0 k1 k2 k3 k4 k5 k6 k7 b0 b1 b2 b3 b4 b5 b6 b7
    rw [c0, c1, c2, c3, c4, c5, c6, c7] at S
    clear c0 c1 c2 c3 c4 c5 c6 c7
    obtain ⟨q, hq⟩ := Int.dvd_of_emod_eq_zero S
    rcases hx with h | h
    · clear S g0 g1 g2 g3 g4 g5 g6 g7
      exact Int.emod_eq_zero_of_dvd ⟨q, by omega⟩
    · clear S g0 g1 g2 g3 g4 g5 g6 g7
      exact Int.emod_eq_zero_of_dvd ⟨q + 1, by omega⟩
  · have e : own_want x 14 = x := by first | rfl | (simp [own_want]; done)
    rw [e]
    have c0 := k0.2.2.1 (by decide)
    rw [b0] at c0
    have c1 := k1.2.2.1 (by decide)
    rw [b1] at c1
    have c2 := k2.2.2.1 (by decide)
    rw [b2] at c2
    have c3 := k3.2.2.1 (by decide)
    rw [b3] at c3
    have c4 := k4.2.2.1 (by decide)
    rw [b4] at c4
    have c5 := k5.2.2.1 (by decide)
    rw [b5] at c5
    have c6 := k6.2.2.1 (by decide)
    rw [b6] at c6
    have c7 := k7.2.2.1 (by decide)
    rw [b7] at c7
    clear k0 k1 k2 k3 k4 k5 k6 k7 b0 b1 b2 b3 b4 b5 b6 b7
    rw [c0, c1, c2, c3, c4, c5, c6, c7] at S
    clear c0 c1 c2 c3 c4 c5 c6 c7
    obtain ⟨q, hq⟩ := Int.dvd_of_emod_eq_zero S
    rcases hx with h | h
    · clear S g0 g1 g2 g3 g4 g5 g6 g7
      exact Int.emod_eq_zero_of_dvd ⟨q, by omega⟩
    · clear S g0 g1 g2 g3 g4 g5 g6 g7
      exact Int.emod_eq_zero_of_dvd ⟨q + 1, by omega⟩
  · have e : own_want x 15 = x := by first | rfl | (simp [own_want]; done)
    rw [e]
    have c0 := k0.2.2.1 (by decide)
    rw [b0] at c0
    have c1 := k1.2.2.1 (by decide)
    rw [b1] at c1
    have c2 := k2.2.2.1 (by decide)
    rw [b2] at c2
    have c3 := k3.2.2.1 (by decide)
    rw [b3] at c3
    have c4 := k4.2.2.1 (by decide)
    rw [b4] at c4
    have c5 := k5.2.2.1 (by decide)
    rw [b5] at c5
    have c6 := k6.2.2.1 (by decide)
    rw [b6] at c6
    have c7 := k7.2.2.1 (by decide)
    rw [b7] at c7
    clear k0 k1 k2 k3 k4 k5 k6 k7 b0 b1 b2 b3 b4 b5 b6 b7
    rw [c0, c1, c2, c3, c4, c5, c6, c7] at S
    clear c0 c1 c2 c3 c4 c5 c6 c7
    obtain ⟨q, hq⟩ := Int.dvd_of_emod_eq_zero S
    rcases hx with h | h
    · clear S g0 g1 g2 g3 g4 g5 g6 g7
      exact Int.emod_eq_zero_of_dvd ⟨q, by omega⟩
    · clear S g0 g1 g2 g3 g4 g5 g6 g7
      exact Int.emod_eq_zero_of_dvd ⟨q + 1, by omega⟩

theorem own_pn0 : plainName "com/example/wykaz/wykaz/registry/KeyOrderLeadPinLaw" = true := by first | (simp [plainName, overriddenIn]; done) | decide +kernel
theorem own_d1_0 : decode method_2_code 0 = .ok (.iload_n 1, 1) := by decide +kernel
theorem own_d1_1 : decode method_2_code 1 = .ok (.aload_n 0, 1) := by decide +kernel
theorem own_d1_2 : decode method_2_code 2 = .ok (.arraylength, 1) := by decide +kernel
theorem own_d1_3 : decode method_2_code 3 = .ok (.if_icmp .ge 9, 3) := by decide +kernel
theorem own_d1_6 : decode method_2_code 6 = .ok (.aload_n 0, 1) := by decide +kernel
theorem own_d1_7 : decode method_2_code 7 = .ok (.iload_n 1, 1) := by decide +kernel
theorem own_d1_8 : decode method_2_code 8 = .ok (.lload_n 2, 1) := by decide +kernel
theorem own_d1_9 : decode method_2_code 9 = .ok (.l2i, 1) := by decide +kernel
theorem own_d1_10 : decode method_2_code 10 = .ok (.i2b, 1) := by decide +kernel
theorem own_d1_11 : decode method_2_code 11 = .ok (.bastore, 1) := by decide +kernel
theorem own_d1_12 : decode method_2_code 12 = .ok (.return_, 1) := by decide +kernel
theorem ef_own_rm1 (m : MethodId) (a1 : Addr) (p1 : Int32) (q1 : Int64) : entryFrame m #[(.ref a1), (.int p1), (.long q1)] 4 = mkF m 0 #[.val (.ref a1), .val (.int p1), .val (.long q1), .second] [] := by first | (simp [entryFrame, mkF, argsToLocals, Value.category]; done) | rfl
def own_rm1_Q (Z : State) (a1 : Addr) (p1 : Int32) (q1 : Int64) (LL : List Value) (h0 : Heap) (n0 : Nat) (v : Option Value) (h : Heap) (L : List Loc) : Prop := v = none ∧ Fr n0 L ∧ Keep h0 h [a1] ∧ own_Ar Z h a1 .byte (LL.set p1.toNatClampNeg (.int (own_b q1)))
set_option maxRecDepth 65536 in
set_option maxHeartbeats 40000000 in
theorem own_rm1 (l : Launch) (Z : State) (a0 : Array Value) (hw : ∀ d ∈ tables_1, d.before a0 Z = true) (ws : List Jvm.Cond) (a1 : Addr) (p1 : Int32) (q1 : Int64) (LL : List Value) (h0 : Heap) (n0 : Nat) (Z0 : n0 ≤ h0.size) (A_a1 : own_Ar Z h0 a1 .byte LL) (hlen : LL.length < 2147483648) (hp : ¬ p1 < 0) (g_a1 : n0 ≤ a1) :
    MetFree l (⟨"com/example/wykaz/wykaz/registry/KeyOrderLeadPinLaw", "put", "([BIJ)V"⟩ : MethodName) (head1 (Jvm.Cond.code (⟨"com/example/wykaz/wykaz/registry/KeyOrderLeadPinLaw", "put", "([BIJ)V"⟩ : MethodName) method_2_code 4 none :: ws) ({ frames := 0, cells := 0, slots := 0, locals := 0 } : Room)) (fun a U => a = #[(.ref a1), (.int p1), (.long q1)] ∧ Z.Warmed39 U.vm ∧ U.heap = h0) (fun _ _ _ _ _ => True) (fun _ U o U' => ∃ v L, o = .returned v ∧ own_rm1_Q Z a1 p1 q1 LL h0 n0 v U'.heap L ∧ FrameEnd U o U' L ({ frames := 0, cells := 0, slots := 0, locals := 0 } : Room).cells ({ frames := 0, cells := 0, slots := 0, locals := 0 } : Room).slots) := by
  refine MetFree.of_bodySF (plainFor_of_name own_pn0) hisR ?_
  intro p e s m args below meth c s₁ Bd hml0 hP hK
  obtain ⟨rfl, hZ, hh⟩ := hP
  have hx := Bd.exec
  have hby := Bd.bytes
  have hml : c.maxLocals = 4 := hml0
  have hown : s.vm.findClass "com/example/wykaz/wykaz/registry/KeyOrderLeadPinLaw" = some m.cls := findClass_of_methodNamed Bd.named
  have hnm := (name_of_methodNamed Bd.named Bd.method).1
  have hlk : meth.locks = false := BodyLoose.notSynchronized Bd
  have X0 : Stand p l e ({ frames := 0, cells := 0, slots := 0, locals := 0 } : Room) s m #[(.ref a1), (.int p1), (.long q1)] below meth c s₁ [] 0 0 := Stand.of_body Bd
  have e0 : s₁.heap = h0 := by rw [← hh, Bd.state]; rfl
  have N0 := Fr.nil n0
  have K0 : Keep h0 h0 [a1] := Keep.refl h0 [a1]
  show own_Fin p e below (own_P (own_rm1_Q Z a1 p1 q1 LL h0 n0) s ({ frames := 0, cells := 0, slots := 0, locals := 0 } : Room).cells ({ frames := 0, cells := 0, slots := 0, locals := 0 } : Room).slots) (s₁.setTop (entryFrame m #[(.ref a1), (.int p1), (.long q1)] 4))
  refine own_via (g' := s₁.setTop (mkF m 0 #[.val (.ref a1), .val (.int p1), .val (.long q1), .second] [])) (fun t k => castTop (ef_own_rm1 m a1 p1 q1) k) ?_
  refine own_via (g' := s₁.setTop (mkF m 1 #[.val (.ref a1), .val (.int p1), .val (.long q1), .second] [(.int p1)])) (fun t k => XS.iloadN X0.here hx rfl (hb hby own_d1_0) rfl k) ?_
  refine own_via (g' := s₁.setTop (mkF m 2 #[.val (.ref a1), .val (.int p1), .val (.long q1), .second] [(.ref a1), (.int p1)])) (fun t k => XS.aloadN X0.here hx rfl (hb hby own_d1_1) rfl (rfl) k) ?_
  refine own_via (g' := s₁.setTop (mkF m 3 #[.val (.ref a1), .val (.int p1), .val (.long q1), .second] [(.int LL.length.toInt32), (.int p1)])) (fun t k => own_len X0 hx hZ e0 A_a1 (n := LL.length.toInt32) rfl (g := (mkF m 2 #[.val (.ref a1), .val (.int p1), .val (.long q1), .second] [(.ref a1), (.int p1)])) rfl rfl (hb hby own_d1_2) _ k) ?_
  by_cases hc3_101 : p1 < LL.length.toInt32
  · refine own_via (g' := s₁.setTop (mkF m 6 #[.val (.ref a1), .val (.int p1), .val (.long q1), .second] [])) (fun t k => XS.icmpNo X0.here hx rfl (hb hby own_d1_3) rfl (XT.ii_ge_f hc3_101) k) ?_
    refine own_via (g' := s₁.setTop (mkF m 7 #[.val (.ref a1), .val (.int p1), .val (.long q1), .second] [(.ref a1)])) (fun t k => XS.aloadN X0.here hx rfl (hb hby own_d1_6) rfl (rfl) k) ?_
    refine own_via (g' := s₁.setTop (mkF m 8 #[.val (.ref a1), .val (.int p1), .val (.long q1), .second] [(.int p1), (.ref a1)])) (fun t k => XS.iloadN X0.here hx rfl (hb hby own_d1_7) rfl k) ?_
    refine own_via (g' := s₁.setTop (mkF m 9 #[.val (.ref a1), .val (.int p1), .val (.long q1), .second] [(.long q1), (.int p1), (.ref a1)])) (fun t k => XT.lloadN X0.here hx rfl (hb hby own_d1_8) rfl k) ?_
    refine own_via (g' := s₁.setTop (mkF m 10 #[.val (.ref a1), .val (.int p1), .val (.long q1), .second] [(.int (q1.toInt32)), (.int p1), (.ref a1)])) (fun t k => XT.l2i X0.here hx rfl (hb hby own_d1_9) rfl k) ?_
    refine own_via (g' := s₁.setTop (mkF m 11 #[.val (.ref a1), .val (.int p1), .val (.long q1), .second] [(.int ((q1.toInt32).toInt8.toInt32)), (.int p1), (.ref a1)])) (fun t k => XT.i2b X0.here hx rfl (hb hby own_d1_10) rfl k) ?_
    obtain ⟨T102, h102, X102, e102, W102, V102', st102⟩ := own_stB X0 hx hZ e0 A_a1 (j := p1) hp ((own_ltlen hp hlen).mp hc3_101) (g := (mkF m 11 #[.val (.ref a1), .val (.int p1), .val (.long q1), .second] [(.int ((q1.toInt32).toInt8.toInt32)), (.int p1), (.ref a1)])) rfl rfl (hb hby own_d1_11)
    have V102 : own_Ar Z h102 a1 .byte (LL.set p1.toNatClampNeg (.int (own_b q1))) := V102'
    have Kc102 : Keep h0 h102 [a1] := K0.wr W102 (Or.inl (List.mem_of_getElem? (i := 0) rfl))
    have N102 := Fr.snoc X102 N0 g_a1
    refine own_via (g' := T102.setTop (mkF m 12 #[.val (.ref a1), .val (.int p1), .val (.long q1), .second] [])) (fun t k => st102 _ k) ?_
    have eE : T102.heap = h102 := e102
    exact own_retV X102 hx hlk Bd.returns (hb hby own_d1_12) ⟨rfl, N102, (by rw [eE]; exact Kc102), (by rw [eE]; exact V102)⟩ (by decide) (by decide)
  · refine own_via (g' := s₁.setTop (mkF m 12 #[.val (.ref a1), .val (.int p1), .val (.long q1), .second] [])) (fun t k => XS.icmpYes X0.here hx rfl (pc0 := 3) (pc' := 12) rfl (hb hby own_d1_3) rfl (XT.ii_ge_t hc3_101) (by decide) (by decide) k) ?_
    have eE : s₁.heap = h0 := e0
    exact own_retV X0 hx hlk Bd.returns (hb hby own_d1_12) ⟨rfl, N0, (by rw [eE]; exact K0), (by rw [eE, List.set_eq_of_length_le (Nat.le_of_not_lt (fun q => hc3_101 ((own_ltlen hp hlen).mpr q)))]; exact A_a1)⟩ (by decide) (by decide)
theorem own_pn1 : plainName "com/example/wykaz/wykaz/registry/KeyOrder" = true := by first | (simp [plainName, overriddenIn]; done) | decide +kernel
theorem own_d2_0 : decode prog_17_method_4_code 0 = .ok (.lconst 0, 1) := by decide +kernel
theorem own_d2_1 : decode prog_17_method_4_code 1 = .ok (.lstore_n 1, 1) := by decide +kernel
theorem own_d2_2 : decode prog_17_method_4_code 2 = .ok (.iconst 0, 1) := by decide +kernel
theorem own_d2_3 : decode prog_17_method_4_code 3 = .ok (.istore_n 3, 1) := by decide +kernel
theorem own_d2_4 : decode prog_17_method_4_code 4 = .ok (.iload_n 3, 1) := by decide +kernel
theorem own_d2_5 : decode prog_17_method_4_code 5 = .ok (.bipush 8, 2) := by decide +kernel
theorem own_d2_7 : decode prog_17_method_4_code 7 = .ok (.if_icmp .ge 33, 3) := by decide +kernel
theorem own_d2_10 : decode prog_17_method_4_code 10 = .ok (.lload_n 1, 1) := by decide +kernel
theorem own_d2_11 : decode prog_17_method_4_code 11 = .ok (.bipush 8, 2) := by decide +kernel
theorem own_d2_13 : decode prog_17_method_4_code 13 = .ok (.lshl, 1) := by decide +kernel
theorem own_d2_14 : decode prog_17_method_4_code 14 = .ok (.iload_n 3, 1) := by decide +kernel
theorem own_d2_15 : decode prog_17_method_4_code 15 = .ok (.aload_n 0, 1) := by decide +kernel
theorem own_d2_16 : decode prog_17_method_4_code 16 = .ok (.arraylength, 1) := by decide +kernel
theorem own_d2_17 : decode prog_17_method_4_code 17 = .ok (.if_icmp .ge 13, 3) := by decide +kernel
theorem own_d2_20 : decode prog_17_method_4_code 20 = .ok (.aload_n 0, 1) := by decide +kernel
theorem own_d2_21 : decode prog_17_method_4_code 21 = .ok (.iload_n 3, 1) := by decide +kernel
theorem own_d2_22 : decode prog_17_method_4_code 22 = .ok (.baload, 1) := by decide +kernel
theorem own_d2_23 : decode prog_17_method_4_code 23 = .ok (.sipush 255, 3) := by decide +kernel
theorem own_d2_26 : decode prog_17_method_4_code 26 = .ok (.iand, 1) := by decide +kernel
theorem own_d2_27 : decode prog_17_method_4_code 27 = .ok (.goto 4, 3) := by decide +kernel
theorem own_d2_30 : decode prog_17_method_4_code 30 = .ok (.iconst 0, 1) := by decide +kernel
theorem own_d2_31 : decode prog_17_method_4_code 31 = .ok (.i2l, 1) := by decide +kernel
theorem own_d2_32 : decode prog_17_method_4_code 32 = .ok (.lor, 1) := by decide +kernel
theorem own_d2_33 : decode prog_17_method_4_code 33 = .ok (.lstore_n 1, 1) := by decide +kernel
theorem own_d2_34 : decode prog_17_method_4_code 34 = .ok (.iinc 3 1, 3) := by decide +kernel
theorem own_d2_37 : decode prog_17_method_4_code 37 = .ok (.goto (-33), 3) := by decide +kernel
theorem own_d2_40 : decode prog_17_method_4_code 40 = .ok (.lload_n 1, 1) := by decide +kernel
theorem own_d2_41 : decode prog_17_method_4_code 41 = .ok (.lreturn, 1) := by decide +kernel
theorem ef_own_rm2 (m : MethodId) (a1 : Addr) : entryFrame m #[(.ref a1)] 4 = mkF m 0 #[.val (.ref a1), .unset, .unset, .unset] [] := by first | (simp [entryFrame, mkF, argsToLocals, Value.category]; done) | rfl
def own_rm2_Q (Z : State) (a1 : Addr) (LL : List Value) (nn : Int32) (w0 : Int32) (w1 : Int32) (w2 : Int32) (w3 : Int32) (w4 : Int32) (w5 : Int32) (w6 : Int32) (w7 : Int32) (h0 : Heap) (n0 : Nat) (v : Option Value) (h : Heap) (L : List Loc) : Prop := v = some (.long (own_lead nn w0 w1 w2 w3 w4 w5 w6 w7)) ∧ Fr n0 L ∧ h = h0
set_option maxRecDepth 65536 in
set_option maxHeartbeats 40000000 in
theorem own_rm2 (l : Launch) (Z : State) (a0 : Array Value) (hw : ∀ d ∈ tables_1, d.before a0 Z = true) (ws : List Jvm.Cond) (a1 : Addr) (LL : List Value) (nn : Int32) (w0 : Int32) (w1 : Int32) (w2 : Int32) (w3 : Int32) (w4 : Int32) (w5 : Int32) (w6 : Int32) (w7 : Int32) (h0 : Heap) (n0 : Nat) (Z0 : n0 ≤ h0.size) (A_a1 : own_Ar Z h0 a1 .byte LL) (hnn : LL.length.toInt32 = nn) (hg0 : (0 : Int32) < nn → LL[0]? = some (.int w0)) (hg1 : (1 : Int32) < nn → LL[1]? = some (.int w1)) (hg2 : (2 : Int32) < nn → LL[2]? = some (.int w2)) (hg3 : (3 : Int32) < nn → LL[3]? = some (.int w3)) (hg4 : (4 : Int32) < nn → LL[4]? = some (.int w4)) (hg5 : (5 : Int32) < nn → LL[5]? = some (.int w5)) (hg6 : (6 : Int32) < nn → LL[6]? = some (.int w6)) (hg7 : (7 : Int32) < nn → LL[7]? = some (.int w7)) :
    MetFree l (⟨"com/example/wykaz/wykaz/registry/KeyOrder", "lead", "([B)J"⟩ : MethodName) (head1 (Jvm.Cond.code (⟨"com/example/wykaz/wykaz/registry/KeyOrder", "lead", "([B)J"⟩ : MethodName) prog_17_method_4_code 4 (some .long) :: ws) ({ frames := 0, cells := 0, slots := 0, locals := 0 } : Room)) (fun a U => a = #[(.ref a1)] ∧ Z.Warmed39 U.vm ∧ U.heap = h0) (fun _ _ _ _ _ => True) (fun _ U o U' => ∃ v L, o = .returned v ∧ own_rm2_Q Z a1 LL nn w0 w1 w2 w3 w4 w5 w6 w7 h0 n0 v U'.heap L ∧ FrameEnd U o U' L ({ frames := 0, cells := 0, slots := 0, locals := 0 } : Room).cells ({ frames := 0, cells := 0, slots := 0, locals := 0 } : Room).slots) := by
  refine MetFree.of_bodySF (plainFor_of_name own_pn1) hisR ?_
  intro p e s m args below meth c s₁ Bd hml0 hP hK
  obtain ⟨rfl, hZ, hh⟩ := hP
  have hx := Bd.exec
  have hby := Bd.bytes
  have hml : c.maxLocals = 4 := hml0
  have hown : s.vm.findClass "com/example/wykaz/wykaz/registry/KeyOrder" = some m.cls := findClass_of_methodNamed Bd.named
  have hnm := (name_of_methodNamed Bd.named Bd.method).1
  have hlk : meth.locks = false := BodyLoose.notSynchronized Bd
  have X0 : Stand p l e ({ frames := 0, cells := 0, slots := 0, locals := 0 } : Room) s m #[(.ref a1)] below meth c s₁ [] 0 0 := Stand.of_body Bd
  have e0 : s₁.heap = h0 := by rw [← hh, Bd.state]; rfl
  have N0 := Fr.nil n0
  have K0 : Keep h0 h0 [] := Keep.refl h0 []
  show own_Fin p e below (own_P (own_rm2_Q Z a1 LL nn w0 w1 w2 w3 w4 w5 w6 w7 h0 n0) s ({ frames := 0, cells := 0, slots := 0, locals := 0 } : Room).cells ({ frames := 0, cells := 0, slots := 0, locals := 0 } : Room).slots) (s₁.setTop (entryFrame m #[(.ref a1)] 4))
  refine own_via (g' := s₁.setTop (mkF m 0 #[.val (.ref a1), .unset, .unset, .unset] [])) (fun t k => castTop (ef_own_rm2 m a1) k) ?_
  refine own_via (g' := s₁.setTop (mkF m 1 #[.val (.ref a1), .unset, .unset, .unset] [(.long (0 : Int64))])) (fun t k => XT.lconst X0.here hx rfl (hb hby own_d2_0) k) ?_
  refine own_via (g' := s₁.setTop (mkF m 2 #[.val (.ref a1), .val (.long (0 : Int64)), .second, .unset] [])) (fun t k => XT.lstoreN X0.here hx rfl (hb hby own_d2_1) rfl (l' := #[.val (.ref a1), .val (.long (0 : Int64)), .second, .unset]) rfl k) ?_
  refine own_via (g' := s₁.setTop (mkF m 3 #[.val (.ref a1), .val (.long (0 : Int64)), .second, .unset] [(.int (0 : Int32))])) (fun t k => XS.iconst X0.here hx rfl (hb hby own_d2_2) k) ?_
  refine own_via (g' := s₁.setTop (mkF m 4 #[.val (.ref a1), .val (.long (0 : Int64)), .second, .val (.int (0 : Int32))] [])) (fun t k => XS.istoreN X0.here hx rfl (hb hby own_d2_3) rfl (l' := #[.val (.ref a1), .val (.long (0 : Int64)), .second, .val (.int (0 : Int32))]) rfl k) ?_
  refine own_via (g' := s₁.setTop (mkF m 5 #[.val (.ref a1), .val (.long (0 : Int64)), .second, .val (.int (0 : Int32))] [(.int (0 : Int32))])) (fun t k => XS.iloadN X0.here hx rfl (hb hby own_d2_4) rfl k) ?_
  refine own_via (g' := s₁.setTop (mkF m 7 #[.val (.ref a1), .val (.long (0 : Int64)), .second, .val (.int (0 : Int32))] [(.int (8 : Int32)), (.int (0 : Int32))])) (fun t k => XS.bipush X0.here hx rfl (hb hby own_d2_5) k) ?_
  refine own_via (g' := s₁.setTop (mkF m 10 #[.val (.ref a1), .val (.long (0 : Int64)), .second, .val (.int (0 : Int32))] [])) (fun t k => XS.icmpNo X0.here hx rfl (hb hby own_d2_7) rfl (XT.ii_ge_f (by decide)) k) ?_
  refine own_via (g' := s₁.setTop (mkF m 11 #[.val (.ref a1), .val (.long (0 : Int64)), .second, .val (.int (0 : Int32))] [(.long (0 : Int64))])) (fun t k => XT.lloadN X0.here hx rfl (hb hby own_d2_10) rfl k) ?_
  refine own_via (g' := s₁.setTop (mkF m 13 #[.val (.ref a1), .val (.long (0 : Int64)), .second, .val (.int (0 : Int32))] [(.int (8 : Int32)), (.long (0 : Int64))])) (fun t k => XS.bipush X0.here hx rfl (hb hby own_d2_11) k) ?_
  refine own_via (g' := s₁.setTop (mkF m 14 #[.val (.ref a1), .val (.long (0 : Int64)), .second, .val (.int (0 : Int32))] [(.long ((0 : Int64) <<< ((8 : Int32) &&& 0x3f).toInt64))])) (fun t k => XS.lshl X0.here hx rfl (hb hby own_d2_13) rfl k) ?_
  refine own_via (g' := s₁.setTop (mkF m 15 #[.val (.ref a1), .val (.long (0 : Int64)), .second, .val (.int (0 : Int32))] [(.int (0 : Int32)), (.long ((0 : Int64) <<< ((8 : Int32) &&& 0x3f).toInt64))])) (fun t k => XS.iloadN X0.here hx rfl (hb hby own_d2_14) rfl k) ?_
  refine own_via (g' := s₁.setTop (mkF m 16 #[.val (.ref a1), .val (.long (0 : Int64)), .second, .val (.int (0 : Int32))] [(.ref a1), (.int (0 : Int32)), (.long ((0 : Int64) <<< ((8 : Int32) &&& 0x3f).toInt64))])) (fun t k => XS.aloadN X0.here hx rfl (hb hby own_d2_15) rfl (rfl) k) ?_
  refine own_via (g' := s₁.setTop (mkF m 17 #[.val (.ref a1), .val (.long (0 : Int64)), .second, .val (.int (0 : Int32))] [(.int nn), (.int (0 : Int32)), (.long ((0 : Int64) <<< ((8 : Int32) &&& 0x3f).toInt64))])) (fun t k => own_len X0 hx hZ e0 A_a1 (n := nn) hnn (g := (mkF m 16 #[.val (.ref a1), .val (.long (0 : Int64)), .second, .val (.int (0 : Int32))] [(.ref a1), (.int (0 : Int32)), (.long ((0 : Int64) <<< ((8 : Int32) &&& 0x3f).toInt64))])) rfl rfl (hb hby own_d2_16) _ k) ?_
  have J101 : ∀ z0 : Int32, z0 = own_z nn 0 w0 → own_Fin p e below (own_P (own_rm2_Q Z a1 LL nn w0 w1 w2 w3 w4 w5 w6 w7 h0 n0) s ({ frames := 0, cells := 0, slots := 0, locals := 0 } : Room).cells ({ frames := 0, cells := 0, slots := 0, locals := 0 } : Room).slots) (s₁.setTop (mkF m 31 #[.val (.ref a1), .val (.long (0 : Int64)), .second, .val (.int (0 : Int32))] [(.int z0), (.long ((0 : Int64) <<< ((8 : Int32) &&& 0x3f).toInt64))])) := by
    intro z0 hz0
    refine own_via (g' := s₁.setTop (mkF m 32 #[.val (.ref a1), .val (.long (0 : Int64)), .second, .val (.int (0 : Int32))] [(.long (z0.toInt64)), (.long ((0 : Int64) <<< ((8 : Int32) &&& 0x3f).toInt64))])) (fun t k => XT.i2l X0.here hx rfl (hb hby own_d2_31) rfl k) ?_
    refine own_via (g' := s₁.setTop (mkF m 33 #[.val (.ref a1), .val (.long (0 : Int64)), .second, .val (.int (0 : Int32))] [(.long (((0 : Int64) <<< ((8 : Int32) &&& 0x3f).toInt64) ||| (z0.toInt64)))])) (fun t k => XT.lor X0.here hx rfl (hb hby own_d2_32) rfl k) ?_
    rw [hz0]
    show own_Fin p e below _ (s₁.setTop (mkF m 33 #[.val (.ref a1), .val (.long (0 : Int64)), .second, .val (.int (0 : Int32))] [(.long (own_acc (0 : Int64) (own_z nn 0 w0)))]))
    refine own_via (g' := s₁.setTop (mkF m 34 #[.val (.ref a1), .val (.long (own_acc (0 : Int64) (own_z nn 0 w0))), .second, .val (.int (0 : Int32))] [])) (fun t k => XT.lstoreN X0.here hx rfl (hb hby own_d2_33) rfl (l' := #[.val (.ref a1), .val (.long (own_acc (0 : Int64) (own_z nn 0 w0))), .second, .val (.int (0 : Int32))]) rfl k) ?_
    refine own_via (g' := s₁.setTop (mkF m 37 #[.val (.ref a1), .val (.long (own_acc (0 : Int64) (own_z nn 0 w0))), .second, .val (.int (1 : Int32))] [])) (fun t k => XS.iinc X0.here hx rfl (hb hby own_d2_34) rfl (l' := #[.val (.ref a1), .val (.long (own_acc (0 : Int64) (own_z nn 0 w0))), .second, .val (.int (1 : Int32))]) rfl k) ?_
    refine own_via (g' := s₁.setTop (mkF m 4 #[.val (.ref a1), .val (.long (own_acc (0 : Int64) (own_z nn 0 w0))), .second, .val (.int (1 : Int32))] [])) (fun t k => XS.goto X0.here hx rfl (pc0 := 37) (pc' := 4) rfl (hb hby own_d2_37) (by decide) (by decide) k) ?_
    refine own_via (g' := s₁.setTop (mkF m 5 #[.val (.ref a1), .val (.long (own_acc (0 : Int64) (own_z nn 0 w0))), .second, .val (.int (1 : Int32))] [(.int (1 : Int32))])) (fun t k => XS.iloadN X0.here hx rfl (hb hby own_d2_4) rfl k) ?_
    refine own_via (g' := s₁.setTop (mkF m 7 #[.val (.ref a1), .val (.long (own_acc (0 : Int64) (own_z nn 0 w0))), .second, .val (.int (1 : Int32))] [(.int (8 : Int32)), (.int (1 : Int32))])) (fun t k => XS.bipush X0.here hx rfl (hb hby own_d2_5) k) ?_
    refine own_via (g' := s₁.setTop (mkF m 10 #[.val (.ref a1), .val (.long (own_acc (0 : Int64) (own_z nn 0 w0))), .second, .val (.int (1 : Int32))] [])) (fun t k => XS.icmpNo X0.here hx rfl (hb hby own_d2_7) rfl (XT.ii_ge_f (by decide)) k) ?_
    refine own_via (g' := s₁.setTop (mkF m 11 #[.val (.ref a1), .val (.long (own_acc (0 : Int64) (own_z nn 0 w0))), .second, .val (.int (1 : Int32))] [(.long (own_acc (0 : Int64) (own_z nn 0 w0)))])) (fun t k => XT.lloadN X0.here hx rfl (hb hby own_d2_10) rfl k) ?_
    refine own_via (g' := s₁.setTop (mkF m 13 #[.val (.ref a1), .val (.long (own_acc (0 : Int64) (own_z nn 0 w0))), .second, .val (.int (1 : Int32))] [(.int (8 : Int32)), (.long (own_acc (0 : Int64) (own_z nn 0 w0)))])) (fun t k => XS.bipush X0.here hx rfl (hb hby own_d2_11) k) ?_
    refine own_via (g' := s₁.setTop (mkF m 14 #[.val (.ref a1), .val (.long (own_acc (0 : Int64) (own_z nn 0 w0))), .second, .val (.int (1 : Int32))] [(.long ((own_acc (0 : Int64) (own_z nn 0 w0)) <<< ((8 : Int32) &&& 0x3f).toInt64))])) (fun t k => XS.lshl X0.here hx rfl (hb hby own_d2_13) rfl k) ?_
    refine own_via (g' := s₁.setTop (mkF m 15 #[.val (.ref a1), .val (.long (own_acc (0 : Int64) (own_z nn 0 w0))), .second, .val (.int (1 : Int32))] [(.int (1 : Int32)), (.long ((own_acc (0 : Int64) (own_z nn 0 w0)) <<< ((8 : Int32) &&& 0x3f).toInt64))])) (fun t k => XS.iloadN X0.here hx rfl (hb hby own_d2_14) rfl k) ?_
    refine own_via (g' := s₁.setTop (mkF m 16 #[.val (.ref a1), .val (.long (own_acc (0 : Int64) (own_z nn 0 w0))), .second, .val (.int (1 : Int32))] [(.ref a1), (.int (1 : Int32)), (.long ((own_acc (0 : Int64) (own_z nn 0 w0)) <<< ((8 : Int32) &&& 0x3f).toInt64))])) (fun t k => XS.aloadN X0.here hx rfl (hb hby own_d2_15) rfl (rfl) k) ?_
    refine own_via (g' := s₁.setTop (mkF m 17 #[.val (.ref a1), .val (.long (own_acc (0 : Int64) (own_z nn 0 w0))), .second, .val (.int (1 : Int32))] [(.int nn), (.int (1 : Int32)), (.long ((own_acc (0 : Int64) (own_z nn 0 w0)) <<< ((8 : Int32) &&& 0x3f).toInt64))])) (fun t k => own_len X0 hx hZ e0 A_a1 (n := nn) hnn (g := (mkF m 16 #[.val (.ref a1), .val (.long (own_acc (0 : Int64) (own_z nn 0 w0))), .second, .val (.int (1 : Int32))] [(.ref a1), (.int (1 : Int32)), (.long ((own_acc (0 : Int64) (own_z nn 0 w0)) <<< ((8 : Int32) &&& 0x3f).toInt64))])) rfl rfl (hb hby own_d2_16) _ k) ?_
    have J102 : ∀ z1 : Int32, z1 = own_z nn 1 w1 → own_Fin p e below (own_P (own_rm2_Q Z a1 LL nn w0 w1 w2 w3 w4 w5 w6 w7 h0 n0) s ({ frames := 0, cells := 0, slots := 0, locals := 0 } : Room).cells ({ frames := 0, cells := 0, slots := 0, locals := 0 } : Room).slots) (s₁.setTop (mkF m 31 #[.val (.ref a1), .val (.long (own_acc (0 : Int64) (own_z nn 0 w0))), .second, .val (.int (1 : Int32))] [(.int z1), (.long ((own_acc (0 : Int64) (own_z nn 0 w0)) <<< ((8 : Int32) &&& 0x3f).toInt64))])) := by
      intro z1 hz1
      refine own_via (g' := s₁.setTop (mkF m 32 #[.val (.ref a1), .val (.long (own_acc (0 : Int64) (own_z nn 0 w0))), .second, .val (.int (1 : Int32))] [(.long (z1.toInt64)), (.long ((own_acc (0 : Int64) (own_z nn 0 w0)) <<< ((8 : Int32) &&& 0x3f).toInt64))])) (fun t k => XT.i2l X0.here hx rfl (hb hby own_d2_31) rfl k) ?_
      refine own_via (g' := s₁.setTop (mkF m 33 #[.val (.ref a1), .val (.long (own_acc (0 : Int64) (own_z nn 0 w0))), .second, .val (.int (1 : Int32))] [(.long (((own_acc (0 : Int64) (own_z nn 0 w0)) <<< ((8 : Int32) &&& 0x3f).toInt64) ||| (z1.toInt64)))])) (fun t k => XT.lor X0.here hx rfl (hb hby own_d2_32) rfl k) ?_
      rw [hz1]
      show own_Fin p e below _ (s₁.setTop (mkF m 33 #[.val (.ref a1), .val (.long (own_acc (0 : Int64) (own_z nn 0 w0))), .second, .val (.int (1 : Int32))] [(.long (own_acc (own_acc (0 : Int64) (own_z nn 0 w0)) (own_z nn 1 w1)))]))
      refine own_via (g' := s₁.setTop (mkF m 34 #[.val (.ref a1), .val (.long (own_acc (own_acc (0 : Int64) (own_z nn 0 w0)) (own_z nn 1 w1))), .second, .val (.int (1 : Int32))] [])) (fun t k => XT.lstoreN X0.here hx rfl (hb hby own_d2_33) rfl (l' := #[.val (.ref a1), .val (.long (own_acc (own_acc (0 : Int64) (own_z nn 0 w0)) (own_z nn 1 w1))), .second, .val (.int (1 : Int32))]) rfl k) ?_
      refine own_via (g' := s₁.setTop (mkF m 37 #[.val (.ref a1), .val (.long (own_acc (own_acc (0 : Int64) (own_z nn 0 w0)) (own_z nn 1 w1))), .second, .val (.int (2 : Int32))] [])) (fun t k => XS.iinc X0.here hx rfl (hb hby own_d2_34) rfl (l' := #[.val (.ref a1), .val (.long (own_acc (own_acc (0 : Int64) (own_z nn 0 w0)) (own_z nn 1 w1))), .second, .val (.int (2 : Int32))]) rfl k) ?_
      refine own_via (g' := s₁.setTop (mkF m 4 #[.val (.ref a1), .val (.long (own_acc (own_acc (0 : Int64) (own_z nn 0 w0)) (own_z nn 1 w1))), .second, .val (.int (2 : Int32))] [])) (fun t k => XS.goto X0.here hx rfl (pc0 := 37) (pc' := 4) rfl (hb hby own_d2_37) (by decide) (by decide) k) ?_
      refine own_via (g' := s₁.setTop (mkF m 5 #[.val (.ref a1), .val (.long (own_acc (own_acc (0 : Int64) (own_z nn 0 w0)) (own_z nn 1 w1))), .second, .val (.int (2 : Int32))] [(.int (2 : Int32))])) (fun t k => XS.iloadN X0.here hx rfl (hb hby own_d2_4) rfl k) ?_
      refine own_via (g' := s₁.setTop (mkF m 7 #[.val (.ref a1), .val (.long (own_acc (own_acc (0 : Int64) (own_z nn 0 w0)) (own_z nn 1 w1))), .second, .val (.int (2 : Int32))] [(.int (8 : Int32)), (.int (2 : Int32))])) (fun t k => XS.bipush X0.here hx rfl (hb hby own_d2_5) k) ?_
      refine own_via (g' := s₁.setTop (mkF m 10 #[.val (.ref a1), .val (.long (own_acc (own_acc (0 : Int64) (own_z nn 0 w0)) (own_z nn 1 w1))), .second, .val (.int (2 : Int32))] [])) (fun t k => XS.icmpNo X0.here hx rfl (hb hby own_d2_7) rfl (XT.ii_ge_f (by decide)) k) ?_
      refine own_via (g' := s₁.setTop (mkF m 11 #[.val (.ref a1), .val (.long (own_acc (own_acc (0 : Int64) (own_z nn 0 w0)) (own_z nn 1 w1))), .second, .val (.int (2 : Int32))] [(.long (own_acc (own_acc (0 : Int64) (own_z nn 0 w0)) (own_z nn 1 w1)))])) (fun t k => XT.lloadN X0.here hx rfl (hb hby own_d2_10) rfl k) ?_
      refine own_via (g' := s₁.setTop (mkF m 13 #[.val (.ref a1), .val (.long (own_acc (own_acc (0 : Int64) (own_z nn 0 w0)) (own_z nn 1 w1))), .second, .val (.int (2 : Int32))] [(.int (8 : Int32)), (.long (own_acc (own_acc (0 : Int64) (own_z nn 0 w0)) (own_z nn 1 w1)))])) (fun t k => XS.bipush X0.here hx rfl (hb hby own_d2_11) k) ?_
      refine own_via (g' := s₁.setTop (mkF m 14 #[.val (.ref a1), .val (.long (own_acc (own_acc (0 : Int64) (own_z nn 0 w0)) (own_z nn 1 w1))), .second, .val (.int (2 : Int32))] [(.long ((own_acc (own_acc (0 : Int64) (own_z nn 0 w0)) (own_z nn 1 w1)) <<< ((8 : Int32) &&& 0x3f).toInt64))])) (fun t k => XS.lshl X0.here hx rfl (hb hby own_d2_13) rfl k) ?_
      refine own_via (g' := s₁.setTop (mkF m 15 #[.val (.ref a1), .val (.long (own_acc (own_acc (0 : Int64) (own_z nn 0 w0)) (own_z nn 1 w1))), .second, .val (.int (2 : Int32))] [(.int (2 : Int32)), (.long ((own_acc (own_acc (0 : Int64) (own_z nn 0 w0)) (own_z nn 1 w1)) <<< ((8 : Int32) &&& 0x3f).toInt64))])) (fun t k => XS.iloadN X0.here hx rfl (hb hby own_d2_14) rfl k) ?_
      refine own_via (g' := s₁.setTop (mkF m 16 #[.val (.ref a1), .val (.long (own_acc (own_acc (0 : Int64) (own_z nn 0 w0)) (own_z nn 1 w1))), .second, .val (.int (2 : Int32))] [(.ref a1), (.int (2 : Int32)), (.long ((own_acc (own_acc (0 : Int64) (own_z nn 0 w0)) (own_z nn 1 w1)) <<< ((8 : Int32) &&& 0x3f).toInt64))])) (fun t k => XS.aloadN X0.here hx rfl (hb hby own_d2_15) rfl (rfl) k) ?_
      refine own_via (g' := s₁.setTop (mkF m 17 #[.val (.ref a1), .val (.long (own_acc (own_acc (0 : Int64) (own_z nn 0 w0)) (own_z nn 1 w1))), .second, .val (.int (2 : Int32))] [(.int nn), (.int (2 : Int32)), (.long ((own_acc (own_acc (0 : Int64) (own_z nn 0 w0)) (own_z nn 1 w1)) <<< ((8 : Int32) &&& 0x3f).toInt64))])) (fun t k => own_len X0 hx hZ e0 A_a1 (n := nn) hnn (g := (mkF m 16 #[.val (.ref a1), .val (.long (own_acc (own_acc (0 : Int64) (own_z nn 0 w0)) (own_z nn 1 w1))), .second, .val (.int (2 : Int32))] [(.ref a1), (.int (2 : Int32)), (.long ((own_acc (own_acc (0 : Int64) (own_z nn 0 w0)) (own_z nn 1 w1)) <<< ((8 : Int32) &&& 0x3f).toInt64))])) rfl rfl (hb hby own_d2_16) _ k) ?_
      have J103 : ∀ z2 : Int32, z2 = own_z nn 2 w2 → own_Fin p e below (own_P (own_rm2_Q Z a1 LL nn w0 w1 w2 w3 w4 w5 w6 w7 h0 n0) s ({ frames := 0, cells := 0, slots := 0, locals := 0 } : Room).cells ({ frames := 0, cells := 0, slots := 0, locals := 0 } : Room).slots) (s₁.setTop (mkF m 31 #[.val (.ref a1), .val (.long (own_acc (own_acc (0 : Int64) (own_z nn 0 w0)) (own_z nn 1 w1))), .second, .val (.int (2 : Int32))] [(.int z2), (.long ((own_acc (own_acc (0 : Int64) (own_z nn 0 w0)) (own_z nn 1 w1)) <<< ((8 : Int32) &&& 0x3f).toInt64))])) := by
        intro z2 hz2
        refine own_via (g' := s₁.setTop (mkF m 32 #[.val (.ref a1), .val (.long (own_acc (own_acc (0 : Int64) (own_z nn 0 w0)) (own_z nn 1 w1))), .second, .val (.int (2 : Int32))] [(.long (z2.toInt64)), (.long ((own_acc (own_acc (0 : Int64) (own_z nn 0 w0)) (own_z nn 1 w1)) <<< ((8 : Int32) &&& 0x3f).toInt64))])) (fun t k => XT.i2l X0.here hx rfl (hb hby own_d2_31) rfl k) ?_
        refine own_via (g' := s₁.setTop (mkF m 33 #[.val (.ref a1), .val (.long (own_acc (own_acc (0 : Int64) (own_z nn 0 w0)) (own_z nn 1 w1))), .second, .val (.int (2 : Int32))] [(.long (((own_acc (own_acc (0 : Int64) (own_z nn 0 w0)) (own_z nn 1 w1)) <<< ((8 : Int32) &&& 0x3f).toInt64) ||| (z2.toInt64)))])) (fun t k => XT.lor X0.here hx rfl (hb hby own_d2_32) rfl k) ?_
        rw [hz2]
        show own_Fin p e below _ (s₁.setTop (mkF m 33 #[.val (.ref a1), .val (.long (own_acc (own_acc (0 : Int64) (own_z nn 0 w0)) (own_z nn 1 w1))), .second, .val (.int (2 : Int32))] [(.long (own_acc (own_acc (own_acc (0 : Int64) (own_z nn 0 w0)) (own_z nn 1 w1)) (own_z nn 2 w2)))]))
        refine own_via (g' := s₁.setTop (mkF m 34 #[.val (.ref a1), .val (.long (own_acc (own_acc (own_acc (0 : Int64) (own_z nn 0 w0)) (own_z nn 1 w1)) (own_z nn 2 w2))), .second, .val (.int (2 : Int32))] [])) (fun t k => XT.lstoreN X0.here hx rfl (hb hby own_d2_33) rfl (l' := #[.val (.ref a1), .val (.long (own_acc (own_acc (own_acc (0 : Int64) (own_z nn 0 w0)) (own_z nn 1 w1)) (own_z nn 2 w2))), .second, .val (.int (2 : Int32))]) rfl k) ?_
        refine own_via (g' := s₁.setTop (mkF m 37 #[.val (.ref a1), .val (.long (own_acc (own_acc (own_acc (0 : Int64) (own_z nn 0 w0)) (own_z nn 1 w1)) (own_z nn 2 w2))), .second, .val (.int (3 : Int32))] [])) (fun t k => XS.iinc X0.here hx rfl (hb hby own_d2_34) rfl (l' := #[.val (.ref a1), .val (.long (own_acc (own_acc (own_acc (0 : Int64) (own_z nn 0 w0)) (own_z nn 1 w1)) (own_z nn 2 w2))), .second, .val (.int (3 : Int32))]) rfl k) ?_
        refine own_via (g' := s₁.setTop (mkF m 4 #[.val (.ref a1), .val (.long (own_acc (own_acc (own_acc (0 : Int64) (own_z nn 0 w0)) (own_z nn 1 w1)) (own_z nn 2 w2))), .second, .val (.int (3 : Int32))] [])) (fun t k => XS.goto X0.here hx rfl (pc0 := 37) (pc' := 4) rfl (hb hby own_d2_37) (by decide) (by decide) k) ?_
        refine own_via (g' := s₁.setTop (mkF m 5 #[.val (.ref a1), .val (.long (own_acc (own_acc (own_acc (0 : Int64) (own_z nn 0 w0)) (own_z nn 1 w1)) (own_z nn 2 w2))), .second, .val (.int (3 : Int32))] [(.int (3 : Int32))])) (fun t k => XS.iloadN X0.here hx rfl (hb hby own_d2_4) rfl k) ?_
        refine own_via (g' := s₁.setTop (mkF m 7 #[.val (.ref a1), .val (.long (own_acc (own_acc (own_acc (0 : Int64) (own_z nn 0 w0)) (own_z nn 1 w1)) (own_z nn 2 w2))), .second, .val (.int (3 : Int32))] [(.int (8 : Int32)), (.int (3 : Int32))])) (fun t k => XS.bipush X0.here hx rfl (hb hby own_d2_5) k) ?_
        refine own_via (g' := s₁.setTop (mkF m 10 #[.val (.ref a1), .val (.long (own_acc (own_acc (own_acc (0 : Int64) (own_z nn 0 w0)) (own_z nn 1 w1)) (own_z nn 2 w2))), .second, .val (.int (3 : Int32))] [])) (fun t k => XS.icmpNo X0.here hx rfl (hb hby own_d2_7) rfl (XT.ii_ge_f (by decide)) k) ?_
        refine own_via (g' := s₁.setTop (mkF m 11 #[.val (.ref a1), .val (.long (own_acc (own_acc (own_acc (0 : Int64) (own_z nn 0 w0)) (own_z nn 1 w1)) (own_z nn 2 w2))), .second, .val (.int (3 : Int32))] [(.long (own_acc (own_acc (own_acc (0 : Int64) (own_z nn 0 w0)) (own_z nn 1 w1)) (own_z nn 2 w2)))])) (fun t k => XT.lloadN X0.here hx rfl (hb hby own_d2_10) rfl k) ?_
        refine own_via (g' := s₁.setTop (mkF m 13 #[.val (.ref a1), .val (.long (own_acc (own_acc (own_acc (0 : Int64) (own_z nn 0 w0)) (own_z nn 1 w1)) (own_z nn 2 w2))), .second, .val (.int (3 : Int32))] [(.int (8 : Int32)), (.long (own_acc (own_acc (own_acc (0 : Int64) (own_z nn 0 w0)) (own_z nn 1 w1)) (own_z nn 2 w2)))])) (fun t k => XS.bipush X0.here hx rfl (hb hby own_d2_11) k) ?_
        refine own_via (g' := s₁.setTop (mkF m 14 #[.val (.ref a1), .val (.long (own_acc (own_acc (own_acc (0 : Int64) (own_z nn 0 w0)) (own_z nn 1 w1)) (own_z nn 2 w2))), .second, .val (.int (3 : Int32))] [(.long ((own_acc (own_acc (own_acc (0 : Int64) (own_z nn 0 w0)) (own_z nn 1 w1)) (own_z nn 2 w2)) <<< ((8 : Int32) &&& 0x3f).toInt64))])) (fun t k => XS.lshl X0.here hx rfl (hb hby own_d2_13) rfl k) ?_
        refine own_via (g' := s₁.setTop (mkF m 15 #[.val (.ref a1), .val (.long (own_acc (own_acc (own_acc (0 : Int64) (own_z nn 0 w0)) (own_z nn 1 w1)) (own_z nn 2 w2))), .second, .val (.int (3 : Int32))] [(.int (3 : Int32)), (.long ((own_acc (own_acc (own_acc (0 : Int64) (own_z nn 0 w0)) (own_z nn 1 w1)) (own_z nn 2 w2)) <<< ((8 : Int32) &&& 0x3f).toInt64))])) (fun t k => XS.iloadN X0.here hx rfl (hb hby own_d2_14) rfl k) ?_
        refine own_via (g' := s₁.setTop (mkF m 16 #[.val (.ref a1), .val (.long (own_acc (own_acc (own_acc (0 : Int64) (own_z nn 0 w0)) (own_z nn 1 w1)) (own_z nn 2 w2))), .second, .val (.int (3 : Int32))] [(.ref a1), (.int (3 : Int32)), (.long ((own_acc (own_acc (own_acc (0 : Int64) (own_z nn 0 w0)) (own_z nn 1 w1)) (own_z nn 2 w2)) <<< ((8 : Int32) &&& 0x3f).toInt64))])) (fun t k => XS.aloadN X0.here hx rfl (hb hby own_d2_15) rfl (rfl) k) ?_
        refine own_via (g' := s₁.setTop (mkF m 17 #[.val (.ref a1), .val (.long (own_acc (own_acc (own_acc (0 : Int64) (own_z nn 0 w0)) (own_z nn 1 w1)) (own_z nn 2 w2))), .second, .val (.int (3 : Int32))] [(.int nn), (.int (3 : Int32)), (.long ((own_acc (own_acc (own_acc (0 : Int64) (own_z nn 0 w0)) (own_z nn 1 w1)) (own_z nn 2 w2)) <<< ((8 : Int32) &&& 0x3f).toInt64))])) (fun t k => own_len X0 hx hZ e0 A_a1 (n := nn) hnn (g := (mkF m 16 #[.val (.ref a1), .val (.long (own_acc (own_acc (own_acc (0 : Int64) (own_z nn 0 w0)) (own_z nn 1 w1)) (own_z nn 2 w2))), .second, .val (.int (3 : Int32))] [(.ref a1), (.int (3 : Int32)), (.long ((own_acc (own_acc (own_acc (0 : Int64) (own_z nn 0 w0)) (own_z nn 1 w1)) (own_z nn 2 w2)) <<< ((8 : Int32) &&& 0x3f).toInt64))])) rfl rfl (hb hby own_d2_16) _ k) ?_
        have J104 : ∀ z3 : Int32, z3 = own_z nn 3 w3 → own_Fin p e below (own_P (own_rm2_Q Z a1 LL nn w0 w1 w2 w3 w4 w5 w6 w7 h0 n0) s ({ frames := 0, cells := 0, slots := 0, locals := 0 } : Room).cells ({ frames := 0, cells := 0, slots := 0, locals := 0 } : Room).slots) (s₁.setTop (mkF m 31 #[.val (.ref a1), .val (.long (own_acc (own_acc (own_acc (0 : Int64) (own_z nn 0 w0)) (own_z nn 1 w1)) (own_z nn 2 w2))), .second, .val (.int (3 : Int32))] [(.int z3), (.long ((own_acc (own_acc (own_acc (0 : Int64) (own_z nn 0 w0)) (own_z nn 1 w1)) (own_z nn 2 w2)) <<< ((8 : Int32) &&& 0x3f).toInt64))])) := by
          intro z3 hz3
          refine own_via (g' := s₁.setTop (mkF m 32 #[.val (.ref a1), .val (.long (own_acc (own_acc (own_acc (0 : Int64) (own_z nn 0 w0)) (own_z nn 1 w1)) (own_z nn 2 w2))), .second, .val (.int (3 : Int32))] [(.long (z3.toInt64)), (.long ((own_acc (own_acc (own_acc (0 : Int64) (own_z nn 0 w0)) (own_z nn 1 w1)) (own_z nn 2 w2)) <<< ((8 : Int32) &&& 0x3f).toInt64))])) (fun t k => XT.i2l X0.here hx rfl (hb hby own_d2_31) rfl k) ?_
          refine own_via (g' := s₁.setTop (mkF m 33 #[.val (.ref a1), .val (.long (own_acc (own_acc (own_acc (0 : Int64) (own_z nn 0 w0)) (own_z nn 1 w1)) (own_z nn 2 w2))), .second, .val (.int (3 : Int32))] [(.long (((own_acc (own_acc (own_acc (0 : Int64) (own_z nn 0 w0)) (own_z nn 1 w1)) (own_z nn 2 w2)) <<< ((8 : Int32) &&& 0x3f).toInt64) ||| (z3.toInt64)))])) (fun t k => XT.lor X0.here hx rfl (hb hby own_d2_32) rfl k) ?_
          rw [hz3]
          show own_Fin p e below _ (s₁.setTop (mkF m 33 #[.val (.ref a1), .val (.long (own_acc (own_acc (own_acc (0 : Int64) (own_z nn 0 w0)) (own_z nn 1 w1)) (own_z nn 2 w2))), .second, .val (.int (3 : Int32))] [(.long (own_acc (own_acc (own_acc (own_acc (0 : Int64) (own_z nn 0 w0)) (own_z nn 1 w1)) (own_z nn 2 w2)) (own_z nn 3 w3)))]))
          refine own_via (g' := s₁.setTop (mkF m 34 #[.val (.ref a1), .val (.long (own_acc (own_acc (own_acc (own_acc (0 : Int64) (own_z nn 0 w0)) (own_z nn 1 w1)) (own_z nn 2 w2)) (own_z nn 3 w3))), .second, .val (.int (3 : Int32))] [])) (fun t k => XT.lstoreN X0.here hx rfl (hb hby own_d2_33) rfl (l' := #[.val (.ref a1), .val (.long (own_acc (own_acc (own_acc (own_acc (0 : Int64) (own_z nn 0 w0)) (own_z nn 1 w1)) (own_z nn 2 w2)) (own_z nn 3 w3))), .second, .val (.int (3 : Int32))]) rfl k) ?_
          refine own_via (g' := s₁.setTop (mkF m 37 #[.val (.ref a1), .val (.long (own_acc (own_acc (own_acc (own_acc (0 : Int64) (own_z nn 0 w0)) (own_z nn 1 w1)) (own_z nn 2 w2)) (own_z nn 3 w3))), .second, .val (.int (4 : Int32))] [])) (fun t k => XS.iinc X0.here hx rfl (hb hby own_d2_34) rfl (l' := #[.val (.ref a1), .val (.long (own_acc (own_acc (own_acc (own_acc (0 : Int64) (own_z nn 0 w0)) (own_z nn 1 w1)) (own_z nn 2 w2)) (own_z nn 3 w3))), .second, .val (.int (4 : Int32))]) rfl k) ?_
          refine own_via (g' := s₁.setTop (mkF m 4 #[.val (.ref a1), .val (.long (own_acc (own_acc (own_acc (own_acc (0 : Int64) (own_z nn 0 w0)) (own_z nn 1 w1)) (own_z nn 2 w2)) (own_z nn 3 w3))), .second, .val (.int (4 : Int32))] [])) (fun t k => XS.goto X0.here hx rfl (pc0 := 37) (pc' := 4) rfl (hb hby own_d2_37) (by decide) (by decide) k) ?_
          refine own_via (g' := s₁.setTop (mkF m 5 #[.val (.ref a1), .val (.long (own_acc (own_acc (own_acc (own_acc (0 : Int64) (own_z nn 0 w0)) (own_z nn 1 w1)) (own_z nn 2 w2)) (own_z nn 3 w3))), .second, .val (.int (4 : Int32))] [(.int (4 : Int32))])) (fun t k => XS.iloadN X0.here hx rfl (hb hby own_d2_4) rfl k) ?_
          refine own_via (g' := s₁.setTop (mkF m 7 #[.val (.ref a1), .val (.long (own_acc (own_acc (own_acc (own_acc (0 : Int64) (own_z nn 0 w0)) (own_z nn 1 w1)) (own_z nn 2 w2)) (own_z nn 3 w3))), .second, .val (.int (4 : Int32))] [(.int (8 : Int32)), (.int (4 : Int32))])) (fun t k => XS.bipush X0.here hx rfl (hb hby own_d2_5) k) ?_
          refine own_via (g' := s₁.setTop (mkF m 10 #[.val (.ref a1), .val (.long (own_acc (own_acc (own_acc (own_acc (0 : Int64) (own_z nn 0 w0)) (own_z nn 1 w1)) (own_z nn 2 w2)) (own_z nn 3 w3))), .second, .val (.int (4 : Int32))] [])) (fun t k => XS.icmpNo X0.here hx rfl (hb hby own_d2_7) rfl (XT.ii_ge_f (by decide)) k) ?_
          refine own_via (g' := s₁.setTop (mkF m 11 #[.val (.ref a1), .val (.long (own_acc (own_acc (own_acc (own_acc (0 : Int64) (own_z nn 0 w0)) (own_z nn 1 w1)) (own_z nn 2 w2)) (own_z nn 3 w3))), .second, .val (.int (4 : Int32))] [(.long (own_acc (own_acc (own_acc (own_acc (0 : Int64) (own_z nn 0 w0)) (own_z nn 1 w1)) (own_z nn 2 w2)) (own_z nn 3 w3)))])) (fun t k => XT.lloadN X0.here hx rfl (hb hby own_d2_10) rfl k) ?_
          refine own_via (g' := s₁.setTop (mkF m 13 #[.val (.ref a1), .val (.long (own_acc (own_acc (own_acc (own_acc (0 : Int64) (own_z nn 0 w0)) (own_z nn 1 w1)) (own_z nn 2 w2)) (own_z nn 3 w3))), .second, .val (.int (4 : Int32))] [(.int (8 : Int32)), (.long (own_acc (own_acc (own_acc (own_acc (0 : Int64) (own_z nn 0 w0)) (own_z nn 1 w1)) (own_z nn 2 w2)) (own_z nn 3 w3)))])) (fun t k => XS.bipush X0.here hx rfl (hb hby own_d2_11) k) ?_
          refine own_via (g' := s₁.setTop (mkF m 14 #[.val (.ref a1), .val (.long (own_acc (own_acc (own_acc (own_acc (0 : Int64) (own_z nn 0 w0)) (own_z nn 1 w1)) (own_z nn 2 w2)) (own_z nn 3 w3))), .second, .val (.int (4 : Int32))] [(.long ((own_acc (own_acc (own_acc (own_acc (0 : Int64) (own_z nn 0 w0)) (own_z nn 1 w1)) (own_z nn 2 w2)) (own_z nn 3 w3)) <<< ((8 : Int32) &&& 0x3f).toInt64))])) (fun t k => XS.lshl X0.here hx rfl (hb hby own_d2_13) rfl k) ?_
          refine own_via (g' := s₁.setTop (mkF m 15 #[.val (.ref a1), .val (.long (own_acc (own_acc (own_acc (own_acc (0 : Int64) (own_z nn 0 w0)) (own_z nn 1 w1)) (own_z nn 2 w2)) (own_z nn 3 w3))), .second, .val (.int (4 : Int32))] [(.int (4 : Int32)), (.long ((own_acc (own_acc (own_acc (own_acc (0 : Int64) (own_z nn 0 w0)) (own_z nn 1 w1)) (own_z nn 2 w2)) (own_z nn 3 w3)) <<< ((8 : Int32) &&& 0x3f).toInt64))])) (fun t k => XS.iloadN X0.here hx rfl (hb hby own_d2_14) rfl k) ?_
          refine own_via (g' := s₁.setTop (mkF m 16 #[.val (.ref a1), .val (.long (own_acc (own_acc (own_acc (own_acc (0 : Int64) (own_z nn 0 w0)) (own_z nn 1 w1)) (own_z nn 2 w2)) (own_z nn 3 w3))), .second, .val (.int (4 : Int32))] [(.ref a1), (.int (4 : Int32)), (.long ((own_acc (own_acc (own_acc (own_acc (0 : Int64) (own_z nn 0 w0)) (own_z nn 1 w1)) (own_z nn 2 w2)) (own_z nn 3 w3)) <<< ((8 : Int32) &&& 0x3f).toInt64))])) (fun t k => XS.aloadN X0.here hx rfl (hb hby own_d2_15) rfl (rfl) k) ?_
          refine own_via (g' := s₁.setTop (mkF m 17 #[.val (.ref a1), .val (.long (own_acc (own_acc (own_acc (own_acc (0 : Int64) (own_z nn 0 w0)) (own_z nn 1 w1)) (own_z nn 2 w2)) (own_z nn 3 w3))), .second, .val (.int (4 : Int32))] [(.int nn), (.int (4 : Int32)), (.long ((own_acc (own_acc (own_acc (own_acc (0 : Int64) (own_z nn 0 w0)) (own_z nn 1 w1)) (own_z nn 2 w2)) (own_z nn 3 w3)) <<< ((8 : Int32) &&& 0x3f).toInt64))])) (fun t k => own_len X0 hx hZ e0 A_a1 (n := nn) hnn (g := (mkF m 16 #[.val (.ref a1), .val (.long (own_acc (own_acc (own_acc (own_acc (0 : Int64) (own_z nn 0 w0)) (own_z nn 1 w1)) (own_z nn 2 w2)) (own_z nn 3 w3))), .second, .val (.int (4 : Int32))] [(.ref a1), (.int (4 : Int32)), (.long ((own_acc (own_acc (own_acc (own_acc (0 : Int64) (own_z nn 0 w0)) (own_z nn 1 w1)) (own_z nn 2 w2)) (own_z nn 3 w3)) <<< ((8 : Int32) &&& 0x3f).toInt64))])) rfl rfl (hb hby own_d2_16) _ k) ?_
          have J105 : ∀ z4 : Int32, z4 = own_z nn 4 w4 → own_Fin p e below (own_P (own_rm2_Q Z a1 LL nn w0 w1 w2 w3 w4 w5 w6 w7 h0 n0) s ({ frames := 0, cells := 0, slots := 0, locals := 0 } : Room).cells ({ frames := 0, cells := 0, slots := 0, locals := 0 } : Room).slots) (s₁.setTop (mkF m 31 #[.val (.ref a1), .val (.long (own_acc (own_acc (own_acc (own_acc (0 : Int64) (own_z nn 0 w0)) (own_z nn 1 w1)) (own_z nn 2 w2)) (own_z nn 3 w3))), .second, .val (.int (4 : Int32))] [(.int z4), (.long ((own_acc (own_acc (own_acc (own_acc (0 : Int64) (own_z nn 0 w0)) (own_z nn 1 w1)) (own_z nn 2 w2)) (own_z nn 3 w3)) <<< ((8 : Int32) &&& 0x3f).toInt64))])) := by
            intro z4 hz4
            refine own_via (g' := s₁.setTop (mkF m 32 #[.val (.ref a1), .val (.long (own_acc (own_acc (own_acc (own_acc (0 : Int64) (own_z nn 0 w0)) (own_z nn 1 w1)) (own_z nn 2 w2)) (own_z nn 3 w3))), .second, .val (.int (4 : Int32))] [(.long (z4.toInt64)), (.long ((own_acc (own_acc (own_acc (own_acc (0 : Int64) (own_z nn 0 w0)) (own_z nn 1 w1)) (own_z nn 2 w2)) (own_z nn 3 w3)) <<< ((8 : Int32) &&& 0x3f).toInt64))])) (fun t k => XT.i2l X0.here hx rfl (hb hby own_d2_31) rfl k) ?_
            refine own_via (g' := s₁.setTop (mkF m 33 #[.val (.ref a1), .val (.long (own_acc (own_acc (own_acc (own_acc (0 : Int64) (own_z nn 0 w0)) (own_z nn 1 w1)) (own_z nn 2 w2)) (own_z nn 3 w3))), .second, .val (.int (4 : Int32))] [(.long (((own_acc (own_acc (own_acc (own_acc (0 : Int64) (own_z nn 0 w0)) (own_z nn 1 w1)) (own_z nn 2 w2)) (own_z nn 3 w3)) <<< ((8 : Int32) &&& 0x3f).toInt64) ||| (z4.toInt64)))])) (fun t k => XT.lor X0.here hx rfl (hb hby own_d2_32) rfl k) ?_
            rw [hz4]
            show own_Fin p e below _ (s₁.setTop (mkF m 33 #[.val (.ref a1), .val (.long (own_acc (own_acc (own_acc (own_acc (0 : Int64) (own_z nn 0 w0)) (own_z nn 1 w1)) (own_z nn 2 w2)) (own_z nn 3 w3))), .second, .val (.int (4 : Int32))] [(.long (own_acc (own_acc (own_acc (own_acc (own_acc (0 : Int64) (own_z nn 0 w0)) (own_z nn 1 w1)) (own_z nn 2 w2)) (own_z nn 3 w3)) (own_z nn 4 w4)))]))
            refine own_via (g' := s₁.setTop (mkF m 34 #[.val (.ref a1), .val (.long (own_acc (own_acc (own_acc (own_acc (own_acc (0 : Int64) (own_z nn 0 w0)) (own_z nn 1 w1)) (own_z nn 2 w2)) (own_z nn 3 w3)) (own_z nn 4 w4))), .second, .val (.int (4 : Int32))] [])) (fun t k => XT.lstoreN X0.here hx rfl (hb hby own_d2_33) rfl (l' := #[.val (.ref a1), .val (.long (own_acc (own_acc (own_acc (own_acc (own_acc (0 : Int64) (own_z nn 0 w0)) (own_z nn 1 w1)) (own_z nn 2 w2)) (own_z nn 3 w3)) (own_z nn 4 w4))), .second, .val (.int (4 : Int32))]) rfl k) ?_
            refine own_via (g' := s₁.setTop (mkF m 37 #[.val (.ref a1), .val (.long (own_acc (own_acc (own_acc (own_acc (own_acc (0 : Int64) (own_z nn 0 w0)) (own_z nn 1 w1)) (own_z nn 2 w2)) (own_z nn 3 w3)) (own_z nn 4 w4))), .second, .val (.int (5 : Int32))] [])) (fun t k => XS.iinc X0.here hx rfl (hb hby own_d2_34) rfl (l' := #[.val (.ref a1), .val (.long (own_acc (own_acc (own_acc (own_acc (own_acc (0 : Int64) (own_z nn 0 w0)) (own_z nn 1 w1)) (own_z nn 2 w2)) (own_z nn 3 w3)) (own_z nn 4 w4))), .second, .val (.int (5 : Int32))]) rfl k) ?_
            refine own_via (g' := s₁.setTop (mkF m 4 #[.val (.ref a1), .val (.long (own_acc (own_acc (own_acc (own_acc (own_acc (0 : Int64) (own_z nn 0 w0)) (own_z nn 1 w1)) (own_z nn 2 w2)) (own_z nn 3 w3)) (own_z nn 4 w4))), .second, .val (.int (5 : Int32))] [])) (fun t k => XS.goto X0.here hx rfl (pc0 := 37) (pc' := 4) rfl (hb hby own_d2_37) (by decide) (by decide) k) ?_
            refine own_via (g' := s₁.setTop (mkF m 5 #[.val (.ref a1), .val (.long (own_acc (own_acc (own_acc (own_acc (own_acc (0 : Int64) (own_z nn 0 w0)) (own_z nn 1 w1)) (own_z nn 2 w2)) (own_z nn 3 w3)) (own_z nn 4 w4))), .second, .val (.int (5 : Int32))] [(.int (5 : Int32))])) (fun t k => XS.iloadN X0.here hx rfl (hb hby own_d2_4) rfl k) ?_
            refine own_via (g' := s₁.setTop (mkF m 7 #[.val (.ref a1), .val (.long (own_acc (own_acc (own_acc (own_acc (own_acc (0 : Int64) (own_z nn 0 w0)) (own_z nn 1 w1)) (own_z nn 2 w2)) (own_z nn 3 w3)) (own_z nn 4 w4))), .second, .val (.int (5 : Int32))] [(.int (8 : Int32)), (.int (5 : Int32))])) (fun t k => XS.bipush X0.here hx rfl (hb hby own_d2_5) k) ?_
            refine own_via (g' := s₁.setTop (mkF m 10 #[.val (.ref a1), .val (.long (own_acc (own_acc (own_acc (own_acc (own_acc (0 : Int64) (own_z nn 0 w0)) (own_z nn 1 w1)) (own_z nn 2 w2)) (own_z nn 3 w3)) (own_z nn 4 w4))), .second, .val (.int (5 : Int32))] [])) (fun t k => XS.icmpNo X0.here hx rfl (hb hby own_d2_7) rfl (XT.ii_ge_f (by decide)) k) ?_
            refine own_via (g' := s₁.setTop (mkF m 11 #[.val (.ref a1), .val (.long (own_acc (own_acc (own_acc (own_acc (own_acc (0 : Int64) (own_z nn 0 w0)) (own_z nn 1 w1)) (own_z nn 2 w2)) (own_z nn 3 w3)) (own_z nn 4 w4))), .second, .val (.int (5 : Int32))] [(.long (own_acc (own_acc (own_acc (own_acc (own_acc (0 : Int64) (own_z nn 0 w0)) (own_z nn 1 w1)) (own_z nn 2 w2)) (own_z nn 3 w3)) (own_z nn 4 w4)))])) (fun t k => XT.lloadN X0.here hx rfl (hb hby own_d2_10) rfl k) ?_
            refine own_via (g' := s₁.setTop (mkF m 13 #[.val (.ref a1), .val (.long (own_acc (own_acc (own_acc (own_acc (own_acc (0 : Int64) (own_z nn 0 w0)) (own_z nn 1 w1)) (own_z nn 2 w2)) (own_z nn 3 w3)) (own_z nn 4 w4))), .second, .val (.int (5 : Int32))] [(.int (8 : Int32)), (.long (own_acc (own_acc (own_acc (own_acc (own_acc (0 : Int64) (own_z nn 0 w0)) (own_z nn 1 w1)) (own_z nn 2 w2)) (own_z nn 3 w3)) (own_z nn 4 w4)))])) (fun t k => XS.bipush X0.here hx rfl (hb hby own_d2_11) k) ?_
            refine own_via (g' := s₁.setTop (mkF m 14 #[.val (.ref a1), .val (.long (own_acc (own_acc (own_acc (own_acc (own_acc (0 : Int64) (own_z nn 0 w0)) (own_z nn 1 w1)) (own_z nn 2 w2)) (own_z nn 3 w3)) (own_z nn 4 w4))), .second, .val (.int (5 : Int32))] [(.long ((own_acc (own_acc (own_acc (own_acc (own_acc (0 : Int64) (own_z nn 0 w0)) (own_z nn 1 w1)) (own_z nn 2 w2)) (own_z nn 3 w3)) (own_z nn 4 w4)) <<< ((8 : Int32) &&& 0x3f).toInt64))])) (fun t k => XS.lshl X0.here hx rfl (hb hby own_d2_13) rfl k) ?_
            refine own_via (g' := s₁.setTop (mkF m 15 #[.val (.ref a1), .val (.long (own_acc (own_acc (own_acc (own_acc (own_acc (0 : Int64) (own_z nn 0 w0)) (own_z nn 1 w1)) (own_z nn 2 w2)) (own_z nn 3 w3)) (own_z nn 4 w4))), .second, .val (.int (5 : Int32))] [(.int (5 : Int32)), (.long ((own_acc (own_acc (own_acc (own_acc (own_acc (0 : Int64) (own_z nn 0 w0)) (own_z nn 1 w1)) (own_z nn 2 w2)) (own_z nn 3 w3)) (own_z nn 4 w4)) <<< ((8 : Int32) &&& 0x3f).toInt64))])) (fun t k => XS.iloadN X0.here hx rfl (hb hby own_d2_14) rfl k) ?_
            refine own_via (g' := s₁.setTop (mkF m 16 #[.val (.ref a1), .val (.long (own_acc (own_acc (own_acc (own_acc (own_acc (0 : Int64) (own_z nn 0 w0)) (own_z nn 1 w1)) (own_z nn 2 w2)) (own_z nn 3 w3)) (own_z nn 4 w4))), .second, .val (.int (5 : Int32))] [(.ref a1), (.int (5 : Int32)), (.long ((own_acc (own_acc (own_acc (own_acc (own_acc (0 : Int64) (own_z nn 0 w0)) (own_z nn 1 w1)) (own_z nn 2 w2)) (own_z nn 3 w3)) (own_z nn 4 w4)) <<< ((8 : Int32) &&& 0x3f).toInt64))])) (fun t k => XS.aloadN X0.here hx rfl (hb hby own_d2_15) rfl (rfl) k) ?_
            refine own_via (g' := s₁.setTop (mkF m 17 #[.val (.ref a1), .val (.long (own_acc (own_acc (own_acc (own_acc (own_acc (0 : Int64) (own_z nn 0 w0)) (own_z nn 1 w1)) (own_z nn 2 w2)) (own_z nn 3 w3)) (own_z nn 4 w4))), .second, .val (.int (5 : Int32))] [(.int nn), (.int (5 : Int32)), (.long ((own_acc (own_acc (own_acc (own_acc (own_acc (0 : Int64) (own_z nn 0 w0)) (own_z nn 1 w1)) (own_z nn 2 w2)) (own_z nn 3 w3)) (own_z nn 4 w4)) <<< ((8 : Int32) &&& 0x3f).toInt64))])) (fun t k => own_len X0 hx hZ e0 A_a1 (n := nn) hnn (g := (mkF m 16 #[.val (.ref a1), .val (.long (own_acc (own_acc (own_acc (own_acc (own_acc (0 : Int64) (own_z nn 0 w0)) (own_z nn 1 w1)) (own_z nn 2 w2)) (own_z nn 3 w3)) (own_z nn 4 w4))), .second, .val (.int (5 : Int32))] [(.ref a1), (.int (5 : Int32)), (.long ((own_acc (own_acc (own_acc (own_acc (own_acc (0 : Int64) (own_z nn 0 w0)) (own_z nn 1 w1)) (own_z nn 2 w2)) (own_z nn 3 w3)) (own_z nn 4 w4)) <<< ((8 : Int32) &&& 0x3f).toInt64))])) rfl rfl (hb hby own_d2_16) _ k) ?_
            have J106 : ∀ z5 : Int32, z5 = own_z nn 5 w5 → own_Fin p e below (own_P (own_rm2_Q Z a1 LL nn w0 w1 w2 w3 w4 w5 w6 w7 h0 n0) s ({ frames := 0, cells := 0, slots := 0, locals := 0 } : Room).cells ({ frames := 0, cells := 0, slots := 0, locals := 0 } : Room).slots) (s₁.setTop (mkF m 31 #[.val (.ref a1), .val (.long (own_acc (own_acc (own_acc (own_acc (own_acc (0 : Int64) (own_z nn 0 w0)) (own_z nn 1 w1)) (own_z nn 2 w2)) (own_z nn 3 w3)) (own_z nn 4 w4))), .second, .val (.int (5 : Int32))] [(.int z5), (.long ((own_acc (own_acc (own_acc (own_acc (own_acc (0 : Int64) (own_z nn 0 w0)) (own_z nn 1 w1)) (own_z nn 2 w2)) (own_z nn 3 w3)) (own_z nn 4 w4)) <<< ((8 : Int32) &&& 0x3f).toInt64))])) := by
              intro z5 hz5
              refine own_via (g' := s₁.setTop (mkF m 32 #[.val (.ref a1), .val (.long (own_acc (own_acc (own_acc (own_acc (own_acc (0 : Int64) (own_z nn 0 w0)) (own_z nn 1 w1)) (own_z nn 2 w2)) (own_z nn 3 w3)) (own_z nn 4 w4))), .second, .val (.int (5 : Int32))] [(.long (z5.toInt64)), (.long ((own_acc (own_acc (own_acc (own_acc (own_acc (0 : Int64) (own_z nn 0 w0)) (own_z nn 1 w1)) (own_z nn 2 w2)) (own_z nn 3 w3)) (own_z nn 4 w4)) <<< ((8 : Int32) &&& 0x3f).toInt64))])) (fun t k => XT.i2l X0.here hx rfl (hb hby own_d2_31) rfl k) ?_
              refine own_via (g' := s₁.setTop (mkF m 33 #[.val (.ref a1), .val (.long (own_acc (own_acc (own_acc (own_acc (own_acc (0 : Int64) (own_z nn 0 w0)) (own_z nn 1 w1)) (own_z nn 2 w2)) (own_z nn 3 w3)) (own_z nn 4 w4))), .second, .val (.int (5 : Int32))] [(.long (((own_acc (own_acc (own_acc (own_acc (own_acc (0 : Int64) (own_z nn 0 w0)) (own_z nn 1 w1)) (own_z nn 2 w2)) (own_z nn 3 w3)) (own_z nn 4 w4)) <<< ((8 : Int32) &&& 0x3f).toInt64) ||| (z5.toInt64)))])) (fun t k => XT.lor X0.here hx rfl (hb hby own_d2_32) rfl k) ?_
              rw [hz5]
              show own_Fin p e below _ (s₁.setTop (mkF m 33 #[.val (.ref a1), .val (.long (own_acc (own_acc (own_acc (own_acc (own_acc (0 : Int64) (own_z nn 0 w0)) (own_z nn 1 w1)) (own_z nn 2 w2)) (own_z nn 3 w3)) (own_z nn 4 w4))), .second, .val (.int (5 : Int32))] [(.long (own_acc (own_acc (own_acc (own_acc (own_acc (own_acc (0 : Int64) (own_z nn 0 w0)) (own_z nn 1 w1)) (own_z nn 2 w2)) (own_z nn 3 w3)) (own_z nn 4 w4)) (own_z nn 5 w5)))]))
              refine own_via (g' := s₁.setTop (mkF m 34 #[.val (.ref a1), .val (.long (own_acc (own_acc (own_acc (own_acc (own_acc (own_acc (0 : Int64) (own_z nn 0 w0)) (own_z nn 1 w1)) (own_z nn 2 w2)) (own_z nn 3 w3)) (own_z nn 4 w4)) (own_z nn 5 w5))), .second, .val (.int (5 : Int32))] [])) (fun t k => XT.lstoreN X0.here hx rfl (hb hby own_d2_33) rfl (l' := #[.val (.ref a1), .val (.long (own_acc (own_acc (own_acc (own_acc (own_acc (own_acc (0 : Int64) (own_z nn 0 w0)) (own_z nn 1 w1)) (own_z nn 2 w2)) (own_z nn 3 w3)) (own_z nn 4 w4)) (own_z nn 5 w5))), .second, .val (.int (5 : Int32))]) rfl k) ?_
              refine own_via (g' := s₁.setTop (mkF m 37 #[.val (.ref a1), .val (.long (own_acc (own_acc (own_acc (own_acc (own_acc (own_acc (0 : Int64) (own_z nn 0 w0)) (own_z nn 1 w1)) (own_z nn 2 w2)) (own_z nn 3 w3)) (own_z nn 4 w4)) (own_z nn 5 w5))), .second, .val (.int (6 : Int32))] [])) (fun t k => XS.iinc X0.here hx rfl (hb hby own_d2_34) rfl (l' := #[.val (.ref a1), .val (.long (own_acc (own_acc (own_acc (own_acc (own_acc (own_acc (0 : Int64) (own_z nn 0 w0)) (own_z nn 1 w1)) (own_z nn 2 w2)) (own_z nn 3 w3)) (own_z nn 4 w4)) (own_z nn 5 w5))), .second, .val (.int (6 : Int32))]) rfl k) ?_
              refine own_via (g' := s₁.setTop (mkF m 4 #[.val (.ref a1), .val (.long (own_acc (own_acc (own_acc (own_acc (own_acc (own_acc (0 : Int64) (own_z nn 0 w0)) (own_z nn 1 w1)) (own_z nn 2 w2)) (own_z nn 3 w3)) (own_z nn 4 w4)) (own_z nn 5 w5))), .second, .val (.int (6 : Int32))] [])) (fun t k => XS.goto X0.here hx rfl (pc0 := 37) (pc' := 4) rfl (hb hby own_d2_37) (by decide) (by decide) k) ?_
              refine own_via (g' := s₁.setTop (mkF m 5 #[.val (.ref a1), .val (.long (own_acc (own_acc (own_acc (own_acc (own_acc (own_acc (0 : Int64) (own_z nn 0 w0)) (own_z nn 1 w1)) (own_z nn 2 w2)) (own_z nn 3 w3)) (own_z nn 4 w4)) (own_z nn 5 w5))), .second, .val (.int (6 : Int32))] [(.int (6 : Int32))])) (fun t k => XS.iloadN X0.here hx rfl (hb hby own_d2_4) rfl k) ?_
              refine own_via (g' := s₁.setTop (mkF m 7 #[.val (.ref a1), .val (.long (own_acc (own_acc (own_acc (own_acc (own_acc (own_acc (0 : Int64) (own_z nn 0 w0)) (own_z nn 1 w1)) (own_z nn 2 w2)) (own_z nn 3 w3)) (own_z nn 4 w4)) (own_z nn 5 w5))), .second, .val (.int (6 : Int32))] [(.int (8 : Int32)), (.int (6 : Int32))])) (fun t k => XS.bipush X0.here hx rfl (hb hby own_d2_5) k) ?_
              refine own_via (g' := s₁.setTop (mkF m 10 #[.val (.ref a1), .val (.long (own_acc (own_acc (own_acc (own_acc (own_acc (own_acc (0 : Int64) (own_z nn 0 w0)) (own_z nn 1 w1)) (own_z nn 2 w2)) (own_z nn 3 w3)) (own_z nn 4 w4)) (own_z nn 5 w5))), .second, .val (.int (6 : Int32))] [])) (fun t k => XS.icmpNo X0.here hx rfl (hb hby own_d2_7) rfl (XT.ii_ge_f (by decide)) k) ?_
              refine own_via (g' := s₁.setTop (mkF m 11 #[.val (.ref a1), .val (.long (own_acc (own_acc (own_acc (own_acc (own_acc (own_acc (0 : Int64) (own_z nn 0 w0)) (own_z nn 1 w1)) (own_z nn 2 w2)) (own_z nn 3 w3)) (own_z nn 4 w4)) (own_z nn 5 w5))), .second, .val (.int (6 : Int32))] [(.long (own_acc (own_acc (own_acc (own_acc (own_acc (own_acc (0 : Int64) (own_z nn 0 w0)) (own_z nn 1 w1)) (own_z nn 2 w2)) (own_z nn 3 w3)) (own_z nn 4 w4)) (own_z nn 5 w5)))])) (fun t k => XT.lloadN X0.here hx rfl (hb hby own_d2_10) rfl k) ?_
              refine own_via (g' := s₁.setTop (mkF m 13 #[.val (.ref a1), .val (.long (own_acc (own_acc (own_acc (own_acc (own_acc (own_acc (0 : Int64) (own_z nn 0 w0)) (own_z nn 1 w1)) (own_z nn 2 w2)) (own_z nn 3 w3)) (own_z nn 4 w4)) (own_z nn 5 w5))), .second, .val (.int (6 : Int32))] [(.int (8 : Int32)), (.long (own_acc (own_acc (own_acc (own_acc (own_acc (own_acc (0 : Int64) (own_z nn 0 w0)) (own_z nn 1 w1)) (own_z nn 2 w2)) (own_z nn 3 w3)) (own_z nn 4 w4)) (own_z nn 5 w5)))])) (fun t k => XS.bipush X0.here hx rfl (hb hby own_d2_11) k) ?_
              refine own_via (g' := s₁.setTop (mkF m 14 #[.val (.ref a1), .val (.long (own_acc (own_acc (own_acc (own_acc (own_acc (own_acc (0 : Int64) (own_z nn 0 w0)) (own_z nn 1 w1)) (own_z nn 2 w2)) (own_z nn 3 w3)) (own_z nn 4 w4)) (own_z nn 5 w5))), .second, .val (.int (6 : Int32))] [(.long ((own_acc (own_acc (own_acc (own_acc (own_acc (own_acc (0 : Int64) (own_z nn 0 w0)) (own_z nn 1 w1)) (own_z nn 2 w2)) (own_z nn 3 w3)) (own_z nn 4 w4)) (own_z nn 5 w5)) <<< ((8 : Int32) &&& 0x3f).toInt64))])) (fun t k => XS.lshl X0.here hx rfl (hb hby own_d2_13) rfl k) ?_
              refine own_via (g' := s₁.setTop (mkF m 15 #[.val (.ref a1), .val (.long (own_acc (own_acc (own_acc (own_acc (own_acc (own_acc (0 : Int64) (own_z nn 0 w0)) (own_z nn 1 w1)) (own_z nn 2 w2)) (own_z nn 3 w3)) (own_z nn 4 w4)) (own_z nn 5 w5))), .second, .val (.int (6 : Int32))] [(.int (6 : Int32)), (.long ((own_acc (own_acc (own_acc (own_acc (own_acc (own_acc (0 : Int64) (own_z nn 0 w0)) (own_z nn 1 w1)) (own_z nn 2 w2)) (own_z nn 3 w3)) (own_z nn 4 w4)) (own_z nn 5 w5)) <<< ((8 : Int32) &&& 0x3f).toInt64))])) (fun t k => XS.iloadN X0.here hx rfl (hb hby own_d2_14) rfl k) ?_
              refine own_via (g' := s₁.setTop (mkF m 16 #[.val (.ref a1), .val (.long (own_acc (own_acc (own_acc (own_acc (own_acc (own_acc (0 : Int64) (own_z nn 0 w0)) (own_z nn 1 w1)) (own_z nn 2 w2)) (own_z nn 3 w3)) (own_z nn 4 w4)) (own_z nn 5 w5))), .second, .val (.int (6 : Int32))] [(.ref a1), (.int (6 : Int32)), (.long ((own_acc (own_acc (own_acc (own_acc (own_acc (own_acc (0 : Int64) (own_z nn 0 w0)) (own_z nn 1 w1)) (own_z nn 2 w2)) (own_z nn 3 w3)) (own_z nn 4 w4)) (own_z nn 5 w5)) <<< ((8 : Int32) &&& 0x3f).toInt64))])) (fun t k => XS.aloadN X0.here hx rfl (hb hby own_d2_15) rfl (rfl) k) ?_
              refine own_via (g' := s₁.setTop (mkF m 17 #[.val (.ref a1), .val (.long (own_acc (own_acc (own_acc (own_acc (own_acc (own_acc (0 : Int64) (own_z nn 0 w0)) (own_z nn 1 w1)) (own_z nn 2 w2)) (own_z nn 3 w3)) (own_z nn 4 w4)) (own_z nn 5 w5))), .second, .val (.int (6 : Int32))] [(.int nn), (.int (6 : Int32)), (.long ((own_acc (own_acc (own_acc (own_acc (own_acc (own_acc (0 : Int64) (own_z nn 0 w0)) (own_z nn 1 w1)) (own_z nn 2 w2)) (own_z nn 3 w3)) (own_z nn 4 w4)) (own_z nn 5 w5)) <<< ((8 : Int32) &&& 0x3f).toInt64))])) (fun t k => own_len X0 hx hZ e0 A_a1 (n := nn) hnn (g := (mkF m 16 #[.val (.ref a1), .val (.long (own_acc (own_acc (own_acc (own_acc (own_acc (own_acc (0 : Int64) (own_z nn 0 w0)) (own_z nn 1 w1)) (own_z nn 2 w2)) (own_z nn 3 w3)) (own_z nn 4 w4)) (own_z nn 5 w5))), .second, .val (.int (6 : Int32))] [(.ref a1), (.int (6 : Int32)), (.long ((own_acc (own_acc (own_acc (own_acc (own_acc (own_acc (0 : Int64) (own_z nn 0 w0)) (own_z nn 1 w1)) (own_z nn 2 w2)) (own_z nn 3 w3)) (own_z nn 4 w4)) (own_z nn 5 w5)) <<< ((8 : Int32) &&& 0x3f).toInt64))])) rfl rfl (hb hby own_d2_16) _ k) ?_
              have J107 : ∀ z6 : Int32, z6 = own_z nn 6 w6 → own_Fin p e below (own_P (own_rm2_Q Z a1 LL nn w0 w1 w2 w3 w4 w5 w6 w7 h0 n0) s ({ frames := 0, cells := 0, slots := 0, locals := 0 } : Room).cells ({ frames := 0, cells := 0, slots := 0, locals := 0 } : Room).slots) (s₁.setTop (mkF m 31 #[.val (.ref a1), .val (.long (own_acc (own_acc (own_acc (own_acc (own_acc (own_acc (0 : Int64) (own_z nn 0 w0)) (own_z nn 1 w1)) (own_z nn 2 w2)) (own_z nn 3 w3)) (own_z nn 4 w4)) (own_z nn 5 w5))), .second, .val (.int (6 : Int32))] [(.int z6), (.long ((own_acc (own_acc (own_acc (own_acc (own_acc (own_acc (0 : Int64) (own_z nn 0 w0)) (own_z nn 1 w1)) (own_z nn 2 w2)) (own_z nn 3 w3)) (own_z nn 4 w4)) (own_z nn 5 w5)) <<< ((8 : Int32) &&& 0x3f).toInt64))])) := by
                intro z6 hz6
                refine own_via (g' := s₁.setTop (mkF m 32 #[.val (.ref a1), .val (.long (own_acc (own_acc (own_acc (own_acc (own_acc (own_acc (0 : Int64) (own_z nn 0 w0)) (own_z nn 1 w1)) (own_z nn 2 w2)) (own_z nn 3 w3)) (own_z nn 4 w4)) (own_z nn 5 w5))), .second, .val (.int (6 : Int32))] [(.long (z6.toInt64)), (.long ((own_acc (own_acc (own_acc (own_acc (own_acc (own_acc (0 : Int64) (own_z nn 0 w0)) (own_z nn 1 w1)) (own_z nn 2 w2)) (own_z nn 3 w3)) (own_z nn 4 w4)) (own_z nn 5 w5)) <<< ((8 : Int32) &&& 0x3f).toInt64))])) (fun t k => XT.i2l X0.here hx rfl (hb hby own_d2_31) rfl k) ?_
                refine own_via (g' := s₁.setTop (mkF m 33 #[.val (.ref a1), .val (.long (own_acc (own_acc (own_acc (own_acc (own_acc (own_acc (0 : Int64) (own_z nn 0 w0)) (own_z nn 1 w1)) (own_z nn 2 w2)) (own_z nn 3 w3)) (own_z nn 4 w4)) (own_z nn 5 w5))), .second, .val (.int (6 : Int32))] [(.long (((own_acc (own_acc (own_acc (own_acc (own_acc (own_acc (0 : Int64) (own_z nn 0 w0)) (own_z nn 1 w1)) (own_z nn 2 w2)) (own_z nn 3 w3)) (own_z nn 4 w4)) (own_z nn 5 w5)) <<< ((8 : Int32) &&& 0x3f).toInt64) ||| (z6.toInt64)))])) (fun t k => XT.lor X0.here hx rfl (hb hby own_d2_32) rfl k) ?_
                rw [hz6]
                show own_Fin p e below _ (s₁.setTop (mkF m 33 #[.val (.ref a1), .val (.long (own_acc (own_acc (own_acc (own_acc (own_acc (own_acc (0 : Int64) (own_z nn 0 w0)) (own_z nn 1 w1)) (own_z nn 2 w2)) (own_z nn 3 w3)) (own_z nn 4 w4)) (own_z nn 5 w5))), .second, .val (.int (6 : Int32))] [(.long (own_acc (own_acc (own_acc (own_acc (own_acc (own_acc (own_acc (0 : Int64) (own_z nn 0 w0)) (own_z nn 1 w1)) (own_z nn 2 w2)) (own_z nn 3 w3)) (own_z nn 4 w4)) (own_z nn 5 w5)) (own_z nn 6 w6)))]))
                refine own_via (g' := s₁.setTop (mkF m 34 #[.val (.ref a1), .val (.long (own_acc (own_acc (own_acc (own_acc (own_acc (own_acc (own_acc (0 : Int64) (own_z nn 0 w0)) (own_z nn 1 w1)) (own_z nn 2 w2)) (own_z nn 3 w3)) (own_z nn 4 w4)) (own_z nn 5 w5)) (own_z nn 6 w6))), .second, .val (.int (6 : Int32))] [])) (fun t k => XT.lstoreN X0.here hx rfl (hb hby own_d2_33) rfl (l' := #[.val (.ref a1), .val (.long (own_acc (own_acc (own_acc (own_acc (own_acc (own_acc (own_acc (0 : Int64) (own_z nn 0 w0)) (own_z nn 1 w1)) (own_z nn 2 w2)) (own_z nn 3 w3)) (own_z nn 4 w4)) (own_z nn 5 w5)) (own_z nn 6 w6))), .second, .val (.int (6 : Int32))]) rfl k) ?_
                refine own_via (g' := s₁.setTop (mkF m 37 #[.val (.ref a1), .val (.long (own_acc (own_acc (own_acc (own_acc (own_acc (own_acc (own_acc (0 : Int64) (own_z nn 0 w0)) (own_z nn 1 w1)) (own_z nn 2 w2)) (own_z nn 3 w3)) (own_z nn 4 w4)) (own_z nn 5 w5)) (own_z nn 6 w6))), .second, .val (.int (7 : Int32))] [])) (fun t k => XS.iinc X0.here hx rfl (hb hby own_d2_34) rfl (l' := #[.val (.ref a1), .val (.long (own_acc (own_acc (own_acc (own_acc (own_acc (own_acc (own_acc (0 : Int64) (own_z nn 0 w0)) (own_z nn 1 w1)) (own_z nn 2 w2)) (own_z nn 3 w3)) (own_z nn 4 w4)) (own_z nn 5 w5)) (own_z nn 6 w6))), .second, .val (.int (7 : Int32))]) rfl k) ?_
                refine own_via (g' := s₁.setTop (mkF m 4 #[.val (.ref a1), .val (.long (own_acc (own_acc (own_acc (own_acc (own_acc (own_acc (own_acc (0 : Int64) (own_z nn 0 w0)) (own_z nn 1 w1)) (own_z nn 2 w2)) (own_z nn 3 w3)) (own_z nn 4 w4)) (own_z nn 5 w5)) (own_z nn 6 w6))), .second, .val (.int (7 : Int32))] [])) (fun t k => XS.goto X0.here hx rfl (pc0 := 37) (pc' := 4) rfl (hb hby own_d2_37) (by decide) (by decide) k) ?_
                refine own_via (g' := s₁.setTop (mkF m 5 #[.val (.ref a1), .val (.long (own_acc (own_acc (own_acc (own_acc (own_acc (own_acc (own_acc (0 : Int64) (own_z nn 0 w0)) (own_z nn 1 w1)) (own_z nn 2 w2)) (own_z nn 3 w3)) (own_z nn 4 w4)) (own_z nn 5 w5)) (own_z nn 6 w6))), .second, .val (.int (7 : Int32))] [(.int (7 : Int32))])) (fun t k => XS.iloadN X0.here hx rfl (hb hby own_d2_4) rfl k) ?_
                refine own_via (g' := s₁.setTop (mkF m 7 #[.val (.ref a1), .val (.long (own_acc (own_acc (own_acc (own_acc (own_acc (own_acc (own_acc (0 : Int64) (own_z nn 0 w0)) (own_z nn 1 w1)) (own_z nn 2 w2)) (own_z nn 3 w3)) (own_z nn 4 w4)) (own_z nn 5 w5)) (own_z nn 6 w6))), .second, .val (.int (7 : Int32))] [(.int (8 : Int32)), (.int (7 : Int32))])) (fun t k => XS.bipush X0.here hx rfl (hb hby own_d2_5) k) ?_
                refine own_via (g' := s₁.setTop (mkF m 10 #[.val (.ref a1), .val (.long (own_acc (own_acc (own_acc (own_acc (own_acc (own_acc (own_acc (0 : Int64) (own_z nn 0 w0)) (own_z nn 1 w1)) (own_z nn 2 w2)) (own_z nn 3 w3)) (own_z nn 4 w4)) (own_z nn 5 w5)) (own_z nn 6 w6))), .second, .val (.int (7 : Int32))] [])) (fun t k => XS.icmpNo X0.here hx rfl (hb hby own_d2_7) rfl (XT.ii_ge_f (by decide)) k) ?_
                refine own_via (g' := s₁.setTop (mkF m 11 #[.val (.ref a1), .val (.long (own_acc (own_acc (own_acc (own_acc (own_acc (own_acc (own_acc (0 : Int64) (own_z nn 0 w0)) (own_z nn 1 w1)) (own_z nn 2 w2)) (own_z nn 3 w3)) (own_z nn 4 w4)) (own_z nn 5 w5)) (own_z nn 6 w6))), .second, .val (.int (7 : Int32))] [(.long (own_acc (own_acc (own_acc (own_acc (own_acc (own_acc (own_acc (0 : Int64) (own_z nn 0 w0)) (own_z nn 1 w1)) (own_z nn 2 w2)) (own_z nn 3 w3)) (own_z nn 4 w4)) (own_z nn 5 w5)) (own_z nn 6 w6)))])) (fun t k => XT.lloadN X0.here hx rfl (hb hby own_d2_10) rfl k) ?_
                refine own_via (g' := s₁.setTop (mkF m 13 #[.val (.ref a1), .val (.long (own_acc (own_acc (own_acc (own_acc (own_acc (own_acc (own_acc (0 : Int64) (own_z nn 0 w0)) (own_z nn 1 w1)) (own_z nn 2 w2)) (own_z nn 3 w3)) (own_z nn 4 w4)) (own_z nn 5 w5)) (own_z nn 6 w6))), .second, .val (.int (7 : Int32))] [(.int (8 : Int32)), (.long (own_acc (own_acc (own_acc (own_acc (own_acc (own_acc (own_acc (0 : Int64) (own_z nn 0 w0)) (own_z nn 1 w1)) (own_z nn 2 w2)) (own_z nn 3 w3)) (own_z nn 4 w4)) (own_z nn 5 w5)) (own_z nn 6 w6)))])) (fun t k => XS.bipush X0.here hx rfl (hb hby own_d2_11) k) ?_
                refine own_via (g' := s₁.setTop (mkF m 14 #[.val (.ref a1), .val (.long (own_acc (own_acc (own_acc (own_acc (own_acc (own_acc (own_acc (0 : Int64) (own_z nn 0 w0)) (own_z nn 1 w1)) (own_z nn 2 w2)) (own_z nn 3 w3)) (own_z nn 4 w4)) (own_z nn 5 w5)) (own_z nn 6 w6))), .second, .val (.int (7 : Int32))] [(.long ((own_acc (own_acc (own_acc (own_acc (own_acc (own_acc (own_acc (0 : Int64) (own_z nn 0 w0)) (own_z nn 1 w1)) (own_z nn 2 w2)) (own_z nn 3 w3)) (own_z nn 4 w4)) (own_z nn 5 w5)) (own_z nn 6 w6)) <<< ((8 : Int32) &&& 0x3f).toInt64))])) (fun t k => XS.lshl X0.here hx rfl (hb hby own_d2_13) rfl k) ?_
                refine own_via (g' := s₁.setTop (mkF m 15 #[.val (.ref a1), .val (.long (own_acc (own_acc (own_acc (own_acc (own_acc (own_acc (own_acc (0 : Int64) (own_z nn 0 w0)) (own_z nn 1 w1)) (own_z nn 2 w2)) (own_z nn 3 w3)) (own_z nn 4 w4)) (own_z nn 5 w5)) (own_z nn 6 w6))), .second, .val (.int (7 : Int32))] [(.int (7 : Int32)), (.long ((own_acc (own_acc (own_acc (own_acc (own_acc (own_acc (own_acc (0 : Int64) (own_z nn 0 w0)) (own_z nn 1 w1)) (own_z nn 2 w2)) (own_z nn 3 w3)) (own_z nn 4 w4)) (own_z nn 5 w5)) (own_z nn 6 w6)) <<< ((8 : Int32) &&& 0x3f).toInt64))])) (fun t k => XS.iloadN X0.here hx rfl (hb hby own_d2_14) rfl k) ?_
                refine own_via (g' := s₁.setTop (mkF m 16 #[.val (.ref a1), .val (.long (own_acc (own_acc (own_acc (own_acc (own_acc (own_acc (own_acc (0 : Int64) (own_z nn 0 w0)) (own_z nn 1 w1)) (own_z nn 2 w2)) (own_z nn 3 w3)) (own_z nn 4 w4)) (own_z nn 5 w5)) (own_z nn 6 w6))), .second, .val (.int (7 : Int32))] [(.ref a1), (.int (7 : Int32)), (.long ((own_acc (own_acc (own_acc (own_acc (own_acc (own_acc (own_acc (0 : Int64) (own_z nn 0 w0)) (own_z nn 1 w1)) (own_z nn 2 w2)) (own_z nn 3 w3)) (own_z nn 4 w4)) (own_z nn 5 w5)) (own_z nn 6 w6)) <<< ((8 : Int32) &&& 0x3f).toInt64))])) (fun t k => XS.aloadN X0.here hx rfl (hb hby own_d2_15) rfl (rfl) k) ?_
                refine own_via (g' := s₁.setTop (mkF m 17 #[.val (.ref a1), .val (.long (own_acc (own_acc (own_acc (own_acc (own_acc (own_acc (own_acc (0 : Int64) (own_z nn 0 w0)) (own_z nn 1 w1)) (own_z nn 2 w2)) (own_z nn 3 w3)) (own_z nn 4 w4)) (own_z nn 5 w5)) (own_z nn 6 w6))), .second, .val (.int (7 : Int32))] [(.int nn), (.int (7 : Int32)), (.long ((own_acc (own_acc (own_acc (own_acc (own_acc (own_acc (own_acc (0 : Int64) (own_z nn 0 w0)) (own_z nn 1 w1)) (own_z nn 2 w2)) (own_z nn 3 w3)) (own_z nn 4 w4)) (own_z nn 5 w5)) (own_z nn 6 w6)) <<< ((8 : Int32) &&& 0x3f).toInt64))])) (fun t k => own_len X0 hx hZ e0 A_a1 (n := nn) hnn (g := (mkF m 16 #[.val (.ref a1), .val (.long (own_acc (own_acc (own_acc (own_acc (own_acc (own_acc (own_acc (0 : Int64) (own_z nn 0 w0)) (own_z nn 1 w1)) (own_z nn 2 w2)) (own_z nn 3 w3)) (own_z nn 4 w4)) (own_z nn 5 w5)) (own_z nn 6 w6))), .second, .val (.int (7 : Int32))] [(.ref a1), (.int (7 : Int32)), (.long ((own_acc (own_acc (own_acc (own_acc (own_acc (own_acc (own_acc (0 : Int64) (own_z nn 0 w0)) (own_z nn 1 w1)) (own_z nn 2 w2)) (own_z nn 3 w3)) (own_z nn 4 w4)) (own_z nn 5 w5)) (own_z nn 6 w6)) <<< ((8 : Int32) &&& 0x3f).toInt64))])) rfl rfl (hb hby own_d2_16) _ k) ?_
                have J108 : ∀ z7 : Int32, z7 = own_z nn 7 w7 → own_Fin p e below (own_P (own_rm2_Q Z a1 LL nn w0 w1 w2 w3 w4 w5 w6 w7 h0 n0) s ({ frames := 0, cells := 0, slots := 0, locals := 0 } : Room).cells ({ frames := 0, cells := 0, slots := 0, locals := 0 } : Room).slots) (s₁.setTop (mkF m 31 #[.val (.ref a1), .val (.long (own_acc (own_acc (own_acc (own_acc (own_acc (own_acc (own_acc (0 : Int64) (own_z nn 0 w0)) (own_z nn 1 w1)) (own_z nn 2 w2)) (own_z nn 3 w3)) (own_z nn 4 w4)) (own_z nn 5 w5)) (own_z nn 6 w6))), .second, .val (.int (7 : Int32))] [(.int z7), (.long ((own_acc (own_acc (own_acc (own_acc (own_acc (own_acc (own_acc (0 : Int64) (own_z nn 0 w0)) (own_z nn 1 w1)) (own_z nn 2 w2)) (own_z nn 3 w3)) (own_z nn 4 w4)) (own_z nn 5 w5)) (own_z nn 6 w6)) <<< ((8 : Int32) &&& 0x3f).toInt64))])) := by
                  intro z7 hz7
                  refine own_via (g' := s₁.setTop (mkF m 32 #[.val (.ref a1), .val (.long (own_acc (own_acc (own_acc (own_acc (own_acc (own_acc (own_acc (0 : Int64) (own_z nn 0 w0)) (own_z nn 1 w1)) (own_z nn 2 w2)) (own_z nn 3 w3)) (own_z nn 4 w4)) (own_z nn 5 w5)) (own_z nn 6 w6))), .second, .val (.int (7 : Int32))] [(.long (z7.toInt64)), (.long ((own_acc (own_acc (own_acc (own_acc (own_acc (own_acc (own_acc (0 : Int64) (own_z nn 0 w0)) (own_z nn 1 w1)) (own_z nn 2 w2)) (own_z nn 3 w3)) (own_z nn 4 w4)) (own_z nn 5 w5)) (own_z nn 6 w6)) <<< ((8 : Int32) &&& 0x3f).toInt64))])) (fun t k => XT.i2l X0.here hx rfl (hb hby own_d2_31) rfl k) ?_
                  refine own_via (g' := s₁.setTop (mkF m 33 #[.val (.ref a1), .val (.long (own_acc (own_acc (own_acc (own_acc (own_acc (own_acc (own_acc (0 : Int64) (own_z nn 0 w0)) (own_z nn 1 w1)) (own_z nn 2 w2)) (own_z nn 3 w3)) (own_z nn 4 w4)) (own_z nn 5 w5)) (own_z nn 6 w6))), .second, .val (.int (7 : Int32))] [(.long (((own_acc (own_acc (own_acc (own_acc (own_acc (own_acc (own_acc (0 : Int64) (own_z nn 0 w0)) (own_z nn 1 w1)) (own_z nn 2 w2)) (own_z nn 3 w3)) (own_z nn 4 w4)) (own_z nn 5 w5)) (own_z nn 6 w6)) <<< ((8 : Int32) &&& 0x3f).toInt64) ||| (z7.toInt64)))])) (fun t k => XT.lor X0.here hx rfl (hb hby own_d2_32) rfl k) ?_
                  rw [hz7]
                  show own_Fin p e below _ (s₁.setTop (mkF m 33 #[.val (.ref a1), .val (.long (own_acc (own_acc (own_acc (own_acc (own_acc (own_acc (own_acc (0 : Int64) (own_z nn 0 w0)) (own_z nn 1 w1)) (own_z nn 2 w2)) (own_z nn 3 w3)) (own_z nn 4 w4)) (own_z nn 5 w5)) (own_z nn 6 w6))), .second, .val (.int (7 : Int32))] [(.long (own_acc (own_acc (own_acc (own_acc (own_acc (own_acc (own_acc (own_acc (0 : Int64) (own_z nn 0 w0)) (own_z nn 1 w1)) (own_z nn 2 w2)) (own_z nn 3 w3)) (own_z nn 4 w4)) (own_z nn 5 w5)) (own_z nn 6 w6)) (own_z nn 7 w7)))]))
                  refine own_via (g' := s₁.setTop (mkF m 34 #[.val (.ref a1), .val (.long (own_acc (own_acc (own_acc (own_acc (own_acc (own_acc (own_acc (own_acc (0 : Int64) (own_z nn 0 w0)) (own_z nn 1 w1)) (own_z nn 2 w2)) (own_z nn 3 w3)) (own_z nn 4 w4)) (own_z nn 5 w5)) (own_z nn 6 w6)) (own_z nn 7 w7))), .second, .val (.int (7 : Int32))] [])) (fun t k => XT.lstoreN X0.here hx rfl (hb hby own_d2_33) rfl (l' := #[.val (.ref a1), .val (.long (own_acc (own_acc (own_acc (own_acc (own_acc (own_acc (own_acc (own_acc (0 : Int64) (own_z nn 0 w0)) (own_z nn 1 w1)) (own_z nn 2 w2)) (own_z nn 3 w3)) (own_z nn 4 w4)) (own_z nn 5 w5)) (own_z nn 6 w6)) (own_z nn 7 w7))), .second, .val (.int (7 : Int32))]) rfl k) ?_
                  refine own_via (g' := s₁.setTop (mkF m 37 #[.val (.ref a1), .val (.long (own_acc (own_acc (own_acc (own_acc (own_acc (own_acc (own_acc (own_acc (0 : Int64) (own_z nn 0 w0)) (own_z nn 1 w1)) (own_z nn 2 w2)) (own_z nn 3 w3)) (own_z nn 4 w4)) (own_z nn 5 w5)) (own_z nn 6 w6)) (own_z nn 7 w7))), .second, .val (.int (8 : Int32))] [])) (fun t k => XS.iinc X0.here hx rfl (hb hby own_d2_34) rfl (l' := #[.val (.ref a1), .val (.long (own_acc (own_acc (own_acc (own_acc (own_acc (own_acc (own_acc (own_acc (0 : Int64) (own_z nn 0 w0)) (own_z nn 1 w1)) (own_z nn 2 w2)) (own_z nn 3 w3)) (own_z nn 4 w4)) (own_z nn 5 w5)) (own_z nn 6 w6)) (own_z nn 7 w7))), .second, .val (.int (8 : Int32))]) rfl k) ?_
                  refine own_via (g' := s₁.setTop (mkF m 4 #[.val (.ref a1), .val (.long (own_acc (own_acc (own_acc (own_acc (own_acc (own_acc (own_acc (own_acc (0 : Int64) (own_z nn 0 w0)) (own_z nn 1 w1)) (own_z nn 2 w2)) (own_z nn 3 w3)) (own_z nn 4 w4)) (own_z nn 5 w5)) (own_z nn 6 w6)) (own_z nn 7 w7))), .second, .val (.int (8 : Int32))] [])) (fun t k => XS.goto X0.here hx rfl (pc0 := 37) (pc' := 4) rfl (hb hby own_d2_37) (by decide) (by decide) k) ?_
                  refine own_via (g' := s₁.setTop (mkF m 5 #[.val (.ref a1), .val (.long (own_acc (own_acc (own_acc (own_acc (own_acc (own_acc (own_acc (own_acc (0 : Int64) (own_z nn 0 w0)) (own_z nn 1 w1)) (own_z nn 2 w2)) (own_z nn 3 w3)) (own_z nn 4 w4)) (own_z nn 5 w5)) (own_z nn 6 w6)) (own_z nn 7 w7))), .second, .val (.int (8 : Int32))] [(.int (8 : Int32))])) (fun t k => XS.iloadN X0.here hx rfl (hb hby own_d2_4) rfl k) ?_
                  refine own_via (g' := s₁.setTop (mkF m 7 #[.val (.ref a1), .val (.long (own_acc (own_acc (own_acc (own_acc (own_acc (own_acc (own_acc (own_acc (0 : Int64) (own_z nn 0 w0)) (own_z nn 1 w1)) (own_z nn 2 w2)) (own_z nn 3 w3)) (own_z nn 4 w4)) (own_z nn 5 w5)) (own_z nn 6 w6)) (own_z nn 7 w7))), .second, .val (.int (8 : Int32))] [(.int (8 : Int32)), (.int (8 : Int32))])) (fun t k => XS.bipush X0.here hx rfl (hb hby own_d2_5) k) ?_
                  refine own_via (g' := s₁.setTop (mkF m 40 #[.val (.ref a1), .val (.long (own_acc (own_acc (own_acc (own_acc (own_acc (own_acc (own_acc (own_acc (0 : Int64) (own_z nn 0 w0)) (own_z nn 1 w1)) (own_z nn 2 w2)) (own_z nn 3 w3)) (own_z nn 4 w4)) (own_z nn 5 w5)) (own_z nn 6 w6)) (own_z nn 7 w7))), .second, .val (.int (8 : Int32))] [])) (fun t k => XS.icmpYes X0.here hx rfl (pc0 := 7) (pc' := 40) rfl (hb hby own_d2_7) rfl (XT.ii_ge_t (by decide)) (by decide) (by decide) k) ?_
                  refine own_via (g' := s₁.setTop (mkF m 41 #[.val (.ref a1), .val (.long (own_acc (own_acc (own_acc (own_acc (own_acc (own_acc (own_acc (own_acc (0 : Int64) (own_z nn 0 w0)) (own_z nn 1 w1)) (own_z nn 2 w2)) (own_z nn 3 w3)) (own_z nn 4 w4)) (own_z nn 5 w5)) (own_z nn 6 w6)) (own_z nn 7 w7))), .second, .val (.int (8 : Int32))] [(.long (own_acc (own_acc (own_acc (own_acc (own_acc (own_acc (own_acc (own_acc (0 : Int64) (own_z nn 0 w0)) (own_z nn 1 w1)) (own_z nn 2 w2)) (own_z nn 3 w3)) (own_z nn 4 w4)) (own_z nn 5 w5)) (own_z nn 6 w6)) (own_z nn 7 w7)))])) (fun t k => XT.lloadN X0.here hx rfl (hb hby own_d2_40) rfl k) ?_
                  exact own_retJ X0 hx hlk Bd.returns (hb hby own_d2_41) ⟨rfl, N0, e0⟩ (by decide) (by decide)
                by_cases hc17_109 : (7 : Int32) < nn
                · refine own_via (g' := s₁.setTop (mkF m 20 #[.val (.ref a1), .val (.long (own_acc (own_acc (own_acc (own_acc (own_acc (own_acc (own_acc (0 : Int64) (own_z nn 0 w0)) (own_z nn 1 w1)) (own_z nn 2 w2)) (own_z nn 3 w3)) (own_z nn 4 w4)) (own_z nn 5 w5)) (own_z nn 6 w6))), .second, .val (.int (7 : Int32))] [(.long ((own_acc (own_acc (own_acc (own_acc (own_acc (own_acc (own_acc (0 : Int64) (own_z nn 0 w0)) (own_z nn 1 w1)) (own_z nn 2 w2)) (own_z nn 3 w3)) (own_z nn 4 w4)) (own_z nn 5 w5)) (own_z nn 6 w6)) <<< ((8 : Int32) &&& 0x3f).toInt64))])) (fun t k => XS.icmpNo X0.here hx rfl (hb hby own_d2_17) rfl (XT.ii_ge_f hc17_109) k) ?_
                  refine own_via (g' := s₁.setTop (mkF m 21 #[.val (.ref a1), .val (.long (own_acc (own_acc (own_acc (own_acc (own_acc (own_acc (own_acc (0 : Int64) (own_z nn 0 w0)) (own_z nn 1 w1)) (own_z nn 2 w2)) (own_z nn 3 w3)) (own_z nn 4 w4)) (own_z nn 5 w5)) (own_z nn 6 w6))), .second, .val (.int (7 : Int32))] [(.ref a1), (.long ((own_acc (own_acc (own_acc (own_acc (own_acc (own_acc (own_acc (0 : Int64) (own_z nn 0 w0)) (own_z nn 1 w1)) (own_z nn 2 w2)) (own_z nn 3 w3)) (own_z nn 4 w4)) (own_z nn 5 w5)) (own_z nn 6 w6)) <<< ((8 : Int32) &&& 0x3f).toInt64))])) (fun t k => XS.aloadN X0.here hx rfl (hb hby own_d2_20) rfl (rfl) k) ?_
                  refine own_via (g' := s₁.setTop (mkF m 22 #[.val (.ref a1), .val (.long (own_acc (own_acc (own_acc (own_acc (own_acc (own_acc (own_acc (0 : Int64) (own_z nn 0 w0)) (own_z nn 1 w1)) (own_z nn 2 w2)) (own_z nn 3 w3)) (own_z nn 4 w4)) (own_z nn 5 w5)) (own_z nn 6 w6))), .second, .val (.int (7 : Int32))] [(.int (7 : Int32)), (.ref a1), (.long ((own_acc (own_acc (own_acc (own_acc (own_acc (own_acc (own_acc (0 : Int64) (own_z nn 0 w0)) (own_z nn 1 w1)) (own_z nn 2 w2)) (own_z nn 3 w3)) (own_z nn 4 w4)) (own_z nn 5 w5)) (own_z nn 6 w6)) <<< ((8 : Int32) &&& 0x3f).toInt64))])) (fun t k => XS.iloadN X0.here hx rfl (hb hby own_d2_21) rfl k) ?_
                  refine own_via (g' := s₁.setTop (mkF m 23 #[.val (.ref a1), .val (.long (own_acc (own_acc (own_acc (own_acc (own_acc (own_acc (own_acc (0 : Int64) (own_z nn 0 w0)) (own_z nn 1 w1)) (own_z nn 2 w2)) (own_z nn 3 w3)) (own_z nn 4 w4)) (own_z nn 5 w5)) (own_z nn 6 w6))), .second, .val (.int (7 : Int32))] [(.int w7), (.long ((own_acc (own_acc (own_acc (own_acc (own_acc (own_acc (own_acc (0 : Int64) (own_z nn 0 w0)) (own_z nn 1 w1)) (own_z nn 2 w2)) (own_z nn 3 w3)) (own_z nn 4 w4)) (own_z nn 5 w5)) (own_z nn 6 w6)) <<< ((8 : Int32) &&& 0x3f).toInt64))])) (fun t k => own_ldB X0 hx hZ e0 A_a1 (j := (7 : Int32)) (v := (.int w7)) (by decide) (hg7 hc17_109) (g := (mkF m 22 #[.val (.ref a1), .val (.long (own_acc (own_acc (own_acc (own_acc (own_acc (own_acc (own_acc (0 : Int64) (own_z nn 0 w0)) (own_z nn 1 w1)) (own_z nn 2 w2)) (own_z nn 3 w3)) (own_z nn 4 w4)) (own_z nn 5 w5)) (own_z nn 6 w6))), .second, .val (.int (7 : Int32))] [(.int (7 : Int32)), (.ref a1), (.long ((own_acc (own_acc (own_acc (own_acc (own_acc (own_acc (own_acc (0 : Int64) (own_z nn 0 w0)) (own_z nn 1 w1)) (own_z nn 2 w2)) (own_z nn 3 w3)) (own_z nn 4 w4)) (own_z nn 5 w5)) (own_z nn 6 w6)) <<< ((8 : Int32) &&& 0x3f).toInt64))])) rfl rfl (hb hby own_d2_22) _ k) ?_
                  refine own_via (g' := s₁.setTop (mkF m 26 #[.val (.ref a1), .val (.long (own_acc (own_acc (own_acc (own_acc (own_acc (own_acc (own_acc (0 : Int64) (own_z nn 0 w0)) (own_z nn 1 w1)) (own_z nn 2 w2)) (own_z nn 3 w3)) (own_z nn 4 w4)) (own_z nn 5 w5)) (own_z nn 6 w6))), .second, .val (.int (7 : Int32))] [(.int (255 : Int32)), (.int w7), (.long ((own_acc (own_acc (own_acc (own_acc (own_acc (own_acc (own_acc (0 : Int64) (own_z nn 0 w0)) (own_z nn 1 w1)) (own_z nn 2 w2)) (own_z nn 3 w3)) (own_z nn 4 w4)) (own_z nn 5 w5)) (own_z nn 6 w6)) <<< ((8 : Int32) &&& 0x3f).toInt64))])) (fun t k => XS.sipush X0.here hx rfl (hb hby own_d2_23) k) ?_
                  refine own_via (g' := s₁.setTop (mkF m 27 #[.val (.ref a1), .val (.long (own_acc (own_acc (own_acc (own_acc (own_acc (own_acc (own_acc (0 : Int64) (own_z nn 0 w0)) (own_z nn 1 w1)) (own_z nn 2 w2)) (own_z nn 3 w3)) (own_z nn 4 w4)) (own_z nn 5 w5)) (own_z nn 6 w6))), .second, .val (.int (7 : Int32))] [(.int (w7 &&& (255 : Int32))), (.long ((own_acc (own_acc (own_acc (own_acc (own_acc (own_acc (own_acc (0 : Int64) (own_z nn 0 w0)) (own_z nn 1 w1)) (own_z nn 2 w2)) (own_z nn 3 w3)) (own_z nn 4 w4)) (own_z nn 5 w5)) (own_z nn 6 w6)) <<< ((8 : Int32) &&& 0x3f).toInt64))])) (fun t k => XS.iand X0.here hx rfl (hb hby own_d2_26) rfl k) ?_
                  refine own_via (g' := s₁.setTop (mkF m 31 #[.val (.ref a1), .val (.long (own_acc (own_acc (own_acc (own_acc (own_acc (own_acc (own_acc (0 : Int64) (own_z nn 0 w0)) (own_z nn 1 w1)) (own_z nn 2 w2)) (own_z nn 3 w3)) (own_z nn 4 w4)) (own_z nn 5 w5)) (own_z nn 6 w6))), .second, .val (.int (7 : Int32))] [(.int (w7 &&& (255 : Int32))), (.long ((own_acc (own_acc (own_acc (own_acc (own_acc (own_acc (own_acc (0 : Int64) (own_z nn 0 w0)) (own_z nn 1 w1)) (own_z nn 2 w2)) (own_z nn 3 w3)) (own_z nn 4 w4)) (own_z nn 5 w5)) (own_z nn 6 w6)) <<< ((8 : Int32) &&& 0x3f).toInt64))])) (fun t k => XS.goto X0.here hx rfl (pc0 := 27) (pc' := 31) rfl (hb hby own_d2_27) (by decide) (by decide) k) ?_
                  exact J108 (w7 &&& (255 : Int32)) (by rw [own_z, if_pos hc17_109])
                · refine own_via (g' := s₁.setTop (mkF m 30 #[.val (.ref a1), .val (.long (own_acc (own_acc (own_acc (own_acc (own_acc (own_acc (own_acc (0 : Int64) (own_z nn 0 w0)) (own_z nn 1 w1)) (own_z nn 2 w2)) (own_z nn 3 w3)) (own_z nn 4 w4)) (own_z nn 5 w5)) (own_z nn 6 w6))), .second, .val (.int (7 : Int32))] [(.long ((own_acc (own_acc (own_acc (own_acc (own_acc (own_acc (own_acc (0 : Int64) (own_z nn 0 w0)) (own_z nn 1 w1)) (own_z nn 2 w2)) (own_z nn 3 w3)) (own_z nn 4 w4)) (own_z nn 5 w5)) (own_z nn 6 w6)) <<< ((8 : Int32) &&& 0x3f).toInt64))])) (fun t k => XS.icmpYes X0.here hx rfl (pc0 := 17) (pc' := 30) rfl (hb hby own_d2_17) rfl (XT.ii_ge_t hc17_109) (by decide) (by decide) k) ?_
                  refine own_via (g' := s₁.setTop (mkF m 31 #[.val (.ref a1), .val (.long (own_acc (own_acc (own_acc (own_acc (own_acc (own_acc (own_acc (0 : Int64) (own_z nn 0 w0)) (own_z nn 1 w1)) (own_z nn 2 w2)) (own_z nn 3 w3)) (own_z nn 4 w4)) (own_z nn 5 w5)) (own_z nn 6 w6))), .second, .val (.int (7 : Int32))] [(.int (0 : Int32)), (.long ((own_acc (own_acc (own_acc (own_acc (own_acc (own_acc (own_acc (0 : Int64) (own_z nn 0 w0)) (own_z nn 1 w1)) (own_z nn 2 w2)) (own_z nn 3 w3)) (own_z nn 4 w4)) (own_z nn 5 w5)) (own_z nn 6 w6)) <<< ((8 : Int32) &&& 0x3f).toInt64))])) (fun t k => XS.iconst X0.here hx rfl (hb hby own_d2_30) k) ?_
                  exact J108 (0 : Int32) (by rw [own_z, if_neg hc17_109])
              by_cases hc17_110 : (6 : Int32) < nn
              · refine own_via (g' := s₁.setTop (mkF m 20 #[.val (.ref a1), .val (.long (own_acc (own_acc (own_acc (own_acc (own_acc (own_acc (0 : Int64) (own_z nn 0 w0)) (own_z nn 1 w1)) (own_z nn 2 w2)) (own_z nn 3 w3)) (own_z nn 4 w4)) (own_z nn 5 w5))), .second, .val (.int (6 : Int32))] [(.long ((own_acc (own_acc (own_acc (own_acc (own_acc (own_acc (0 : Int64) (own_z nn 0 w0)) (own_z nn 1 w1)) (own_z nn 2 w2)) (own_z nn 3 w3)) (own_z nn 4 w4)) (own_z nn 5 w5)) <<< ((8 : Int32) &&& 0x3f).toInt64))])) (fun t k => XS.icmpNo X0.here hx rfl (hb hby own_d2_17) rfl (XT.ii_ge_f hc17_110) k) ?_
                refine own_via (g' := s₁.setTop (mkF m 21 #[.val (.ref a1), .val (.long (own_acc (own_acc (own_acc (own_acc (own_acc (own_acc (0 : Int64) (own_z nn 0 w0)) (own_z nn 1 w1)) (own_z nn 2 w2)) (own_z nn 3 w3)) (own_z nn 4 w4)) (own_z nn 5 w5))), .second, .val (.int (6 : Int32))] [(.ref a1), (.long ((own_acc (own_acc (own_acc (own_acc (own_acc (own_acc (0 : Int64) (own_z nn 0 w0)) (own_z nn 1 w1)) (own_z nn 2 w2)) (own_z nn 3 w3)) (own_z nn 4 w4)) (own_z nn 5 w5)) <<< ((8 : Int32) &&& 0x3f).toInt64))])) (fun t k => XS.aloadN X0.here hx rfl (hb hby own_d2_20) rfl (rfl) k) ?_
                refine own_via (g' := s₁.setTop (mkF m 22 #[.val (.ref a1), .val (.long (own_acc (own_acc (own_acc (own_acc (own_acc (own_acc (0 : Int64) (own_z nn 0 w0)) (own_z nn 1 w1)) (own_z nn 2 w2)) (own_z nn 3 w3)) (own_z nn 4 w4)) (own_z nn 5 w5))), .second, .val (.int (6 : Int32))] [(.int (6 : Int32)), (.ref a1), (.long ((own_acc (own_acc (own_acc (own_acc (own_acc (own_acc (0 : Int64) (own_z nn 0 w0)) (own_z nn 1 w1)) (own_z nn 2 w2)) (own_z nn 3 w3)) (own_z nn 4 w4)) (own_z nn 5 w5)) <<< ((8 : Int32) &&& 0x3f).toInt64))])) (fun t k => XS.iloadN X0.here hx rfl (hb hby own_d2_21) rfl k) ?_
                refine own_via (g' := s₁.setTop (mkF m 23 #[.val (.ref a1), .val (.long (own_acc (own_acc (own_acc (own_acc (own_acc (own_acc (0 : Int64) (own_z nn 0 w0)) (own_z nn 1 w1)) (own_z nn 2 w2)) (own_z nn 3 w3)) (own_z nn 4 w4)) (own_z nn 5 w5))), .second, .val (.int (6 : Int32))] [(.int w6), (.long ((own_acc (own_acc (own_acc (own_acc (own_acc (own_acc (0 : Int64) (own_z nn 0 w0)) (own_z nn 1 w1)) (own_z nn 2 w2)) (own_z nn 3 w3)) (own_z nn 4 w4)) (own_z nn 5 w5)) <<< ((8 : Int32) &&& 0x3f).toInt64))])) (fun t k => own_ldB X0 hx hZ e0 A_a1 (j := (6 : Int32)) (v := (.int w6)) (by decide) (hg6 hc17_110) (g := (mkF m 22 #[.val (.ref a1), .val (.long (own_acc (own_acc (own_acc (own_acc (own_acc (own_acc (0 : Int64) (own_z nn 0 w0)) (own_z nn 1 w1)) (own_z nn 2 w2)) (own_z nn 3 w3)) (own_z nn 4 w4)) (own_z nn 5 w5))), .second, .val (.int (6 : Int32))] [(.int (6 : Int32)), (.ref a1), (.long ((own_acc (own_acc (own_acc (own_acc (own_acc (own_acc (0 : Int64) (own_z nn 0 w0)) (own_z nn 1 w1)) (own_z nn 2 w2)) (own_z nn 3 w3)) (own_z nn 4 w4)) (own_z nn 5 w5)) <<< ((8 : Int32) &&& 0x3f).toInt64))])) rfl rfl (hb hby own_d2_22) _ k) ?_
                refine own_via (g' := s₁.setTop (mkF m 26 #[.val (.ref a1), .val (.long (own_acc (own_acc (own_acc (own_acc (own_acc (own_acc (0 : Int64) (own_z nn 0 w0)) (own_z nn 1 w1)) (own_z nn 2 w2)) (own_z nn 3 w3)) (own_z nn 4 w4)) (own_z nn 5 w5))), .second, .val (.int (6 : Int32))] [(.int (255 : Int32)), (.int w6), (.long ((own_acc (own_acc (own_acc (own_acc (own_acc (own_acc (0 : Int64) (own_z nn 0 w0)) (own_z nn 1 w1)) (own_z nn 2 w2)) (own_z nn 3 w3)) (own_z nn 4 w4)) (own_z nn 5 w5)) <<< ((8 : Int32) &&& 0x3f).toInt64))])) (fun t k => XS.sipush X0.here hx rfl (hb hby own_d2_23) k) ?_
                refine own_via (g' := s₁.setTop (mkF m 27 #[.val (.ref a1), .val (.long (own_acc (own_acc (own_acc (own_acc (own_acc (own_acc (0 : Int64) (own_z nn 0 w0)) (own_z nn 1 w1)) (own_z nn 2 w2)) (own_z nn 3 w3)) (own_z nn 4 w4)) (own_z nn 5 w5))), .second, .val (.int (6 : Int32))] [(.int (w6 &&& (255 : Int32))), (.long ((own_acc (own_acc (own_acc (own_acc (own_acc (own_acc (0 : Int64) (own_z nn 0 w0)) (own_z nn 1 w1)) (own_z nn 2 w2)) (own_z nn 3 w3)) (own_z nn 4 w4)) (own_z nn 5 w5)) <<< ((8 : Int32) &&& 0x3f).toInt64))])) (fun t k => XS.iand X0.here hx rfl (hb hby own_d2_26) rfl k) ?_
                refine own_via (g' := s₁.setTop (mkF m 31 #[.val (.ref a1), .val (.long (own_acc (own_acc (own_acc (own_acc (own_acc (own_acc (0 : Int64) (own_z nn 0 w0)) (own_z nn 1 w1)) (own_z nn 2 w2)) (own_z nn 3 w3)) (own_z nn 4 w4)) (own_z nn 5 w5))), .second, .val (.int (6 : Int32))] [(.int (w6 &&& (255 : Int32))), (.long ((own_acc (own_acc (own_acc (own_acc (own_acc (own_acc (0 : Int64) (own_z nn 0 w0)) (own_z nn 1 w1)) (own_z nn 2 w2)) (own_z nn 3 w3)) (own_z nn 4 w4)) (own_z nn 5 w5)) <<< ((8 : Int32) &&& 0x3f).toInt64))])) (fun t k => XS.goto X0.here hx rfl (pc0 := 27) (pc' := 31) rfl (hb hby own_d2_27) (by decide) (by decide) k) ?_
                exact J107 (w6 &&& (255 : Int32)) (by rw [own_z, if_pos hc17_110])
              · refine own_via (g' := s₁.setTop (mkF m 30 #[.val (.ref a1), .val (.long (own_acc (own_acc (own_acc (own_acc (own_acc (own_acc (0 : Int64) (own_z nn 0 w0)) (own_z nn 1 w1)) (own_z nn 2 w2)) (own_z nn 3 w3)) (own_z nn 4 w4)) (own_z nn 5 w5))), .second, .val (.int (6 : Int32))] [(.long ((own_acc (own_acc (own_acc (own_acc (own_acc (own_acc (0 : Int64) (own_z nn 0 w0)) (own_z nn 1 w1)) (own_z nn 2 w2)) (own_z nn 3 w3)) (own_z nn 4 w4)) (own_z nn 5 w5)) <<< ((8 : Int32) &&& 0x3f).toInt64))])) (fun t k => XS.icmpYes X0.here hx rfl (pc0 := 17) (pc' := 30) rfl (hb hby own_d2_17) rfl (XT.ii_ge_t hc17_110) (by decide) (by decide) k) ?_
                refine own_via (g' := s₁.setTop (mkF m 31 #[.val (.ref a1), .val (.long (own_acc (own_acc (own_acc (own_acc (own_acc (own_acc (0 : Int64) (own_z nn 0 w0)) (own_z nn 1 w1)) (own_z nn 2 w2)) (own_z nn 3 w3)) (own_z nn 4 w4)) (own_z nn 5 w5))), .second, .val (.int (6 : Int32))] [(.int (0 : Int32)), (.long ((own_acc (own_acc (own_acc (own_acc (own_acc (own_acc (0 : Int64) (own_z nn 0 w0)) (own_z nn 1 w1)) (own_z nn 2 w2)) (own_z nn 3 w3)) (own_z nn 4 w4)) (own_z nn 5 w5)) <<< ((8 : Int32) &&& 0x3f).toInt64))])) (fun t k => XS.iconst X0.here hx rfl (hb hby own_d2_30) k) ?_
                exact J107 (0 : Int32) (by rw [own_z, if_neg hc17_110])
            by_cases hc17_111 : (5 : Int32) < nn
            · refine own_via (g' := s₁.setTop (mkF m 20 #[.val (.ref a1), .val (.long (own_acc (own_acc (own_acc (own_acc (own_acc (0 : Int64) (own_z nn 0 w0)) (own_z nn 1 w1)) (own_z nn 2 w2)) (own_z nn 3 w3)) (own_z nn 4 w4))), .second, .val (.int (5 : Int32))] [(.long ((own_acc (own_acc (own_acc (own_acc (own_acc (0 : Int64) (own_z nn 0 w0)) (own_z nn 1 w1)) (own_z nn 2 w2)) (own_z nn 3 w3)) (own_z nn 4 w4)) <<< ((8 : Int32) &&& 0x3f).toInt64))])) (fun t k => XS.icmpNo X0.here hx rfl (hb hby own_d2_17) rfl (XT.ii_ge_f hc17_111) k) ?_
              refine own_via (g' := s₁.setTop (mkF m 21 #[.val (.ref a1), .val (.long (own_acc (own_acc (own_acc (own_acc (own_acc (0 : Int64) (own_z nn 0 w0)) (own_z nn 1 w1)) (own_z nn 2 w2)) (own_z nn 3 w3)) (own_z nn 4 w4))), .second, .val (.int (5 : Int32))] [(.ref a1), (.long ((own_acc (own_acc (own_acc (own_acc (own_acc (0 : Int64) (own_z nn 0 w0)) (own_z nn 1 w1)) (own_z nn 2 w2)) (own_z nn 3 w3)) (own_z nn 4 w4)) <<< ((8 : Int32) &&& 0x3f).toInt64))])) (fun t k => XS.aloadN X0.here hx rfl (hb hby own_d2_20) rfl (rfl) k) ?_
              refine own_via (g' := s₁.setTop (mkF m 22 #[.val (.ref a1), .val (.long (own_acc (own_acc (own_acc (own_acc (own_acc (0 : Int64) (own_z nn 0 w0)) (own_z nn 1 w1)) (own_z nn 2 w2)) (own_z nn 3 w3)) (own_z nn 4 w4))), .second, .val (.int (5 : Int32))] [(.int (5 : Int32)), (.ref a1), (.long ((own_acc (own_acc (own_acc (own_acc (own_acc (0 : Int64) (own_z nn 0 w0)) (own_z nn 1 w1)) (own_z nn 2 w2)) (own_z nn 3 w3)) (own_z nn 4 w4)) <<< ((8 : Int32) &&& 0x3f).toInt64))])) (fun t k => XS.iloadN X0.here hx rfl (hb hby own_d2_21) rfl k) ?_
              refine own_via (g' := s₁.setTop (mkF m 23 #[.val (.ref a1), .val (.long (own_acc (own_acc (own_acc (own_acc (own_acc (0 : Int64) (own_z nn 0 w0)) (own_z nn 1 w1)) (own_z nn 2 w2)) (own_z nn 3 w3)) (own_z nn 4 w4))), .second, .val (.int (5 : Int32))] [(.int w5), (.long ((own_acc (own_acc (own_acc (own_acc (own_acc (0 : Int64) (own_z nn 0 w0)) (own_z nn 1 w1)) (own_z nn 2 w2)) (own_z nn 3 w3)) (own_z nn 4 w4)) <<< ((8 : Int32) &&& 0x3f).toInt64))])) (fun t k => own_ldB X0 hx hZ e0 A_a1 (j := (5 : Int32)) (v := (.int w5)) (by decide) (hg5 hc17_111) (g := (mkF m 22 #[.val (.ref a1), .val (.long (own_acc (own_acc (own_acc (own_acc (own_acc (0 : Int64) (own_z nn 0 w0)) (own_z nn 1 w1)) (own_z nn 2 w2)) (own_z nn 3 w3)) (own_z nn 4 w4))), .second, .val (.int (5 : Int32))] [(.int (5 : Int32)), (.ref a1), (.long ((own_acc (own_acc (own_acc (own_acc (own_acc (0 : Int64) (own_z nn 0 w0)) (own_z nn 1 w1)) (own_z nn 2 w2)) (own_z nn 3 w3)) (own_z nn 4 w4)) <<< ((8 : Int32) &&& 0x3f).toInt64))])) rfl rfl (hb hby own_d2_22) _ k) ?_
              refine own_via (g' := s₁.setTop (mkF m 26 #[.val (.ref a1), .val (.long (own_acc (own_acc (own_acc (own_acc (own_acc (0 : Int64) (own_z nn 0 w0)) (own_z nn 1 w1)) (own_z nn 2 w2)) (own_z nn 3 w3)) (own_z nn 4 w4))), .second, .val (.int (5 : Int32))] [(.int (255 : Int32)), (.int w5), (.long ((own_acc (own_acc (own_acc (own_acc (own_acc (0 : Int64) (own_z nn 0 w0)) (own_z nn 1 w1)) (own_z nn 2 w2)) (own_z nn 3 w3)) (own_z nn 4 w4)) <<< ((8 : Int32) &&& 0x3f).toInt64))])) (fun t k => XS.sipush X0.here hx rfl (hb hby own_d2_23) k) ?_
              refine own_via (g' := s₁.setTop (mkF m 27 #[.val (.ref a1), .val (.long (own_acc (own_acc (own_acc (own_acc (own_acc (0 : Int64) (own_z nn 0 w0)) (own_z nn 1 w1)) (own_z nn 2 w2)) (own_z nn 3 w3)) (own_z nn 4 w4))), .second, .val (.int (5 : Int32))] [(.int (w5 &&& (255 : Int32))), (.long ((own_acc (own_acc (own_acc (own_acc (own_acc (0 : Int64) (own_z nn 0 w0)) (own_z nn 1 w1)) (own_z nn 2 w2)) (own_z nn 3 w3)) (own_z nn 4 w4)) <<< ((8 : Int32) &&& 0x3f).toInt64))])) (fun t k => XS.iand X0.here hx rfl (hb hby own_d2_26) rfl k) ?_
              refine own_via (g' := s₁.setTop (mkF m 31 #[.val (.ref a1), .val (.long (own_acc (own_acc (own_acc (own_acc (own_acc (0 : Int64) (own_z nn 0 w0)) (own_z nn 1 w1)) (own_z nn 2 w2)) (own_z nn 3 w3)) (own_z nn 4 w4))), .second, .val (.int (5 : Int32))] [(.int (w5 &&& (255 : Int32))), (.long ((own_acc (own_acc (own_acc (own_acc (own_acc (0 : Int64) (own_z nn 0 w0)) (own_z nn 1 w1)) (own_z nn 2 w2)) (own_z nn 3 w3)) (own_z nn 4 w4)) <<< ((8 : Int32) &&& 0x3f).toInt64))])) (fun t k => XS.goto X0.here hx rfl (pc0 := 27) (pc' := 31) rfl (hb hby own_d2_27) (by decide) (by decide) k) ?_
              exact J106 (w5 &&& (255 : Int32)) (by rw [own_z, if_pos hc17_111])
            · refine own_via (g' := s₁.setTop (mkF m 30 #[.val (.ref a1), .val (.long (own_acc (own_acc (own_acc (own_acc (own_acc (0 : Int64) (own_z nn 0 w0)) (own_z nn 1 w1)) (own_z nn 2 w2)) (own_z nn 3 w3)) (own_z nn 4 w4))), .second, .val (.int (5 : Int32))] [(.long ((own_acc (own_acc (own_acc (own_acc (own_acc (0 : Int64) (own_z nn 0 w0)) (own_z nn 1 w1)) (own_z nn 2 w2)) (own_z nn 3 w3)) (own_z nn 4 w4)) <<< ((8 : Int32) &&& 0x3f).toInt64))])) (fun t k => XS.icmpYes X0.here hx rfl (pc0 := 17) (pc' := 30) rfl (hb hby own_d2_17) rfl (XT.ii_ge_t hc17_111) (by decide) (by decide) k) ?_
              refine own_via (g' := s₁.setTop (mkF m 31 #[.val (.ref a1), .val (.long (own_acc (own_acc (own_acc (own_acc (own_acc (0 : Int64) (own_z nn 0 w0)) (own_z nn 1 w1)) (own_z nn 2 w2)) (own_z nn 3 w3)) (own_z nn 4 w4))), .second, .val (.int (5 : Int32))] [(.int (0 : Int32)), (.long ((own_acc (own_acc (own_acc (own_acc (own_acc (0 : Int64) (own_z nn 0 w0)) (own_z nn 1 w1)) (own_z nn 2 w2)) (own_z nn 3 w3)) (own_z nn 4 w4)) <<< ((8 : Int32) &&& 0x3f).toInt64))])) (fun t k => XS.iconst X0.here hx rfl (hb hby own_d2_30) k) ?_
              exact J106 (0 : Int32) (by rw [own_z, if_neg hc17_111])
          by_cases hc17_112 : (4 : Int32) < nn
          · refine own_via (g' := s₁.setTop (mkF m 20 #[.val (.ref a1), .val (.long (own_acc (own_acc (own_acc (own_acc (0 : Int64) (own_z nn 0 w0)) (own_z nn 1 w1)) (own_z nn 2 w2)) (own_z nn 3 w3))), .second, .val (.int (4 : Int32))] [(.long ((own_acc (own_acc (own_acc (own_acc (0 : Int64) (own_z nn 0 w0)) (own_z nn 1 w1)) (own_z nn 2 w2)) (own_z nn 3 w3)) <<< ((8 : Int32) &&& 0x3f).toInt64))])) (fun t k => XS.icmpNo X0.here hx rfl (hb hby own_d2_17) rfl (XT.ii_ge_f hc17_112) k) ?_
            refine own_via (g' := s₁.setTop (mkF m 21 #[.val (.ref a1), .val (.long (own_acc (own_acc (own_acc (own_acc (0 : Int64) (own_z nn 0 w0)) (own_z nn 1 w1)) (own_z nn 2 w2)) (own_z nn 3 w3))), .second, .val (.int (4 : Int32))] [(.ref a1), (.long ((own_acc (own_acc (own_acc (own_acc (0 : Int64) (own_z nn 0 w0)) (own_z nn 1 w1)) (own_z nn 2 w2)) (own_z nn 3 w3)) <<< ((8 : Int32) &&& 0x3f).toInt64))])) (fun t k => XS.aloadN X0.here hx rfl (hb hby own_d2_20) rfl (rfl) k) ?_
            refine own_via (g' := s₁.setTop (mkF m 22 #[.val (.ref a1), .val (.long (own_acc (own_acc (own_acc (own_acc (0 : Int64) (own_z nn 0 w0)) (own_z nn 1 w1)) (own_z nn 2 w2)) (own_z nn 3 w3))), .second, .val (.int (4 : Int32))] [(.int (4 : Int32)), (.ref a1), (.long ((own_acc (own_acc (own_acc (own_acc (0 : Int64) (own_z nn 0 w0)) (own_z nn 1 w1)) (own_z nn 2 w2)) (own_z nn 3 w3)) <<< ((8 : Int32) &&& 0x3f).toInt64))])) (fun t k => XS.iloadN X0.here hx rfl (hb hby own_d2_21) rfl k) ?_
            refine own_via (g' := s₁.setTop (mkF m 23 #[.val (.ref a1), .val (.long (own_acc (own_acc (own_acc (own_acc (0 : Int64) (own_z nn 0 w0)) (own_z nn 1 w1)) (own_z nn 2 w2)) (own_z nn 3 w3))), .second, .val (.int (4 : Int32))] [(.int w4), (.long ((own_acc (own_acc (own_acc (own_acc (0 : Int64) (own_z nn 0 w0)) (own_z nn 1 w1)) (own_z nn 2 w2)) (own_z nn 3 w3)) <<< ((8 : Int32) &&& 0x3f).toInt64))])) (fun t k => own_ldB X0 hx hZ e0 A_a1 (j := (4 : Int32)) (v := (.int w4)) (by decide) (hg4 hc17_112) (g := (mkF m 22 #[.val (.ref a1), .val (.long (own_acc (own_acc (own_acc (own_acc (0 : Int64) (own_z nn 0 w0)) (own_z nn 1 w1)) (own_z nn 2 w2)) (own_z nn 3 w3))), .second, .val (.int (4 : Int32))] [(.int (4 : Int32)), (.ref a1), (.long ((own_acc (own_acc (own_acc (own_acc (0 : Int64) (own_z nn 0 w0)) (own_z nn 1 w1)) (own_z nn 2 w2)) (own_z nn 3 w3)) <<< ((8 : Int32) &&& 0x3f).toInt64))])) rfl rfl (hb hby own_d2_22) _ k) ?_
            refine own_via (g' := s₁.setTop (mkF m 26 #[.val (.ref a1), .val (.long (own_acc (own_acc (own_acc (own_acc (0 : Int64) (own_z nn 0 w0)) (own_z nn 1 w1)) (own_z nn 2 w2)) (own_z nn 3 w3))), .second, .val (.int (4 : Int32))] [(.int (255 : Int32)), (.int w4), (.long ((own_acc (own_acc (own_acc (own_acc (0 : Int64) (own_z nn 0 w0)) (own_z nn 1 w1)) (own_z nn 2 w2)) (own_z nn 3 w3)) <<< ((8 : Int32) &&& 0x3f).toInt64))])) (fun t k => XS.sipush X0.here hx rfl (hb hby own_d2_23) k) ?_
            refine own_via (g' := s₁.setTop (mkF m 27 #[.val (.ref a1), .val (.long (own_acc (own_acc (own_acc (own_acc (0 : Int64) (own_z nn 0 w0)) (own_z nn 1 w1)) (own_z nn 2 w2)) (own_z nn 3 w3))), .second, .val (.int (4 : Int32))] [(.int (w4 &&& (255 : Int32))), (.long ((own_acc (own_acc (own_acc (own_acc (0 : Int64) (own_z nn 0 w0)) (own_z nn 1 w1)) (own_z nn 2 w2)) (own_z nn 3 w3)) <<< ((8 : Int32) &&& 0x3f).toInt64))])) (fun t k => XS.iand X0.here hx rfl (hb hby own_d2_26) rfl k) ?_
            refine own_via (g' := s₁.setTop (mkF m 31 #[.val (.ref a1), .val (.long (own_acc (own_acc (own_acc (own_acc (0 : Int64) (own_z nn 0 w0)) (own_z nn 1 w1)) (own_z nn 2 w2)) (own_z nn 3 w3))), .second, .val (.int (4 : Int32))] [(.int (w4 &&& (255 : Int32))), (.long ((own_acc (own_acc (own_acc (own_acc (0 : Int64) (own_z nn 0 w0)) (own_z nn 1 w1)) (own_z nn 2 w2)) (own_z nn 3 w3)) <<< ((8 : Int32) &&& 0x3f).toInt64))])) (fun t k => XS.goto X0.here hx rfl (pc0 := 27) (pc' := 31) rfl (hb hby own_d2_27) (by decide) (by decide) k) ?_
            exact J105 (w4 &&& (255 : Int32)) (by rw [own_z, if_pos hc17_112])
          · refine own_via (g' := s₁.setTop (mkF m 30 #[.val (.ref a1), .val (.long (own_acc (own_acc (own_acc (own_acc (0 : Int64) (own_z nn 0 w0)) (own_z nn 1 w1)) (own_z nn 2 w2)) (own_z nn 3 w3))), .second, .val (.int (4 : Int32))] [(.long ((own_acc (own_acc (own_acc (own_acc (0 : Int64) (own_z nn 0 w0)) (own_z nn 1 w1)) (own_z nn 2 w2)) (own_z nn 3 w3)) <<< ((8 : Int32) &&& 0x3f).toInt64))])) (fun t k => XS.icmpYes X0.here hx rfl (pc0 := 17) (pc' := 30) rfl (hb hby own_d2_17) rfl (XT.ii_ge_t hc17_112) (by decide) (by decide) k) ?_
            refine own_via (g' := s₁.setTop (mkF m 31 #[.val (.ref a1), .val (.long (own_acc (own_acc (own_acc (own_acc (0 : Int64) (own_z nn 0 w0)) (own_z nn 1 w1)) (own_z nn 2 w2)) (own_z nn 3 w3))), .second, .val (.int (4 : Int32))] [(.int (0 : Int32)), (.long ((own_acc (own_acc (own_acc (own_acc (0 : Int64) (own_z nn 0 w0)) (own_z nn 1 w1)) (own_z nn 2 w2)) (own_z nn 3 w3)) <<< ((8 : Int32) &&& 0x3f).toInt64))])) (fun t k => XS.iconst X0.here hx rfl (hb hby own_d2_30) k) ?_
            exact J105 (0 : Int32) (by rw [own_z, if_neg hc17_112])
        by_cases hc17_113 : (3 : Int32) < nn
        · refine own_via (g' := s₁.setTop (mkF m 20 #[.val (.ref a1), .val (.long (own_acc (own_acc (own_acc (0 : Int64) (own_z nn 0 w0)) (own_z nn 1 w1)) (own_z nn 2 w2))), .second, .val (.int (3 : Int32))] [(.long ((own_acc (own_acc (own_acc (0 : Int64) (own_z nn 0 w0)) (own_z nn 1 w1)) (own_z nn 2 w2)) <<< ((8 : Int32) &&& 0x3f).toInt64))])) (fun t k => XS.icmpNo X0.here hx rfl (hb hby own_d2_17) rfl (XT.ii_ge_f hc17_113) k) ?_
          refine own_via (g' := s₁.setTop (mkF m 21 #[.val (.ref a1), .val (.long (own_acc (own_acc (own_acc (0 : Int64) (own_z nn 0 w0)) (own_z nn 1 w1)) (own_z nn 2 w2))), .second, .val (.int (3 : Int32))] [(.ref a1), (.long ((own_acc (own_acc (own_acc (0 : Int64) (own_z nn 0 w0)) (own_z nn 1 w1)) (own_z nn 2 w2)) <<< ((8 : Int32) &&& 0x3f).toInt64))])) (fun t k => XS.aloadN X0.here hx rfl (hb hby own_d2_20) rfl (rfl) k) ?_
          refine own_via (g' := s₁.setTop (mkF m 22 #[.val (.ref a1), .val (.long (own_acc (own_acc (own_acc (0 : Int64) (own_z nn 0 w0)) (own_z nn 1 w1)) (own_z nn 2 w2))), .second, .val (.int (3 : Int32))] [(.int (3 : Int32)), (.ref a1), (.long ((own_acc (own_acc (own_acc (0 : Int64) (own_z nn 0 w0)) (own_z nn 1 w1)) (own_z nn 2 w2)) <<< ((8 : Int32) &&& 0x3f).toInt64))])) (fun t k => XS.iloadN X0.here hx rfl (hb hby own_d2_21) rfl k) ?_
          refine own_via (g' := s₁.setTop (mkF m 23 #[.val (.ref a1), .val (.long (own_acc (own_acc (own_acc (0 : Int64) (own_z nn 0 w0)) (own_z nn 1 w1)) (own_z nn 2 w2))), .second, .val (.int (3 : Int32))] [(.int w3), (.long ((own_acc (own_acc (own_acc (0 : Int64) (own_z nn 0 w0)) (own_z nn 1 w1)) (own_z nn 2 w2)) <<< ((8 : Int32) &&& 0x3f).toInt64))])) (fun t k => own_ldB X0 hx hZ e0 A_a1 (j := (3 : Int32)) (v := (.int w3)) (by decide) (hg3 hc17_113) (g := (mkF m 22 #[.val (.ref a1), .val (.long (own_acc (own_acc (own_acc (0 : Int64) (own_z nn 0 w0)) (own_z nn 1 w1)) (own_z nn 2 w2))), .second, .val (.int (3 : Int32))] [(.int (3 : Int32)), (.ref a1), (.long ((own_acc (own_acc (own_acc (0 : Int64) (own_z nn 0 w0)) (own_z nn 1 w1)) (own_z nn 2 w2)) <<< ((8 : Int32) &&& 0x3f).toInt64))])) rfl rfl (hb hby own_d2_22) _ k) ?_
          refine own_via (g' := s₁.setTop (mkF m 26 #[.val (.ref a1), .val (.long (own_acc (own_acc (own_acc (0 : Int64) (own_z nn 0 w0)) (own_z nn 1 w1)) (own_z nn 2 w2))), .second, .val (.int (3 : Int32))] [(.int (255 : Int32)), (.int w3), (.long ((own_acc (own_acc (own_acc (0 : Int64) (own_z nn 0 w0)) (own_z nn 1 w1)) (own_z nn 2 w2)) <<< ((8 : Int32) &&& 0x3f).toInt64))])) (fun t k => XS.sipush X0.here hx rfl (hb hby own_d2_23) k) ?_
          refine own_via (g' := s₁.setTop (mkF m 27 #[.val (.ref a1), .val (.long (own_acc (own_acc (own_acc (0 : Int64) (own_z nn 0 w0)) (own_z nn 1 w1)) (own_z nn 2 w2))), .second, .val (.int (3 : Int32))] [(.int (w3 &&& (255 : Int32))), (.long ((own_acc (own_acc (own_acc (0 : Int64) (own_z nn 0 w0)) (own_z nn 1 w1)) (own_z nn 2 w2)) <<< ((8 : Int32) &&& 0x3f).toInt64))])) (fun t k => XS.iand X0.here hx rfl (hb hby own_d2_26) rfl k) ?_
          refine own_via (g' := s₁.setTop (mkF m 31 #[.val (.ref a1), .val (.long (own_acc (own_acc (own_acc (0 : Int64) (own_z nn 0 w0)) (own_z nn 1 w1)) (own_z nn 2 w2))), .second, .val (.int (3 : Int32))] [(.int (w3 &&& (255 : Int32))), (.long ((own_acc (own_acc (own_acc (0 : Int64) (own_z nn 0 w0)) (own_z nn 1 w1)) (own_z nn 2 w2)) <<< ((8 : Int32) &&& 0x3f).toInt64))])) (fun t k => XS.goto X0.here hx rfl (pc0 := 27) (pc' := 31) rfl (hb hby own_d2_27) (by decide) (by decide) k) ?_
          exact J104 (w3 &&& (255 : Int32)) (by rw [own_z, if_pos hc17_113])
        · refine own_via (g' := s₁.setTop (mkF m 30 #[.val (.ref a1), .val (.long (own_acc (own_acc (own_acc (0 : Int64) (own_z nn 0 w0)) (own_z nn 1 w1)) (own_z nn 2 w2))), .second, .val (.int (3 : Int32))] [(.long ((own_acc (own_acc (own_acc (0 : Int64) (own_z nn 0 w0)) (own_z nn 1 w1)) (own_z nn 2 w2)) <<< ((8 : Int32) &&& 0x3f).toInt64))])) (fun t k => XS.icmpYes X0.here hx rfl (pc0 := 17) (pc' := 30) rfl (hb hby own_d2_17) rfl (XT.ii_ge_t hc17_113) (by decide) (by decide) k) ?_
          refine own_via (g' := s₁.setTop (mkF m 31 #[.val (.ref a1), .val (.long (own_acc (own_acc (own_acc (0 : Int64) (own_z nn 0 w0)) (own_z nn 1 w1)) (own_z nn 2 w2))), .second, .val (.int (3 : Int32))] [(.int (0 : Int32)), (.long ((own_acc (own_acc (own_acc (0 : Int64) (own_z nn 0 w0)) (own_z nn 1 w1)) (own_z nn 2 w2)) <<< ((8 : Int32) &&& 0x3f).toInt64))])) (fun t k => XS.iconst X0.here hx rfl (hb hby own_d2_30) k) ?_
          exact J104 (0 : Int32) (by rw [own_z, if_neg hc17_113])
      by_cases hc17_114 : (2 : Int32) < nn
      · refine own_via (g' := s₁.setTop (mkF m 20 #[.val (.ref a1), .val (.long (own_acc (own_acc (0 : Int64) (own_z nn 0 w0)) (own_z nn 1 w1))), .second, .val (.int (2 : Int32))] [(.long ((own_acc (own_acc (0 : Int64) (own_z nn 0 w0)) (own_z nn 1 w1)) <<< ((8 : Int32) &&& 0x3f).toInt64))])) (fun t k => XS.icmpNo X0.here hx rfl (hb hby own_d2_17) rfl (XT.ii_ge_f hc17_114) k) ?_
        refine own_via (g' := s₁.setTop (mkF m 21 #[.val (.ref a1), .val (.long (own_acc (own_acc (0 : Int64) (own_z nn 0 w0)) (own_z nn 1 w1))), .second, .val (.int (2 : Int32))] [(.ref a1), (.long ((own_acc (own_acc (0 : Int64) (own_z nn 0 w0)) (own_z nn 1 w1)) <<< ((8 : Int32) &&& 0x3f).toInt64))])) (fun t k => XS.aloadN X0.here hx rfl (hb hby own_d2_20) rfl (rfl) k) ?_
        refine own_via (g' := s₁.setTop (mkF m 22 #[.val (.ref a1), .val (.long (own_acc (own_acc (0 : Int64) (own_z nn 0 w0)) (own_z nn 1 w1))), .second, .val (.int (2 : Int32))] [(.int (2 : Int32)), (.ref a1), (.long ((own_acc (own_acc (0 : Int64) (own_z nn 0 w0)) (own_z nn 1 w1)) <<< ((8 : Int32) &&& 0x3f).toInt64))])) (fun t k => XS.iloadN X0.here hx rfl (hb hby own_d2_21) rfl k) ?_
        refine own_via (g' := s₁.setTop (mkF m 23 #[.val (.ref a1), .val (.long (own_acc (own_acc (0 : Int64) (own_z nn 0 w0)) (own_z nn 1 w1))), .second, .val (.int (2 : Int32))] [(.int w2), (.long ((own_acc (own_acc (0 : Int64) (own_z nn 0 w0)) (own_z nn 1 w1)) <<< ((8 : Int32) &&& 0x3f).toInt64))])) (fun t k => own_ldB X0 hx hZ e0 A_a1 (j := (2 : Int32)) (v := (.int w2)) (by decide) (hg2 hc17_114) (g := (mkF m 22 #[.val (.ref a1), .val (.long (own_acc (own_acc (0 : Int64) (own_z nn 0 w0)) (own_z nn 1 w1))), .second, .val (.int (2 : Int32))] [(.int (2 : Int32)), (.ref a1), (.long ((own_acc (own_acc (0 : Int64) (own_z nn 0 w0)) (own_z nn 1 w1)) <<< ((8 : Int32) &&& 0x3f).toInt64))])) rfl rfl (hb hby own_d2_22) _ k) ?_
        refine own_via (g' := s₁.setTop (mkF m 26 #[.val (.ref a1), .val (.long (own_acc (own_acc (0 : Int64) (own_z nn 0 w0)) (own_z nn 1 w1))), .second, .val (.int (2 : Int32))] [(.int (255 : Int32)), (.int w2), (.long ((own_acc (own_acc (0 : Int64) (own_z nn 0 w0)) (own_z nn 1 w1)) <<< ((8 : Int32) &&& 0x3f).toInt64))])) (fun t k => XS.sipush X0.here hx rfl (hb hby own_d2_23) k) ?_
        refine own_via (g' := s₁.setTop (mkF m 27 #[.val (.ref a1), .val (.long (own_acc (own_acc (0 : Int64) (own_z nn 0 w0)) (own_z nn 1 w1))), .second, .val (.int (2 : Int32))] [(.int (w2 &&& (255 : Int32))), (.long ((own_acc (own_acc (0 : Int64) (own_z nn 0 w0)) (own_z nn 1 w1)) <<< ((8 : Int32) &&& 0x3f).toInt64))])) (fun t k => XS.iand X0.here hx rfl (hb hby own_d2_26) rfl k) ?_
        refine own_via (g' := s₁.setTop (mkF m 31 #[.val (.ref a1), .val (.long (own_acc (own_acc (0 : Int64) (own_z nn 0 w0)) (own_z nn 1 w1))), .second, .val (.int (2 : Int32))] [(.int (w2 &&& (255 : Int32))), (.long ((own_acc (own_acc (0 : Int64) (own_z nn 0 w0)) (own_z nn 1 w1)) <<< ((8 : Int32) &&& 0x3f).toInt64))])) (fun t k => XS.goto X0.here hx rfl (pc0 := 27) (pc' := 31) rfl (hb hby own_d2_27) (by decide) (by decide) k) ?_
        exact J103 (w2 &&& (255 : Int32)) (by rw [own_z, if_pos hc17_114])
      · refine own_via (g' := s₁.setTop (mkF m 30 #[.val (.ref a1), .val (.long (own_acc (own_acc (0 : Int64) (own_z nn 0 w0)) (own_z nn 1 w1))), .second, .val (.int (2 : Int32))] [(.long ((own_acc (own_acc (0 : Int64) (own_z nn 0 w0)) (own_z nn 1 w1)) <<< ((8 : Int32) &&& 0x3f).toInt64))])) (fun t k => XS.icmpYes X0.here hx rfl (pc0 := 17) (pc' := 30) rfl (hb hby own_d2_17) rfl (XT.ii_ge_t hc17_114) (by decide) (by decide) k) ?_
        refine own_via (g' := s₁.setTop (mkF m 31 #[.val (.ref a1), .val (.long (own_acc (own_acc (0 : Int64) (own_z nn 0 w0)) (own_z nn 1 w1))), .second, .val (.int (2 : Int32))] [(.int (0 : Int32)), (.long ((own_acc (own_acc (0 : Int64) (own_z nn 0 w0)) (own_z nn 1 w1)) <<< ((8 : Int32) &&& 0x3f).toInt64))])) (fun t k => XS.iconst X0.here hx rfl (hb hby own_d2_30) k) ?_
        exact J103 (0 : Int32) (by rw [own_z, if_neg hc17_114])
    by_cases hc17_115 : (1 : Int32) < nn
    · refine own_via (g' := s₁.setTop (mkF m 20 #[.val (.ref a1), .val (.long (own_acc (0 : Int64) (own_z nn 0 w0))), .second, .val (.int (1 : Int32))] [(.long ((own_acc (0 : Int64) (own_z nn 0 w0)) <<< ((8 : Int32) &&& 0x3f).toInt64))])) (fun t k => XS.icmpNo X0.here hx rfl (hb hby own_d2_17) rfl (XT.ii_ge_f hc17_115) k) ?_
      refine own_via (g' := s₁.setTop (mkF m 21 #[.val (.ref a1), .val (.long (own_acc (0 : Int64) (own_z nn 0 w0))), .second, .val (.int (1 : Int32))] [(.ref a1), (.long ((own_acc (0 : Int64) (own_z nn 0 w0)) <<< ((8 : Int32) &&& 0x3f).toInt64))])) (fun t k => XS.aloadN X0.here hx rfl (hb hby own_d2_20) rfl (rfl) k) ?_
      refine own_via (g' := s₁.setTop (mkF m 22 #[.val (.ref a1), .val (.long (own_acc (0 : Int64) (own_z nn 0 w0))), .second, .val (.int (1 : Int32))] [(.int (1 : Int32)), (.ref a1), (.long ((own_acc (0 : Int64) (own_z nn 0 w0)) <<< ((8 : Int32) &&& 0x3f).toInt64))])) (fun t k => XS.iloadN X0.here hx rfl (hb hby own_d2_21) rfl k) ?_
      refine own_via (g' := s₁.setTop (mkF m 23 #[.val (.ref a1), .val (.long (own_acc (0 : Int64) (own_z nn 0 w0))), .second, .val (.int (1 : Int32))] [(.int w1), (.long ((own_acc (0 : Int64) (own_z nn 0 w0)) <<< ((8 : Int32) &&& 0x3f).toInt64))])) (fun t k => own_ldB X0 hx hZ e0 A_a1 (j := (1 : Int32)) (v := (.int w1)) (by decide) (hg1 hc17_115) (g := (mkF m 22 #[.val (.ref a1), .val (.long (own_acc (0 : Int64) (own_z nn 0 w0))), .second, .val (.int (1 : Int32))] [(.int (1 : Int32)), (.ref a1), (.long ((own_acc (0 : Int64) (own_z nn 0 w0)) <<< ((8 : Int32) &&& 0x3f).toInt64))])) rfl rfl (hb hby own_d2_22) _ k) ?_
      refine own_via (g' := s₁.setTop (mkF m 26 #[.val (.ref a1), .val (.long (own_acc (0 : Int64) (own_z nn 0 w0))), .second, .val (.int (1 : Int32))] [(.int (255 : Int32)), (.int w1), (.long ((own_acc (0 : Int64) (own_z nn 0 w0)) <<< ((8 : Int32) &&& 0x3f).toInt64))])) (fun t k => XS.sipush X0.here hx rfl (hb hby own_d2_23) k) ?_
      refine own_via (g' := s₁.setTop (mkF m 27 #[.val (.ref a1), .val (.long (own_acc (0 : Int64) (own_z nn 0 w0))), .second, .val (.int (1 : Int32))] [(.int (w1 &&& (255 : Int32))), (.long ((own_acc (0 : Int64) (own_z nn 0 w0)) <<< ((8 : Int32) &&& 0x3f).toInt64))])) (fun t k => XS.iand X0.here hx rfl (hb hby own_d2_26) rfl k) ?_
      refine own_via (g' := s₁.setTop (mkF m 31 #[.val (.ref a1), .val (.long (own_acc (0 : Int64) (own_z nn 0 w0))), .second, .val (.int (1 : Int32))] [(.int (w1 &&& (255 : Int32))), (.long ((own_acc (0 : Int64) (own_z nn 0 w0)) <<< ((8 : Int32) &&& 0x3f).toInt64))])) (fun t k => XS.goto X0.here hx rfl (pc0 := 27) (pc' := 31) rfl (hb hby own_d2_27) (by decide) (by decide) k) ?_
      exact J102 (w1 &&& (255 : Int32)) (by rw [own_z, if_pos hc17_115])
    · refine own_via (g' := s₁.setTop (mkF m 30 #[.val (.ref a1), .val (.long (own_acc (0 : Int64) (own_z nn 0 w0))), .second, .val (.int (1 : Int32))] [(.long ((own_acc (0 : Int64) (own_z nn 0 w0)) <<< ((8 : Int32) &&& 0x3f).toInt64))])) (fun t k => XS.icmpYes X0.here hx rfl (pc0 := 17) (pc' := 30) rfl (hb hby own_d2_17) rfl (XT.ii_ge_t hc17_115) (by decide) (by decide) k) ?_
      refine own_via (g' := s₁.setTop (mkF m 31 #[.val (.ref a1), .val (.long (own_acc (0 : Int64) (own_z nn 0 w0))), .second, .val (.int (1 : Int32))] [(.int (0 : Int32)), (.long ((own_acc (0 : Int64) (own_z nn 0 w0)) <<< ((8 : Int32) &&& 0x3f).toInt64))])) (fun t k => XS.iconst X0.here hx rfl (hb hby own_d2_30) k) ?_
      exact J102 (0 : Int32) (by rw [own_z, if_neg hc17_115])
  by_cases hc17_116 : (0 : Int32) < nn
  · refine own_via (g' := s₁.setTop (mkF m 20 #[.val (.ref a1), .val (.long (0 : Int64)), .second, .val (.int (0 : Int32))] [(.long ((0 : Int64) <<< ((8 : Int32) &&& 0x3f).toInt64))])) (fun t k => XS.icmpNo X0.here hx rfl (hb hby own_d2_17) rfl (XT.ii_ge_f hc17_116) k) ?_
    refine own_via (g' := s₁.setTop (mkF m 21 #[.val (.ref a1), .val (.long (0 : Int64)), .second, .val (.int (0 : Int32))] [(.ref a1), (.long ((0 : Int64) <<< ((8 : Int32) &&& 0x3f).toInt64))])) (fun t k => XS.aloadN X0.here hx rfl (hb hby own_d2_20) rfl (rfl) k) ?_
    refine own_via (g' := s₁.setTop (mkF m 22 #[.val (.ref a1), .val (.long (0 : Int64)), .second, .val (.int (0 : Int32))] [(.int (0 : Int32)), (.ref a1), (.long ((0 : Int64) <<< ((8 : Int32) &&& 0x3f).toInt64))])) (fun t k => XS.iloadN X0.here hx rfl (hb hby own_d2_21) rfl k) ?_
    refine own_via (g' := s₁.setTop (mkF m 23 #[.val (.ref a1), .val (.long (0 : Int64)), .second, .val (.int (0 : Int32))] [(.int w0), (.long ((0 : Int64) <<< ((8 : Int32) &&& 0x3f).toInt64))])) (fun t k => own_ldB X0 hx hZ e0 A_a1 (j := (0 : Int32)) (v := (.int w0)) (by decide) (hg0 hc17_116) (g := (mkF m 22 #[.val (.ref a1), .val (.long (0 : Int64)), .second, .val (.int (0 : Int32))] [(.int (0 : Int32)), (.ref a1), (.long ((0 : Int64) <<< ((8 : Int32) &&& 0x3f).toInt64))])) rfl rfl (hb hby own_d2_22) _ k) ?_
    refine own_via (g' := s₁.setTop (mkF m 26 #[.val (.ref a1), .val (.long (0 : Int64)), .second, .val (.int (0 : Int32))] [(.int (255 : Int32)), (.int w0), (.long ((0 : Int64) <<< ((8 : Int32) &&& 0x3f).toInt64))])) (fun t k => XS.sipush X0.here hx rfl (hb hby own_d2_23) k) ?_
    refine own_via (g' := s₁.setTop (mkF m 27 #[.val (.ref a1), .val (.long (0 : Int64)), .second, .val (.int (0 : Int32))] [(.int (w0 &&& (255 : Int32))), (.long ((0 : Int64) <<< ((8 : Int32) &&& 0x3f).toInt64))])) (fun t k => XS.iand X0.here hx rfl (hb hby own_d2_26) rfl k) ?_
    refine own_via (g' := s₁.setTop (mkF m 31 #[.val (.ref a1), .val (.long (0 : Int64)), .second, .val (.int (0 : Int32))] [(.int (w0 &&& (255 : Int32))), (.long ((0 : Int64) <<< ((8 : Int32) &&& 0x3f).toInt64))])) (fun t k => XS.goto X0.here hx rfl (pc0 := 27) (pc' := 31) rfl (hb hby own_d2_27) (by decide) (by decide) k) ?_
    exact J101 (w0 &&& (255 : Int32)) (by rw [own_z, if_pos hc17_116])
  · refine own_via (g' := s₁.setTop (mkF m 30 #[.val (.ref a1), .val (.long (0 : Int64)), .second, .val (.int (0 : Int32))] [(.long ((0 : Int64) <<< ((8 : Int32) &&& 0x3f).toInt64))])) (fun t k => XS.icmpYes X0.here hx rfl (pc0 := 17) (pc' := 30) rfl (hb hby own_d2_17) rfl (XT.ii_ge_t hc17_116) (by decide) (by decide) k) ?_
    refine own_via (g' := s₁.setTop (mkF m 31 #[.val (.ref a1), .val (.long (0 : Int64)), .second, .val (.int (0 : Int32))] [(.int (0 : Int32)), (.long ((0 : Int64) <<< ((8 : Int32) &&& 0x3f).toInt64))])) (fun t k => XS.iconst X0.here hx rfl (hb hby own_d2_30) k) ?_
    exact J101 (0 : Int32) (by rw [own_z, if_neg hc17_116])
theorem own_pd0 : parseMethodDescriptor "([BIJ)V" = some ⟨[(.array .byte), .int, .long], none⟩ := by decide +kernel
theorem own_pd1 : parseMethodDescriptor "([B)J" = some ⟨[(.array .byte)], some .long⟩ := by decide +kernel
theorem ef_own_rm0 (m : MethodId) (j0 : Int64) (j1 : Int64) (i2 : Int32) : entryFrame m #[(.long j0), (.long j1), (.int i2)] maxLocals = mkF m 0 #[.val (.long j0), .second, .val (.long j1), .second, .val (.int i2), .unset, .unset, .unset, .unset] [] := by first | (simp [entryFrame, mkF, argsToLocals, Value.category, maxLocals]; done) | rfl
def own_rm0_Q (Z : State) (j0 : Int64) (j1 : Int64) (i2 : Int32)  (h0 : Heap) (n0 : Nat) (v : Option Value) (h : Heap) (L : List Loc) : Prop := v = some (.int 1) ∧ Fr n0 L
set_option maxRecDepth 65536 in
set_option maxHeartbeats 40000000 in
theorem own_rm0 (l : Launch) (Z : State) (a0 : Array Value) (hw : ∀ d ∈ tables_1, d.before a0 Z = true) (ws : List Jvm.Cond) (j0 : Int64) (j1 : Int64) (i2 : Int32)  (h0 : Heap) (n0 : Nat) (Z0 : n0 ≤ h0.size) :
    MetFree l x (head1 (Jvm.Cond.code x code maxLocals ret :: ws) room_1) (fun a U => a = #[(.long j0), (.long j1), (.int i2)] ∧ Z.Warmed39 U.vm ∧ U.heap = h0) (fun _ _ _ _ _ => True) (fun _ U o U' => ∃ v L, o = .returned v ∧ own_rm0_Q Z j0 j1 i2  h0 n0 v U'.heap L ∧ FrameEnd U o U' L room_1.cells room_1.slots) := by
  refine MetFree.of_bodySF (plainFor_of_name own_pn0) hisR ?_
  intro p e s m args below meth c s₁ Bd hml0 hP hK
  obtain ⟨rfl, hZ, hh⟩ := hP
  have hx := Bd.exec
  have hby := Bd.bytes
  have hml : c.maxLocals = 9 := hml0
  have hown : s.vm.findClass "com/example/wykaz/wykaz/registry/KeyOrderLeadPinLaw" = some m.cls := findClass_of_methodNamed Bd.named
  have hnm := (name_of_methodNamed Bd.named Bd.method).1
  have hlk : meth.locks = false := BodyLoose.notSynchronized Bd
  have X0 : Stand p l e room_1 s m #[(.long j0), (.long j1), (.int i2)] below meth c s₁ [] 0 0 := Stand.of_body Bd
  have e0 : s₁.heap = h0 := by rw [← hh, Bd.state]; rfl
  have N0 := Fr.nil n0
  have K0 : Keep h0 h0 [] := Keep.refl h0 []
  show own_Fin p e below (own_P (own_rm0_Q Z j0 j1 i2  h0 n0) s room_1.cells room_1.slots) (s₁.setTop (entryFrame m #[(.long j0), (.long j1), (.int i2)] maxLocals))
  refine own_via (g' := s₁.setTop (mkF m 0 #[.val (.long j0), .second, .val (.long j1), .second, .val (.int i2), .unset, .unset, .unset, .unset] [])) (fun t k => castTop (ef_own_rm0 m j0 j1 i2) k) ?_
  refine own_via (g' := s₁.setTop (mkF m 2 #[.val (.long j0), .second, .val (.long j1), .second, .val (.int i2), .unset, .unset, .unset, .unset] [(.int i2)])) (fun t k => XS.iload X0.here hx rfl (hb hby at_0) rfl k) ?_
  refine own_via (g' := s₁.setTop (mkF m 4 #[.val (.long j0), .second, .val (.long j1), .second, .val (.int i2), .unset, .unset, .unset, .unset] [(.int (15 : Int32)), (.int i2)])) (fun t k => XS.bipush X0.here hx rfl (hb hby at_2) k) ?_
  refine own_via (g' := s₁.setTop (mkF m 5 #[.val (.long j0), .second, .val (.long j1), .second, .val (.int i2), .unset, .unset, .unset, .unset] [(.int (i2 &&& (15 : Int32)))])) (fun t k => XS.iand X0.here hx rfl (hb hby at_4) rfl k) ?_
  generalize hn : (i2 &&& (15 : Int32)) = n
  have hn0 : 0 ≤ n.toInt ∧ n.toInt ≤ 15 := hn ▸ c_and i2 15 (by decide)
  refine own_via (g' := s₁.setTop (mkF m 7 #[.val (.long j0), .second, .val (.long j1), .second, .val (.int i2), .val (.int n), .unset, .unset, .unset] [])) (fun t k => XS.istore X0.here hx rfl (hb hby at_5) rfl (l' := #[.val (.long j0), .second, .val (.long j1), .second, .val (.int i2), .val (.int n), .unset, .unset, .unset]) rfl k) ?_
  refine own_via (g' := s₁.setTop (mkF m 9 #[.val (.long j0), .second, .val (.long j1), .second, .val (.int i2), .val (.int n), .unset, .unset, .unset] [(.int n)])) (fun t k => XS.iload X0.here hx rfl (hb hby at_7) rfl k) ?_
  have hcl : n.toNatClampNeg ≤ 15 := by have := hn0; rw [Int32.toNatClampNeg]; omega
  have hnz : ¬ n < 0 := by have := hn0; rw [Int32.lt_iff_toInt_lt]; have : (0 : Int32).toInt = 0 := rfl; omega
  obtain ⟨T101, h101, X101, e101, E101, A101, st101⟩ := own_newP X0 hx hZ (aty := .byte) (hw _ (List.mem_of_getElem? (i := 0) rfl)) e0 (g := (mkF m 9 #[.val (.long j0), .second, .val (.long j1), .second, .val (.int i2), .val (.int n), .unset, .unset, .unset] [(.int n)])) rfl (hb hby at_9) rfl hnz (cap := 15) hcl (by decide) (by decide) (by decide)
  obtain ⟨b101, g101⟩ : ∃ z, z = h0.size := ⟨_, rfl⟩
  rw [← g101] at A101 st101
  have V101 : own_Ar Z h101 b101 .byte (List.replicate n.toNatClampNeg (.int 0)) := A101
  have sz_b101 : h0.size ≤ b101 := Nat.le_trans K0.1 (Nat.le_of_eq g101.symm)
  have g_b101 : n0 ≤ b101 := Nat.le_trans Z0 sz_b101
  have Kc101 : Keep h0 h101 [] := K0.ext E101
  refine own_via (g' := T101.setTop (mkF m 11 #[.val (.long j0), .second, .val (.long j1), .second, .val (.int i2), .val (.int n), .unset, .unset, .unset] [(.ref b101)])) (fun t k => st101 _ k) ?_
  refine own_via (g' := T101.setTop (mkF m 13 #[.val (.long j0), .second, .val (.long j1), .second, .val (.int i2), .val (.int n), .val (.ref b101), .unset, .unset] [])) (fun t k => XS.astore X101.here hx rfl (hb hby at_11) rfl (rfl) (l' := #[.val (.long j0), .second, .val (.long j1), .second, .val (.int i2), .val (.int n), .val (.ref b101), .unset, .unset]) rfl k) ?_
  obtain ⟨N, hN⟩ : ∃ N, N = n.toNatClampNeg := ⟨_, rfl⟩
  have hN15 : N ≤ 15 := hN ▸ hcl
  have hNb : N < 2147483648 := Nat.lt_of_le_of_lt hN15 (by decide)
  obtain ⟨L_0, qL_0⟩ : ∃ L', L' = List.replicate N (Value.int 0) := ⟨_, rfl⟩
  have hL_0 : L_0.length = N := by rw [qL_0, List.length_replicate]
  have VL0 : own_Ar Z h101 b101 .byte L_0 := by rw [qL_0, hN]; exact V101
  refine own_via (g' := T101.setTop (mkF m 15 #[.val (.long j0), .second, .val (.long j1), .second, .val (.int i2), .val (.int n), .val (.ref b101), .unset, .unset] [(.ref b101)])) (fun t k => XS.aload X101.here hx rfl (hb hby at_13) rfl (rfl) k) ?_
  refine own_via (g' := T101.setTop (mkF m 16 #[.val (.long j0), .second, .val (.long j1), .second, .val (.int i2), .val (.int n), .val (.ref b101), .unset, .unset] [(.int (0 : Int32)), (.ref b101)])) (fun t k => XS.iconst X101.here hx rfl (hb hby at_15) k) ?_
  refine own_via (g' := T101.setTop (mkF m 17 #[.val (.long j0), .second, .val (.long j1), .second, .val (.int i2), .val (.int n), .val (.ref b101), .unset, .unset] [(.long j0), (.int (0 : Int32)), (.ref b101)])) (fun t k => XT.lloadN X101.here hx rfl (hb hby at_16) rfl k) ?_
  refine own_via (g' := T101.setTop (mkF m 19 #[.val (.long j0), .second, .val (.long j1), .second, .val (.int i2), .val (.int n), .val (.ref b101), .unset, .unset] [(.int (56 : Int32)), (.long j0), (.int (0 : Int32)), (.ref b101)])) (fun t k => XS.bipush X101.here hx rfl (hb hby at_17) k) ?_
  refine own_via (g' := T101.setTop (mkF m 20 #[.val (.long j0), .second, .val (.long j1), .second, .val (.int i2), .val (.int n), .val (.ref b101), .unset, .unset] [(.long ((j0.toUInt64 >>> ((56 : Int32) &&& 0x3f).toInt64.toUInt64).toInt64)), (.int (0 : Int32)), (.ref b101)])) (fun t k => XS.lushr X101.here hx rfl (hb hby at_19) rfl k) ?_
  show own_Fin p e below _ (T101.setTop (mkF m 20 #[.val (.long j0), .second, .val (.long j1), .second, .val (.int i2), .val (.int n), .val (.ref b101), .unset, .unset] [(.long (own_sh j0 56)), (.int (0 : Int32)), (.ref b101)]))
  obtain ⟨v102, _, ⟨T102, L102, k102, n102⟩, -, X102, ⟨Lc102, hQ102, l102, y102, z102⟩, st102⟩ := Jvm.LawKit.callS X101 hx (y := (⟨"com/example/wykaz/wykaz/registry/KeyOrderLeadPinLaw", "put", "([BIJ)V"⟩ : MethodName)) hown (mvT hZ (hw _ (List.mem_of_getElem? (i := 1) rfl))) (mvT hZ (hw _ (List.mem_of_getElem? (i := 2) rfl))) (mvT hZ (hw _ (List.mem_of_getElem? (i := 3) rfl))) (mvT hZ (hw _ (List.mem_of_getElem? (i := 4) rfl))) (by decide) (backOf (W := 0) (own_rm1 l Z a0 hw [] b101 (0 : Int32) (own_sh j0 56) L_0 h101 n0 (Nat.le_trans Z0 Kc101.1) VL0 (by rw [hL_0]; exact hNb) (by decide) g_b101) hZ (hw _ (List.mem_of_getElem? (i := 4) rfl)) (hw _ (List.mem_of_getElem? (i := 3) rfl)) (by decide) (by decide)) (g := (mkF m 20 #[.val (.long j0), .second, .val (.long j1), .second, .val (.int i2), .val (.int n), .val (.ref b101), .unset, .unset] [(.long (own_sh j0 56)), (.int (0 : Int32)), (.ref b101)])) rfl (by rw [hml]; rfl) (argsL := [(.ref b101), (.int (0 : Int32)), (.long (own_sh j0 56))]) (rest := []) (lenOf own_pd0 rfl) rfl (by show 2 * 0 + _ ≤ _; exact Nat.le_of_eq rfl) (hb hby at_20) (fun _ _ => ⟨rfl, e101, (by decide : 1 + 0 ≤ _), (by decide : 15 + 0 ≤ _)⟩)
  dsimp only [Pt.U, Pt.locs, Pt.cells, Pt.slots] at X102 l102 y102 z102 st102 hQ102
  subst l102 y102 z102
  obtain ⟨rfl, N102q, K102, V102⟩ := hQ102
  have Kc102 : Keep h0 T102.heap [] := Kc101.trans K102 (allS (Or.inr sz_b101) all0)
  obtain ⟨L_1, qL_1⟩ : ∃ L', L' = L_0.set 0 (.int (own_b (own_sh j0 56))) := ⟨_, rfl⟩
  have V102' : own_Ar Z T102.heap b101 .byte L_1 := by rw [qL_1]; exact V102
  have hL_1 : L_1.length = N := by rw [qL_1, List.length_set]; exact hL_0
  have N102 := Fr.app N0 N102q
  refine own_via (g' := T102.setTop (mkF m 23 #[.val (.long j0), .second, .val (.long j1), .second, .val (.int i2), .val (.int n), .val (.ref b101), .unset, .unset] [])) (fun t k => st102 _ k) ?_
  refine own_via (g' := T102.setTop (mkF m 25 #[.val (.long j0), .second, .val (.long j1), .second, .val (.int i2), .val (.int n), .val (.ref b101), .unset, .unset] [(.ref b101)])) (fun t k => XS.aload X102.here hx rfl (hb hby at_23) rfl (rfl) k) ?_
  refine own_via (g' := T102.setTop (mkF m 26 #[.val (.long j0), .second, .val (.long j1), .second, .val (.int i2), .val (.int n), .val (.ref b101), .unset, .unset] [(.int (1 : Int32)), (.ref b101)])) (fun t k => XS.iconst X102.here hx rfl (hb hby at_25) k) ?_
  refine own_via (g' := T102.setTop (mkF m 27 #[.val (.long j0), .second, .val (.long j1), .second, .val (.int i2), .val (.int n), .val (.ref b101), .unset, .unset] [(.long j0), (.int (1 : Int32)), (.ref b101)])) (fun t k => XT.lloadN X102.here hx rfl (hb hby at_26) rfl k) ?_
  refine own_via (g' := T102.setTop (mkF m 29 #[.val (.long j0), .second, .val (.long j1), .second, .val (.int i2), .val (.int n), .val (.ref b101), .unset, .unset] [(.int (48 : Int32)), (.long j0), (.int (1 : Int32)), (.ref b101)])) (fun t k => XS.bipush X102.here hx rfl (hb hby at_27) k) ?_
  refine own_via (g' := T102.setTop (mkF m 30 #[.val (.long j0), .second, .val (.long j1), .second, .val (.int i2), .val (.int n), .val (.ref b101), .unset, .unset] [(.long ((j0.toUInt64 >>> ((48 : Int32) &&& 0x3f).toInt64.toUInt64).toInt64)), (.int (1 : Int32)), (.ref b101)])) (fun t k => XS.lushr X102.here hx rfl (hb hby at_29) rfl k) ?_
  show own_Fin p e below _ (T102.setTop (mkF m 30 #[.val (.long j0), .second, .val (.long j1), .second, .val (.int i2), .val (.int n), .val (.ref b101), .unset, .unset] [(.long (own_sh j0 48)), (.int (1 : Int32)), (.ref b101)]))
  obtain ⟨v103, _, ⟨T103, L103, k103, n103⟩, -, X103, ⟨Lc103, hQ103, l103, y103, z103⟩, st103⟩ := Jvm.LawKit.callS X102 hx (y := (⟨"com/example/wykaz/wykaz/registry/KeyOrderLeadPinLaw", "put", "([BIJ)V"⟩ : MethodName)) hown (mvT hZ (hw _ (List.mem_of_getElem? (i := 1) rfl))) (mvT hZ (hw _ (List.mem_of_getElem? (i := 2) rfl))) (mvT hZ (hw _ (List.mem_of_getElem? (i := 3) rfl))) (mvT hZ (hw _ (List.mem_of_getElem? (i := 4) rfl))) (by decide) (backOf (W := 0) (own_rm1 l Z a0 hw [] b101 (1 : Int32) (own_sh j0 48) L_1 T102.heap n0 (Nat.le_trans Z0 Kc102.1) V102' (by rw [hL_1]; exact hNb) (by decide) g_b101) hZ (hw _ (List.mem_of_getElem? (i := 4) rfl)) (hw _ (List.mem_of_getElem? (i := 3) rfl)) (by decide) (by decide)) (g := (mkF m 30 #[.val (.long j0), .second, .val (.long j1), .second, .val (.int i2), .val (.int n), .val (.ref b101), .unset, .unset] [(.long (own_sh j0 48)), (.int (1 : Int32)), (.ref b101)])) rfl (by rw [hml]; rfl) (argsL := [(.ref b101), (.int (1 : Int32)), (.long (own_sh j0 48))]) (rest := []) (lenOf own_pd0 rfl) rfl (by show 2 * 0 + _ ≤ _; exact Nat.le_of_eq rfl) (hb hby at_30) (fun _ _ => ⟨rfl, rfl, (by decide : 1 + 0 ≤ _), (by decide : 15 + 0 ≤ _)⟩)
  dsimp only [Pt.U, Pt.locs, Pt.cells, Pt.slots] at X103 l103 y103 z103 st103 hQ103
  subst l103 y103 z103
  obtain ⟨rfl, N103q, K103, V103⟩ := hQ103
  have Kc103 : Keep h0 T103.heap [] := Kc102.trans K103 (allS (Or.inr sz_b101) all0)
  obtain ⟨L_2, qL_2⟩ : ∃ L', L' = L_1.set 1 (.int (own_b (own_sh j0 48))) := ⟨_, rfl⟩
  have V103' : own_Ar Z T103.heap b101 .byte L_2 := by rw [qL_2]; exact V103
  have hL_2 : L_2.length = N := by rw [qL_2, List.length_set]; exact hL_1
  have N103 := Fr.app N102 N103q
  refine own_via (g' := T103.setTop (mkF m 33 #[.val (.long j0), .second, .val (.long j1), .second, .val (.int i2), .val (.int n), .val (.ref b101), .unset, .unset] [])) (fun t k => st103 _ k) ?_
  refine own_via (g' := T103.setTop (mkF m 35 #[.val (.long j0), .second, .val (.long j1), .second, .val (.int i2), .val (.int n), .val (.ref b101), .unset, .unset] [(.ref b101)])) (fun t k => XS.aload X103.here hx rfl (hb hby at_33) rfl (rfl) k) ?_
  refine own_via (g' := T103.setTop (mkF m 36 #[.val (.long j0), .second, .val (.long j1), .second, .val (.int i2), .val (.int n), .val (.ref b101), .unset, .unset] [(.int (2 : Int32)), (.ref b101)])) (fun t k => XS.iconst X103.here hx rfl (hb hby at_35) k) ?_
  refine own_via (g' := T103.setTop (mkF m 37 #[.val (.long j0), .second, .val (.long j1), .second, .val (.int i2), .val (.int n), .val (.ref b101), .unset, .unset] [(.long j0), (.int (2 : Int32)), (.ref b101)])) (fun t k => XT.lloadN X103.here hx rfl (hb hby at_36) rfl k) ?_
  refine own_via (g' := T103.setTop (mkF m 39 #[.val (.long j0), .second, .val (.long j1), .second, .val (.int i2), .val (.int n), .val (.ref b101), .unset, .unset] [(.int (40 : Int32)), (.long j0), (.int (2 : Int32)), (.ref b101)])) (fun t k => XS.bipush X103.here hx rfl (hb hby at_37) k) ?_
  refine own_via (g' := T103.setTop (mkF m 40 #[.val (.long j0), .second, .val (.long j1), .second, .val (.int i2), .val (.int n), .val (.ref b101), .unset, .unset] [(.long ((j0.toUInt64 >>> ((40 : Int32) &&& 0x3f).toInt64.toUInt64).toInt64)), (.int (2 : Int32)), (.ref b101)])) (fun t k => XS.lushr X103.here hx rfl (hb hby at_39) rfl k) ?_
  show own_Fin p e below _ (T103.setTop (mkF m 40 #[.val (.long j0), .second, .val (.long j1), .second, .val (.int i2), .val (.int n), .val (.ref b101), .unset, .unset] [(.long (own_sh j0 40)), (.int (2 : Int32)), (.ref b101)]))
  obtain ⟨v104, _, ⟨T104, L104, k104, n104⟩, -, X104, ⟨Lc104, hQ104, l104, y104, z104⟩, st104⟩ := Jvm.LawKit.callS X103 hx (y := (⟨"com/example/wykaz/wykaz/registry/KeyOrderLeadPinLaw", "put", "([BIJ)V"⟩ : MethodName)) hown (mvT hZ (hw _ (List.mem_of_getElem? (i := 1) rfl))) (mvT hZ (hw _ (List.mem_of_getElem? (i := 2) rfl))) (mvT hZ (hw _ (List.mem_of_getElem? (i := 3) rfl))) (mvT hZ (hw _ (List.mem_of_getElem? (i := 4) rfl))) (by decide) (backOf (W := 0) (own_rm1 l Z a0 hw [] b101 (2 : Int32) (own_sh j0 40) L_2 T103.heap n0 (Nat.le_trans Z0 Kc103.1) V103' (by rw [hL_2]; exact hNb) (by decide) g_b101) hZ (hw _ (List.mem_of_getElem? (i := 4) rfl)) (hw _ (List.mem_of_getElem? (i := 3) rfl)) (by decide) (by decide)) (g := (mkF m 40 #[.val (.long j0), .second, .val (.long j1), .second, .val (.int i2), .val (.int n), .val (.ref b101), .unset, .unset] [(.long (own_sh j0 40)), (.int (2 : Int32)), (.ref b101)])) rfl (by rw [hml]; rfl) (argsL := [(.ref b101), (.int (2 : Int32)), (.long (own_sh j0 40))]) (rest := []) (lenOf own_pd0 rfl) rfl (by show 2 * 0 + _ ≤ _; exact Nat.le_of_eq rfl) (hb hby at_40) (fun _ _ => ⟨rfl, rfl, (by decide : 1 + 0 ≤ _), (by decide : 15 + 0 ≤ _)⟩)
  dsimp only [Pt.U, Pt.locs, Pt.cells, Pt.slots] at X104 l104 y104 z104 st104 hQ104
  subst l104 y104 z104
  obtain ⟨rfl, N104q, K104, V104⟩ := hQ104
  have Kc104 : Keep h0 T104.heap [] := Kc103.trans K104 (allS (Or.inr sz_b101) all0)
  obtain ⟨L_3, qL_3⟩ : ∃ L', L' = L_2.set 2 (.int (own_b (own_sh j0 40))) := ⟨_, rfl⟩
  have V104' : own_Ar Z T104.heap b101 .byte L_3 := by rw [qL_3]; exact V104
  have hL_3 : L_3.length = N := by rw [qL_3, List.length_set]; exact hL_2
  have N104 := Fr.app N103 N104q
  refine own_via (g' := T104.setTop (mkF m 43 #[.val (.long j0), .second, .val (.long j1), .second, .val (.int i2), .val (.int n), .val (.ref b101), .unset, .unset] [])) (fun t k => st104 _ k) ?_
  refine own_via (g' := T104.setTop (mkF m 45 #[.val (.long j0), .second, .val (.long j1), .second, .val (.int i2), .val (.int n), .val (.ref b101), .unset, .unset] [(.ref b101)])) (fun t k => XS.aload X104.here hx rfl (hb hby at_43) rfl (rfl) k) ?_
  refine own_via (g' := T104.setTop (mkF m 46 #[.val (.long j0), .second, .val (.long j1), .second, .val (.int i2), .val (.int n), .val (.ref b101), .unset, .unset] [(.int (3 : Int32)), (.ref b101)])) (fun t k => XS.iconst X104.here hx rfl (hb hby at_45) k) ?_
  refine own_via (g' := T104.setTop (mkF m 47 #[.val (.long j0), .second, .val (.long j1), .second, .val (.int i2), .val (.int n), .val (.ref b101), .unset, .unset] [(.long j0), (.int (3 : Int32)), (.ref b101)])) (fun t k => XT.lloadN X104.here hx rfl (hb hby at_46) rfl k) ?_
  refine own_via (g' := T104.setTop (mkF m 49 #[.val (.long j0), .second, .val (.long j1), .second, .val (.int i2), .val (.int n), .val (.ref b101), .unset, .unset] [(.int (32 : Int32)), (.long j0), (.int (3 : Int32)), (.ref b101)])) (fun t k => XS.bipush X104.here hx rfl (hb hby at_47) k) ?_
  refine own_via (g' := T104.setTop (mkF m 50 #[.val (.long j0), .second, .val (.long j1), .second, .val (.int i2), .val (.int n), .val (.ref b101), .unset, .unset] [(.long ((j0.toUInt64 >>> ((32 : Int32) &&& 0x3f).toInt64.toUInt64).toInt64)), (.int (3 : Int32)), (.ref b101)])) (fun t k => XS.lushr X104.here hx rfl (hb hby at_49) rfl k) ?_
  show own_Fin p e below _ (T104.setTop (mkF m 50 #[.val (.long j0), .second, .val (.long j1), .second, .val (.int i2), .val (.int n), .val (.ref b101), .unset, .unset] [(.long (own_sh j0 32)), (.int (3 : Int32)), (.ref b101)]))
  obtain ⟨v105, _, ⟨T105, L105, k105, n105⟩, -, X105, ⟨Lc105, hQ105, l105, y105, z105⟩, st105⟩ := Jvm.LawKit.callS X104 hx (y := (⟨"com/example/wykaz/wykaz/registry/KeyOrderLeadPinLaw", "put", "([BIJ)V"⟩ : MethodName)) hown (mvT hZ (hw _ (List.mem_of_getElem? (i := 1) rfl))) (mvT hZ (hw _ (List.mem_of_getElem? (i := 2) rfl))) (mvT hZ (hw _ (List.mem_of_getElem? (i := 3) rfl))) (mvT hZ (hw _ (List.mem_of_getElem? (i := 4) rfl))) (by decide) (backOf (W := 0) (own_rm1 l Z a0 hw [] b101 (3 : Int32) (own_sh j0 32) L_3 T104.heap n0 (Nat.le_trans Z0 Kc104.1) V104' (by rw [hL_3]; exact hNb) (by decide) g_b101) hZ (hw _ (List.mem_of_getElem? (i := 4) rfl)) (hw _ (List.mem_of_getElem? (i := 3) rfl)) (by decide) (by decide)) (g := (mkF m 50 #[.val (.long j0), .second, .val (.long j1), .second, .val (.int i2), .val (.int n), .val (.ref b101), .unset, .unset] [(.long (own_sh j0 32)), (.int (3 : Int32)), (.ref b101)])) rfl (by rw [hml]; rfl) (argsL := [(.ref b101), (.int (3 : Int32)), (.long (own_sh j0 32))]) (rest := []) (lenOf own_pd0 rfl) rfl (by show 2 * 0 + _ ≤ _; exact Nat.le_of_eq rfl) (hb hby at_50) (fun _ _ => ⟨rfl, rfl, (by decide : 1 + 0 ≤ _), (by decide : 15 + 0 ≤ _)⟩)
  dsimp only [Pt.U, Pt.locs, Pt.cells, Pt.slots] at X105 l105 y105 z105 st105 hQ105
  subst l105 y105 z105
  obtain ⟨rfl, N105q, K105, V105⟩ := hQ105
  have Kc105 : Keep h0 T105.heap [] := Kc104.trans K105 (allS (Or.inr sz_b101) all0)
  obtain ⟨L_4, qL_4⟩ : ∃ L', L' = L_3.set 3 (.int (own_b (own_sh j0 32))) := ⟨_, rfl⟩
  have V105' : own_Ar Z T105.heap b101 .byte L_4 := by rw [qL_4]; exact V105
  have hL_4 : L_4.length = N := by rw [qL_4, List.length_set]; exact hL_3
  have N105 := Fr.app N104 N105q
  refine own_via (g' := T105.setTop (mkF m 53 #[.val (.long j0), .second, .val (.long j1), .second, .val (.int i2), .val (.int n), .val (.ref b101), .unset, .unset] [])) (fun t k => st105 _ k) ?_
  refine own_via (g' := T105.setTop (mkF m 55 #[.val (.long j0), .second, .val (.long j1), .second, .val (.int i2), .val (.int n), .val (.ref b101), .unset, .unset] [(.ref b101)])) (fun t k => XS.aload X105.here hx rfl (hb hby at_53) rfl (rfl) k) ?_
  refine own_via (g' := T105.setTop (mkF m 56 #[.val (.long j0), .second, .val (.long j1), .second, .val (.int i2), .val (.int n), .val (.ref b101), .unset, .unset] [(.int (4 : Int32)), (.ref b101)])) (fun t k => XS.iconst X105.here hx rfl (hb hby at_55) k) ?_
  refine own_via (g' := T105.setTop (mkF m 57 #[.val (.long j0), .second, .val (.long j1), .second, .val (.int i2), .val (.int n), .val (.ref b101), .unset, .unset] [(.long j0), (.int (4 : Int32)), (.ref b101)])) (fun t k => XT.lloadN X105.here hx rfl (hb hby at_56) rfl k) ?_
  refine own_via (g' := T105.setTop (mkF m 59 #[.val (.long j0), .second, .val (.long j1), .second, .val (.int i2), .val (.int n), .val (.ref b101), .unset, .unset] [(.int (24 : Int32)), (.long j0), (.int (4 : Int32)), (.ref b101)])) (fun t k => XS.bipush X105.here hx rfl (hb hby at_57) k) ?_
  refine own_via (g' := T105.setTop (mkF m 60 #[.val (.long j0), .second, .val (.long j1), .second, .val (.int i2), .val (.int n), .val (.ref b101), .unset, .unset] [(.long ((j0.toUInt64 >>> ((24 : Int32) &&& 0x3f).toInt64.toUInt64).toInt64)), (.int (4 : Int32)), (.ref b101)])) (fun t k => XS.lushr X105.here hx rfl (hb hby at_59) rfl k) ?_
  show own_Fin p e below _ (T105.setTop (mkF m 60 #[.val (.long j0), .second, .val (.long j1), .second, .val (.int i2), .val (.int n), .val (.ref b101), .unset, .unset] [(.long (own_sh j0 24)), (.int (4 : Int32)), (.ref b101)]))
  obtain ⟨v106, _, ⟨T106, L106, k106, n106⟩, -, X106, ⟨Lc106, hQ106, l106, y106, z106⟩, st106⟩ := Jvm.LawKit.callS X105 hx (y := (⟨"com/example/wykaz/wykaz/registry/KeyOrderLeadPinLaw", "put", "([BIJ)V"⟩ : MethodName)) hown (mvT hZ (hw _ (List.mem_of_getElem? (i := 1) rfl))) (mvT hZ (hw _ (List.mem_of_getElem? (i := 2) rfl))) (mvT hZ (hw _ (List.mem_of_getElem? (i := 3) rfl))) (mvT hZ (hw _ (List.mem_of_getElem? (i := 4) rfl))) (by decide) (backOf (W := 0) (own_rm1 l Z a0 hw [] b101 (4 : Int32) (own_sh j0 24) L_4 T105.heap n0 (Nat.le_trans Z0 Kc105.1) V105' (by rw [hL_4]; exact hNb) (by decide) g_b101) hZ (hw _ (List.mem_of_getElem? (i := 4) rfl)) (hw _ (List.mem_of_getElem? (i := 3) rfl)) (by decide) (by decide)) (g := (mkF m 60 #[.val (.long j0), .second, .val (.long j1), .second, .val (.int i2), .val (.int n), .val (.ref b101), .unset, .unset] [(.long (own_sh j0 24)), (.int (4 : Int32)), (.ref b101)])) rfl (by rw [hml]; rfl) (argsL := [(.ref b101), (.int (4 : Int32)), (.long (own_sh j0 24))]) (rest := []) (lenOf own_pd0 rfl) rfl (by show 2 * 0 + _ ≤ _; exact Nat.le_of_eq rfl) (hb hby at_60) (fun _ _ => ⟨rfl, rfl, (by decide : 1 + 0 ≤ _), (by decide : 15 + 0 ≤ _)⟩)
  dsimp only [Pt.U, Pt.locs, Pt.cells, Pt.slots] at X106 l106 y106 z106 st106 hQ106
  subst l106 y106 z106
  obtain ⟨rfl, N106q, K106, V106⟩ := hQ106
  have Kc106 : Keep h0 T106.heap [] := Kc105.trans K106 (allS (Or.inr sz_b101) all0)
  obtain ⟨L_5, qL_5⟩ : ∃ L', L' = L_4.set 4 (.int (own_b (own_sh j0 24))) := ⟨_, rfl⟩
  have V106' : own_Ar Z T106.heap b101 .byte L_5 := by rw [qL_5]; exact V106
  have hL_5 : L_5.length = N := by rw [qL_5, List.length_set]; exact hL_4
  have N106 := Fr.app N105 N106q
  refine own_via (g' := T106.setTop (mkF m 63 #[.val (.long j0), .second, .val (.long j1), .second, .val (.int i2), .val (.int n), .val (.ref b101), .unset, .unset] [])) (fun t k => st106 _ k) ?_
  refine own_via (g' := T106.setTop (mkF m 65 #[.val (.long j0), .second, .val (.long j1), .second, .val (.int i2), .val (.int n), .val (.ref b101), .unset, .unset] [(.ref b101)])) (fun t k => XS.aload X106.here hx rfl (hb hby at_63) rfl (rfl) k) ?_
  refine own_via (g' := T106.setTop (mkF m 66 #[.val (.long j0), .second, .val (.long j1), .second, .val (.int i2), .val (.int n), .val (.ref b101), .unset, .unset] [(.int (5 : Int32)), (.ref b101)])) (fun t k => XS.iconst X106.here hx rfl (hb hby at_65) k) ?_
  refine own_via (g' := T106.setTop (mkF m 67 #[.val (.long j0), .second, .val (.long j1), .second, .val (.int i2), .val (.int n), .val (.ref b101), .unset, .unset] [(.long j0), (.int (5 : Int32)), (.ref b101)])) (fun t k => XT.lloadN X106.here hx rfl (hb hby at_66) rfl k) ?_
  refine own_via (g' := T106.setTop (mkF m 69 #[.val (.long j0), .second, .val (.long j1), .second, .val (.int i2), .val (.int n), .val (.ref b101), .unset, .unset] [(.int (16 : Int32)), (.long j0), (.int (5 : Int32)), (.ref b101)])) (fun t k => XS.bipush X106.here hx rfl (hb hby at_67) k) ?_
  refine own_via (g' := T106.setTop (mkF m 70 #[.val (.long j0), .second, .val (.long j1), .second, .val (.int i2), .val (.int n), .val (.ref b101), .unset, .unset] [(.long ((j0.toUInt64 >>> ((16 : Int32) &&& 0x3f).toInt64.toUInt64).toInt64)), (.int (5 : Int32)), (.ref b101)])) (fun t k => XS.lushr X106.here hx rfl (hb hby at_69) rfl k) ?_
  show own_Fin p e below _ (T106.setTop (mkF m 70 #[.val (.long j0), .second, .val (.long j1), .second, .val (.int i2), .val (.int n), .val (.ref b101), .unset, .unset] [(.long (own_sh j0 16)), (.int (5 : Int32)), (.ref b101)]))
  obtain ⟨v107, _, ⟨T107, L107, k107, n107⟩, -, X107, ⟨Lc107, hQ107, l107, y107, z107⟩, st107⟩ := Jvm.LawKit.callS X106 hx (y := (⟨"com/example/wykaz/wykaz/registry/KeyOrderLeadPinLaw", "put", "([BIJ)V"⟩ : MethodName)) hown (mvT hZ (hw _ (List.mem_of_getElem? (i := 1) rfl))) (mvT hZ (hw _ (List.mem_of_getElem? (i := 2) rfl))) (mvT hZ (hw _ (List.mem_of_getElem? (i := 3) rfl))) (mvT hZ (hw _ (List.mem_of_getElem? (i := 4) rfl))) (by decide) (backOf (W := 0) (own_rm1 l Z a0 hw [] b101 (5 : Int32) (own_sh j0 16) L_5 T106.heap n0 (Nat.le_trans Z0 Kc106.1) V106' (by rw [hL_5]; exact hNb) (by decide) g_b101) hZ (hw _ (List.mem_of_getElem? (i := 4) rfl)) (hw _ (List.mem_of_getElem? (i := 3) rfl)) (by decide) (by decide)) (g := (mkF m 70 #[.val (.long j0), .second, .val (.long j1), .second, .val (.int i2), .val (.int n), .val (.ref b101), .unset, .unset] [(.long (own_sh j0 16)), (.int (5 : Int32)), (.ref b101)])) rfl (by rw [hml]; rfl) (argsL := [(.ref b101), (.int (5 : Int32)), (.long (own_sh j0 16))]) (rest := []) (lenOf own_pd0 rfl) rfl (by show 2 * 0 + _ ≤ _; exact Nat.le_of_eq rfl) (hb hby at_70) (fun _ _ => ⟨rfl, rfl, (by decide : 1 + 0 ≤ _), (by decide : 15 + 0 ≤ _)⟩)
  dsimp only [Pt.U, Pt.locs, Pt.cells, Pt.slots] at X107 l107 y107 z107 st107 hQ107
  subst l107 y107 z107
  obtain ⟨rfl, N107q, K107, V107⟩ := hQ107
  have Kc107 : Keep h0 T107.heap [] := Kc106.trans K107 (allS (Or.inr sz_b101) all0)
  obtain ⟨L_6, qL_6⟩ : ∃ L', L' = L_5.set 5 (.int (own_b (own_sh j0 16))) := ⟨_, rfl⟩
  have V107' : own_Ar Z T107.heap b101 .byte L_6 := by rw [qL_6]; exact V107
  have hL_6 : L_6.length = N := by rw [qL_6, List.length_set]; exact hL_5
  have N107 := Fr.app N106 N107q
  refine own_via (g' := T107.setTop (mkF m 73 #[.val (.long j0), .second, .val (.long j1), .second, .val (.int i2), .val (.int n), .val (.ref b101), .unset, .unset] [])) (fun t k => st107 _ k) ?_
  refine own_via (g' := T107.setTop (mkF m 75 #[.val (.long j0), .second, .val (.long j1), .second, .val (.int i2), .val (.int n), .val (.ref b101), .unset, .unset] [(.ref b101)])) (fun t k => XS.aload X107.here hx rfl (hb hby at_73) rfl (rfl) k) ?_
  refine own_via (g' := T107.setTop (mkF m 77 #[.val (.long j0), .second, .val (.long j1), .second, .val (.int i2), .val (.int n), .val (.ref b101), .unset, .unset] [(.int (6 : Int32)), (.ref b101)])) (fun t k => XS.bipush X107.here hx rfl (hb hby at_75) k) ?_
  refine own_via (g' := T107.setTop (mkF m 78 #[.val (.long j0), .second, .val (.long j1), .second, .val (.int i2), .val (.int n), .val (.ref b101), .unset, .unset] [(.long j0), (.int (6 : Int32)), (.ref b101)])) (fun t k => XT.lloadN X107.here hx rfl (hb hby at_77) rfl k) ?_
  refine own_via (g' := T107.setTop (mkF m 80 #[.val (.long j0), .second, .val (.long j1), .second, .val (.int i2), .val (.int n), .val (.ref b101), .unset, .unset] [(.int (8 : Int32)), (.long j0), (.int (6 : Int32)), (.ref b101)])) (fun t k => XS.bipush X107.here hx rfl (hb hby at_78) k) ?_
  refine own_via (g' := T107.setTop (mkF m 81 #[.val (.long j0), .second, .val (.long j1), .second, .val (.int i2), .val (.int n), .val (.ref b101), .unset, .unset] [(.long ((j0.toUInt64 >>> ((8 : Int32) &&& 0x3f).toInt64.toUInt64).toInt64)), (.int (6 : Int32)), (.ref b101)])) (fun t k => XS.lushr X107.here hx rfl (hb hby at_80) rfl k) ?_
  show own_Fin p e below _ (T107.setTop (mkF m 81 #[.val (.long j0), .second, .val (.long j1), .second, .val (.int i2), .val (.int n), .val (.ref b101), .unset, .unset] [(.long (own_sh j0 8)), (.int (6 : Int32)), (.ref b101)]))
  obtain ⟨v108, _, ⟨T108, L108, k108, n108⟩, -, X108, ⟨Lc108, hQ108, l108, y108, z108⟩, st108⟩ := Jvm.LawKit.callS X107 hx (y := (⟨"com/example/wykaz/wykaz/registry/KeyOrderLeadPinLaw", "put", "([BIJ)V"⟩ : MethodName)) hown (mvT hZ (hw _ (List.mem_of_getElem? (i := 1) rfl))) (mvT hZ (hw _ (List.mem_of_getElem? (i := 2) rfl))) (mvT hZ (hw _ (List.mem_of_getElem? (i := 3) rfl))) (mvT hZ (hw _ (List.mem_of_getElem? (i := 4) rfl))) (by decide) (backOf (W := 0) (own_rm1 l Z a0 hw [] b101 (6 : Int32) (own_sh j0 8) L_6 T107.heap n0 (Nat.le_trans Z0 Kc107.1) V107' (by rw [hL_6]; exact hNb) (by decide) g_b101) hZ (hw _ (List.mem_of_getElem? (i := 4) rfl)) (hw _ (List.mem_of_getElem? (i := 3) rfl)) (by decide) (by decide)) (g := (mkF m 81 #[.val (.long j0), .second, .val (.long j1), .second, .val (.int i2), .val (.int n), .val (.ref b101), .unset, .unset] [(.long (own_sh j0 8)), (.int (6 : Int32)), (.ref b101)])) rfl (by rw [hml]; rfl) (argsL := [(.ref b101), (.int (6 : Int32)), (.long (own_sh j0 8))]) (rest := []) (lenOf own_pd0 rfl) rfl (by show 2 * 0 + _ ≤ _; exact Nat.le_of_eq rfl) (hb hby at_81) (fun _ _ => ⟨rfl, rfl, (by decide : 1 + 0 ≤ _), (by decide : 15 + 0 ≤ _)⟩)
  dsimp only [Pt.U, Pt.locs, Pt.cells, Pt.slots] at X108 l108 y108 z108 st108 hQ108
  subst l108 y108 z108
  obtain ⟨rfl, N108q, K108, V108⟩ := hQ108
  have Kc108 : Keep h0 T108.heap [] := Kc107.trans K108 (allS (Or.inr sz_b101) all0)
  obtain ⟨L_7, qL_7⟩ : ∃ L', L' = L_6.set 6 (.int (own_b (own_sh j0 8))) := ⟨_, rfl⟩
  have V108' : own_Ar Z T108.heap b101 .byte L_7 := by rw [qL_7]; exact V108
  have hL_7 : L_7.length = N := by rw [qL_7, List.length_set]; exact hL_6
  have N108 := Fr.app N107 N108q
  refine own_via (g' := T108.setTop (mkF m 84 #[.val (.long j0), .second, .val (.long j1), .second, .val (.int i2), .val (.int n), .val (.ref b101), .unset, .unset] [])) (fun t k => st108 _ k) ?_
  refine own_via (g' := T108.setTop (mkF m 86 #[.val (.long j0), .second, .val (.long j1), .second, .val (.int i2), .val (.int n), .val (.ref b101), .unset, .unset] [(.ref b101)])) (fun t k => XS.aload X108.here hx rfl (hb hby at_84) rfl (rfl) k) ?_
  refine own_via (g' := T108.setTop (mkF m 88 #[.val (.long j0), .second, .val (.long j1), .second, .val (.int i2), .val (.int n), .val (.ref b101), .unset, .unset] [(.int (7 : Int32)), (.ref b101)])) (fun t k => XS.bipush X108.here hx rfl (hb hby at_86) k) ?_
  refine own_via (g' := T108.setTop (mkF m 89 #[.val (.long j0), .second, .val (.long j1), .second, .val (.int i2), .val (.int n), .val (.ref b101), .unset, .unset] [(.long j0), (.int (7 : Int32)), (.ref b101)])) (fun t k => XT.lloadN X108.here hx rfl (hb hby at_88) rfl k) ?_
  obtain ⟨v109, _, ⟨T109, L109, k109, n109⟩, -, X109, ⟨Lc109, hQ109, l109, y109, z109⟩, st109⟩ := Jvm.LawKit.callS X108 hx (y := (⟨"com/example/wykaz/wykaz/registry/KeyOrderLeadPinLaw", "put", "([BIJ)V"⟩ : MethodName)) hown (mvT hZ (hw _ (List.mem_of_getElem? (i := 1) rfl))) (mvT hZ (hw _ (List.mem_of_getElem? (i := 2) rfl))) (mvT hZ (hw _ (List.mem_of_getElem? (i := 3) rfl))) (mvT hZ (hw _ (List.mem_of_getElem? (i := 4) rfl))) (by decide) (backOf (W := 0) (own_rm1 l Z a0 hw [] b101 (7 : Int32) j0 L_7 T108.heap n0 (Nat.le_trans Z0 Kc108.1) V108' (by rw [hL_7]; exact hNb) (by decide) g_b101) hZ (hw _ (List.mem_of_getElem? (i := 4) rfl)) (hw _ (List.mem_of_getElem? (i := 3) rfl)) (by decide) (by decide)) (g := (mkF m 89 #[.val (.long j0), .second, .val (.long j1), .second, .val (.int i2), .val (.int n), .val (.ref b101), .unset, .unset] [(.long j0), (.int (7 : Int32)), (.ref b101)])) rfl (by rw [hml]; rfl) (argsL := [(.ref b101), (.int (7 : Int32)), (.long j0)]) (rest := []) (lenOf own_pd0 rfl) rfl (by show 2 * 0 + _ ≤ _; exact Nat.le_of_eq rfl) (hb hby at_89) (fun _ _ => ⟨rfl, rfl, (by decide : 1 + 0 ≤ _), (by decide : 15 + 0 ≤ _)⟩)
  dsimp only [Pt.U, Pt.locs, Pt.cells, Pt.slots] at X109 l109 y109 z109 st109 hQ109
  subst l109 y109 z109
  obtain ⟨rfl, N109q, K109, V109⟩ := hQ109
  have Kc109 : Keep h0 T109.heap [] := Kc108.trans K109 (allS (Or.inr sz_b101) all0)
  obtain ⟨L_8, qL_8⟩ : ∃ L', L' = L_7.set 7 (.int (own_b j0)) := ⟨_, rfl⟩
  have V109' : own_Ar Z T109.heap b101 .byte L_8 := by rw [qL_8]; exact V109
  have hL_8 : L_8.length = N := by rw [qL_8, List.length_set]; exact hL_7
  have N109 := Fr.app N108 N109q
  refine own_via (g' := T109.setTop (mkF m 92 #[.val (.long j0), .second, .val (.long j1), .second, .val (.int i2), .val (.int n), .val (.ref b101), .unset, .unset] [])) (fun t k => st109 _ k) ?_
  refine own_via (g' := T109.setTop (mkF m 94 #[.val (.long j0), .second, .val (.long j1), .second, .val (.int i2), .val (.int n), .val (.ref b101), .unset, .unset] [(.ref b101)])) (fun t k => XS.aload X109.here hx rfl (hb hby at_92) rfl (rfl) k) ?_
  refine own_via (g' := T109.setTop (mkF m 96 #[.val (.long j0), .second, .val (.long j1), .second, .val (.int i2), .val (.int n), .val (.ref b101), .unset, .unset] [(.int (8 : Int32)), (.ref b101)])) (fun t k => XS.bipush X109.here hx rfl (hb hby at_94) k) ?_
  refine own_via (g' := T109.setTop (mkF m 97 #[.val (.long j0), .second, .val (.long j1), .second, .val (.int i2), .val (.int n), .val (.ref b101), .unset, .unset] [(.long j1), (.int (8 : Int32)), (.ref b101)])) (fun t k => XT.lloadN X109.here hx rfl (hb hby at_96) rfl k) ?_
  refine own_via (g' := T109.setTop (mkF m 99 #[.val (.long j0), .second, .val (.long j1), .second, .val (.int i2), .val (.int n), .val (.ref b101), .unset, .unset] [(.int (56 : Int32)), (.long j1), (.int (8 : Int32)), (.ref b101)])) (fun t k => XS.bipush X109.here hx rfl (hb hby at_97) k) ?_
  refine own_via (g' := T109.setTop (mkF m 100 #[.val (.long j0), .second, .val (.long j1), .second, .val (.int i2), .val (.int n), .val (.ref b101), .unset, .unset] [(.long ((j1.toUInt64 >>> ((56 : Int32) &&& 0x3f).toInt64.toUInt64).toInt64)), (.int (8 : Int32)), (.ref b101)])) (fun t k => XS.lushr X109.here hx rfl (hb hby at_99) rfl k) ?_
  show own_Fin p e below _ (T109.setTop (mkF m 100 #[.val (.long j0), .second, .val (.long j1), .second, .val (.int i2), .val (.int n), .val (.ref b101), .unset, .unset] [(.long (own_sh j1 56)), (.int (8 : Int32)), (.ref b101)]))
  obtain ⟨v110, _, ⟨T110, L110, k110, n110⟩, -, X110, ⟨Lc110, hQ110, l110, y110, z110⟩, st110⟩ := Jvm.LawKit.callS X109 hx (y := (⟨"com/example/wykaz/wykaz/registry/KeyOrderLeadPinLaw", "put", "([BIJ)V"⟩ : MethodName)) hown (mvT hZ (hw _ (List.mem_of_getElem? (i := 1) rfl))) (mvT hZ (hw _ (List.mem_of_getElem? (i := 2) rfl))) (mvT hZ (hw _ (List.mem_of_getElem? (i := 3) rfl))) (mvT hZ (hw _ (List.mem_of_getElem? (i := 4) rfl))) (by decide) (backOf (W := 0) (own_rm1 l Z a0 hw [] b101 (8 : Int32) (own_sh j1 56) L_8 T109.heap n0 (Nat.le_trans Z0 Kc109.1) V109' (by rw [hL_8]; exact hNb) (by decide) g_b101) hZ (hw _ (List.mem_of_getElem? (i := 4) rfl)) (hw _ (List.mem_of_getElem? (i := 3) rfl)) (by decide) (by decide)) (g := (mkF m 100 #[.val (.long j0), .second, .val (.long j1), .second, .val (.int i2), .val (.int n), .val (.ref b101), .unset, .unset] [(.long (own_sh j1 56)), (.int (8 : Int32)), (.ref b101)])) rfl (by rw [hml]; rfl) (argsL := [(.ref b101), (.int (8 : Int32)), (.long (own_sh j1 56))]) (rest := []) (lenOf own_pd0 rfl) rfl (by show 2 * 0 + _ ≤ _; exact Nat.le_of_eq rfl) (hb hby at_100) (fun _ _ => ⟨rfl, rfl, (by decide : 1 + 0 ≤ _), (by decide : 15 + 0 ≤ _)⟩)
  dsimp only [Pt.U, Pt.locs, Pt.cells, Pt.slots] at X110 l110 y110 z110 st110 hQ110
  subst l110 y110 z110
  obtain ⟨rfl, N110q, K110, V110⟩ := hQ110
  have Kc110 : Keep h0 T110.heap [] := Kc109.trans K110 (allS (Or.inr sz_b101) all0)
  obtain ⟨L_9, qL_9⟩ : ∃ L', L' = L_8.set 8 (.int (own_b (own_sh j1 56))) := ⟨_, rfl⟩
  have V110' : own_Ar Z T110.heap b101 .byte L_9 := by rw [qL_9]; exact V110
  have hL_9 : L_9.length = N := by rw [qL_9, List.length_set]; exact hL_8
  have N110 := Fr.app N109 N110q
  refine own_via (g' := T110.setTop (mkF m 103 #[.val (.long j0), .second, .val (.long j1), .second, .val (.int i2), .val (.int n), .val (.ref b101), .unset, .unset] [])) (fun t k => st110 _ k) ?_
  refine own_via (g' := T110.setTop (mkF m 105 #[.val (.long j0), .second, .val (.long j1), .second, .val (.int i2), .val (.int n), .val (.ref b101), .unset, .unset] [(.ref b101)])) (fun t k => XS.aload X110.here hx rfl (hb hby at_103) rfl (rfl) k) ?_
  refine own_via (g' := T110.setTop (mkF m 107 #[.val (.long j0), .second, .val (.long j1), .second, .val (.int i2), .val (.int n), .val (.ref b101), .unset, .unset] [(.int (9 : Int32)), (.ref b101)])) (fun t k => XS.bipush X110.here hx rfl (hb hby at_105) k) ?_
  refine own_via (g' := T110.setTop (mkF m 108 #[.val (.long j0), .second, .val (.long j1), .second, .val (.int i2), .val (.int n), .val (.ref b101), .unset, .unset] [(.long j1), (.int (9 : Int32)), (.ref b101)])) (fun t k => XT.lloadN X110.here hx rfl (hb hby at_107) rfl k) ?_
  refine own_via (g' := T110.setTop (mkF m 110 #[.val (.long j0), .second, .val (.long j1), .second, .val (.int i2), .val (.int n), .val (.ref b101), .unset, .unset] [(.int (48 : Int32)), (.long j1), (.int (9 : Int32)), (.ref b101)])) (fun t k => XS.bipush X110.here hx rfl (hb hby at_108) k) ?_
  refine own_via (g' := T110.setTop (mkF m 111 #[.val (.long j0), .second, .val (.long j1), .second, .val (.int i2), .val (.int n), .val (.ref b101), .unset, .unset] [(.long ((j1.toUInt64 >>> ((48 : Int32) &&& 0x3f).toInt64.toUInt64).toInt64)), (.int (9 : Int32)), (.ref b101)])) (fun t k => XS.lushr X110.here hx rfl (hb hby at_110) rfl k) ?_
  show own_Fin p e below _ (T110.setTop (mkF m 111 #[.val (.long j0), .second, .val (.long j1), .second, .val (.int i2), .val (.int n), .val (.ref b101), .unset, .unset] [(.long (own_sh j1 48)), (.int (9 : Int32)), (.ref b101)]))
  obtain ⟨v111, _, ⟨T111, L111, k111, n111⟩, -, X111, ⟨Lc111, hQ111, l111, y111, z111⟩, st111⟩ := Jvm.LawKit.callS X110 hx (y := (⟨"com/example/wykaz/wykaz/registry/KeyOrderLeadPinLaw", "put", "([BIJ)V"⟩ : MethodName)) hown (mvT hZ (hw _ (List.mem_of_getElem? (i := 1) rfl))) (mvT hZ (hw _ (List.mem_of_getElem? (i := 2) rfl))) (mvT hZ (hw _ (List.mem_of_getElem? (i := 3) rfl))) (mvT hZ (hw _ (List.mem_of_getElem? (i := 4) rfl))) (by decide) (backOf (W := 0) (own_rm1 l Z a0 hw [] b101 (9 : Int32) (own_sh j1 48) L_9 T110.heap n0 (Nat.le_trans Z0 Kc110.1) V110' (by rw [hL_9]; exact hNb) (by decide) g_b101) hZ (hw _ (List.mem_of_getElem? (i := 4) rfl)) (hw _ (List.mem_of_getElem? (i := 3) rfl)) (by decide) (by decide)) (g := (mkF m 111 #[.val (.long j0), .second, .val (.long j1), .second, .val (.int i2), .val (.int n), .val (.ref b101), .unset, .unset] [(.long (own_sh j1 48)), (.int (9 : Int32)), (.ref b101)])) rfl (by rw [hml]; rfl) (argsL := [(.ref b101), (.int (9 : Int32)), (.long (own_sh j1 48))]) (rest := []) (lenOf own_pd0 rfl) rfl (by show 2 * 0 + _ ≤ _; exact Nat.le_of_eq rfl) (hb hby at_111) (fun _ _ => ⟨rfl, rfl, (by decide : 1 + 0 ≤ _), (by decide : 15 + 0 ≤ _)⟩)
  dsimp only [Pt.U, Pt.locs, Pt.cells, Pt.slots] at X111 l111 y111 z111 st111 hQ111
  subst l111 y111 z111
  obtain ⟨rfl, N111q, K111, V111⟩ := hQ111
  have Kc111 : Keep h0 T111.heap [] := Kc110.trans K111 (allS (Or.inr sz_b101) all0)
  obtain ⟨L_10, qL_10⟩ : ∃ L', L' = L_9.set 9 (.int (own_b (own_sh j1 48))) := ⟨_, rfl⟩
  have V111' : own_Ar Z T111.heap b101 .byte L_10 := by rw [qL_10]; exact V111
  have hL_10 : L_10.length = N := by rw [qL_10, List.length_set]; exact hL_9
  have N111 := Fr.app N110 N111q
  refine own_via (g' := T111.setTop (mkF m 114 #[.val (.long j0), .second, .val (.long j1), .second, .val (.int i2), .val (.int n), .val (.ref b101), .unset, .unset] [])) (fun t k => st111 _ k) ?_
  refine own_via (g' := T111.setTop (mkF m 116 #[.val (.long j0), .second, .val (.long j1), .second, .val (.int i2), .val (.int n), .val (.ref b101), .unset, .unset] [(.ref b101)])) (fun t k => XS.aload X111.here hx rfl (hb hby at_114) rfl (rfl) k) ?_
  refine own_via (g' := T111.setTop (mkF m 118 #[.val (.long j0), .second, .val (.long j1), .second, .val (.int i2), .val (.int n), .val (.ref b101), .unset, .unset] [(.int (10 : Int32)), (.ref b101)])) (fun t k => XS.bipush X111.here hx rfl (hb hby at_116) k) ?_
  refine own_via (g' := T111.setTop (mkF m 119 #[.val (.long j0), .second, .val (.long j1), .second, .val (.int i2), .val (.int n), .val (.ref b101), .unset, .unset] [(.long j1), (.int (10 : Int32)), (.ref b101)])) (fun t k => XT.lloadN X111.here hx rfl (hb hby at_118) rfl k) ?_
  refine own_via (g' := T111.setTop (mkF m 121 #[.val (.long j0), .second, .val (.long j1), .second, .val (.int i2), .val (.int n), .val (.ref b101), .unset, .unset] [(.int (40 : Int32)), (.long j1), (.int (10 : Int32)), (.ref b101)])) (fun t k => XS.bipush X111.here hx rfl (hb hby at_119) k) ?_
  refine own_via (g' := T111.setTop (mkF m 122 #[.val (.long j0), .second, .val (.long j1), .second, .val (.int i2), .val (.int n), .val (.ref b101), .unset, .unset] [(.long ((j1.toUInt64 >>> ((40 : Int32) &&& 0x3f).toInt64.toUInt64).toInt64)), (.int (10 : Int32)), (.ref b101)])) (fun t k => XS.lushr X111.here hx rfl (hb hby at_121) rfl k) ?_
  show own_Fin p e below _ (T111.setTop (mkF m 122 #[.val (.long j0), .second, .val (.long j1), .second, .val (.int i2), .val (.int n), .val (.ref b101), .unset, .unset] [(.long (own_sh j1 40)), (.int (10 : Int32)), (.ref b101)]))
  obtain ⟨v112, _, ⟨T112, L112, k112, n112⟩, -, X112, ⟨Lc112, hQ112, l112, y112, z112⟩, st112⟩ := Jvm.LawKit.callS X111 hx (y := (⟨"com/example/wykaz/wykaz/registry/KeyOrderLeadPinLaw", "put", "([BIJ)V"⟩ : MethodName)) hown (mvT hZ (hw _ (List.mem_of_getElem? (i := 1) rfl))) (mvT hZ (hw _ (List.mem_of_getElem? (i := 2) rfl))) (mvT hZ (hw _ (List.mem_of_getElem? (i := 3) rfl))) (mvT hZ (hw _ (List.mem_of_getElem? (i := 4) rfl))) (by decide) (backOf (W := 0) (own_rm1 l Z a0 hw [] b101 (10 : Int32) (own_sh j1 40) L_10 T111.heap n0 (Nat.le_trans Z0 Kc111.1) V111' (by rw [hL_10]; exact hNb) (by decide) g_b101) hZ (hw _ (List.mem_of_getElem? (i := 4) rfl)) (hw _ (List.mem_of_getElem? (i := 3) rfl)) (by decide) (by decide)) (g := (mkF m 122 #[.val (.long j0), .second, .val (.long j1), .second, .val (.int i2), .val (.int n), .val (.ref b101), .unset, .unset] [(.long (own_sh j1 40)), (.int (10 : Int32)), (.ref b101)])) rfl (by rw [hml]; rfl) (argsL := [(.ref b101), (.int (10 : Int32)), (.long (own_sh j1 40))]) (rest := []) (lenOf own_pd0 rfl) rfl (by show 2 * 0 + _ ≤ _; exact Nat.le_of_eq rfl) (hb hby at_122) (fun _ _ => ⟨rfl, rfl, (by decide : 1 + 0 ≤ _), (by decide : 15 + 0 ≤ _)⟩)
  dsimp only [Pt.U, Pt.locs, Pt.cells, Pt.slots] at X112 l112 y112 z112 st112 hQ112
  subst l112 y112 z112
  obtain ⟨rfl, N112q, K112, V112⟩ := hQ112
  have Kc112 : Keep h0 T112.heap [] := Kc111.trans K112 (allS (Or.inr sz_b101) all0)
  obtain ⟨L_11, qL_11⟩ : ∃ L', L' = L_10.set 10 (.int (own_b (own_sh j1 40))) := ⟨_, rfl⟩
  have V112' : own_Ar Z T112.heap b101 .byte L_11 := by rw [qL_11]; exact V112
  have hL_11 : L_11.length = N := by rw [qL_11, List.length_set]; exact hL_10
  have N112 := Fr.app N111 N112q
  refine own_via (g' := T112.setTop (mkF m 125 #[.val (.long j0), .second, .val (.long j1), .second, .val (.int i2), .val (.int n), .val (.ref b101), .unset, .unset] [])) (fun t k => st112 _ k) ?_
  refine own_via (g' := T112.setTop (mkF m 127 #[.val (.long j0), .second, .val (.long j1), .second, .val (.int i2), .val (.int n), .val (.ref b101), .unset, .unset] [(.ref b101)])) (fun t k => XS.aload X112.here hx rfl (hb hby at_125) rfl (rfl) k) ?_
  refine own_via (g' := T112.setTop (mkF m 129 #[.val (.long j0), .second, .val (.long j1), .second, .val (.int i2), .val (.int n), .val (.ref b101), .unset, .unset] [(.int (11 : Int32)), (.ref b101)])) (fun t k => XS.bipush X112.here hx rfl (hb hby at_127) k) ?_
  refine own_via (g' := T112.setTop (mkF m 130 #[.val (.long j0), .second, .val (.long j1), .second, .val (.int i2), .val (.int n), .val (.ref b101), .unset, .unset] [(.long j1), (.int (11 : Int32)), (.ref b101)])) (fun t k => XT.lloadN X112.here hx rfl (hb hby at_129) rfl k) ?_
  refine own_via (g' := T112.setTop (mkF m 132 #[.val (.long j0), .second, .val (.long j1), .second, .val (.int i2), .val (.int n), .val (.ref b101), .unset, .unset] [(.int (32 : Int32)), (.long j1), (.int (11 : Int32)), (.ref b101)])) (fun t k => XS.bipush X112.here hx rfl (hb hby at_130) k) ?_
  refine own_via (g' := T112.setTop (mkF m 133 #[.val (.long j0), .second, .val (.long j1), .second, .val (.int i2), .val (.int n), .val (.ref b101), .unset, .unset] [(.long ((j1.toUInt64 >>> ((32 : Int32) &&& 0x3f).toInt64.toUInt64).toInt64)), (.int (11 : Int32)), (.ref b101)])) (fun t k => XS.lushr X112.here hx rfl (hb hby at_132) rfl k) ?_
  show own_Fin p e below _ (T112.setTop (mkF m 133 #[.val (.long j0), .second, .val (.long j1), .second, .val (.int i2), .val (.int n), .val (.ref b101), .unset, .unset] [(.long (own_sh j1 32)), (.int (11 : Int32)), (.ref b101)]))
  obtain ⟨v113, _, ⟨T113, L113, k113, n113⟩, -, X113, ⟨Lc113, hQ113, l113, y113, z113⟩, st113⟩ := Jvm.LawKit.callS X112 hx (y := (⟨"com/example/wykaz/wykaz/registry/KeyOrderLeadPinLaw", "put", "([BIJ)V"⟩ : MethodName)) hown (mvT hZ (hw _ (List.mem_of_getElem? (i := 1) rfl))) (mvT hZ (hw _ (List.mem_of_getElem? (i := 2) rfl))) (mvT hZ (hw _ (List.mem_of_getElem? (i := 3) rfl))) (mvT hZ (hw _ (List.mem_of_getElem? (i := 4) rfl))) (by decide) (backOf (W := 0) (own_rm1 l Z a0 hw [] b101 (11 : Int32) (own_sh j1 32) L_11 T112.heap n0 (Nat.le_trans Z0 Kc112.1) V112' (by rw [hL_11]; exact hNb) (by decide) g_b101) hZ (hw _ (List.mem_of_getElem? (i := 4) rfl)) (hw _ (List.mem_of_getElem? (i := 3) rfl)) (by decide) (by decide)) (g := (mkF m 133 #[.val (.long j0), .second, .val (.long j1), .second, .val (.int i2), .val (.int n), .val (.ref b101), .unset, .unset] [(.long (own_sh j1 32)), (.int (11 : Int32)), (.ref b101)])) rfl (by rw [hml]; rfl) (argsL := [(.ref b101), (.int (11 : Int32)), (.long (own_sh j1 32))]) (rest := []) (lenOf own_pd0 rfl) rfl (by show 2 * 0 + _ ≤ _; exact Nat.le_of_eq rfl) (hb hby at_133) (fun _ _ => ⟨rfl, rfl, (by decide : 1 + 0 ≤ _), (by decide : 15 + 0 ≤ _)⟩)
  dsimp only [Pt.U, Pt.locs, Pt.cells, Pt.slots] at X113 l113 y113 z113 st113 hQ113
  subst l113 y113 z113
  obtain ⟨rfl, N113q, K113, V113⟩ := hQ113
  have Kc113 : Keep h0 T113.heap [] := Kc112.trans K113 (allS (Or.inr sz_b101) all0)
  obtain ⟨L_12, qL_12⟩ : ∃ L', L' = L_11.set 11 (.int (own_b (own_sh j1 32))) := ⟨_, rfl⟩
  have V113' : own_Ar Z T113.heap b101 .byte L_12 := by rw [qL_12]; exact V113
  have hL_12 : L_12.length = N := by rw [qL_12, List.length_set]; exact hL_11
  have N113 := Fr.app N112 N113q
  refine own_via (g' := T113.setTop (mkF m 136 #[.val (.long j0), .second, .val (.long j1), .second, .val (.int i2), .val (.int n), .val (.ref b101), .unset, .unset] [])) (fun t k => st113 _ k) ?_
  refine own_via (g' := T113.setTop (mkF m 138 #[.val (.long j0), .second, .val (.long j1), .second, .val (.int i2), .val (.int n), .val (.ref b101), .unset, .unset] [(.ref b101)])) (fun t k => XS.aload X113.here hx rfl (hb hby at_136) rfl (rfl) k) ?_
  refine own_via (g' := T113.setTop (mkF m 140 #[.val (.long j0), .second, .val (.long j1), .second, .val (.int i2), .val (.int n), .val (.ref b101), .unset, .unset] [(.int (12 : Int32)), (.ref b101)])) (fun t k => XS.bipush X113.here hx rfl (hb hby at_138) k) ?_
  refine own_via (g' := T113.setTop (mkF m 141 #[.val (.long j0), .second, .val (.long j1), .second, .val (.int i2), .val (.int n), .val (.ref b101), .unset, .unset] [(.long j1), (.int (12 : Int32)), (.ref b101)])) (fun t k => XT.lloadN X113.here hx rfl (hb hby at_140) rfl k) ?_
  refine own_via (g' := T113.setTop (mkF m 143 #[.val (.long j0), .second, .val (.long j1), .second, .val (.int i2), .val (.int n), .val (.ref b101), .unset, .unset] [(.int (24 : Int32)), (.long j1), (.int (12 : Int32)), (.ref b101)])) (fun t k => XS.bipush X113.here hx rfl (hb hby at_141) k) ?_
  refine own_via (g' := T113.setTop (mkF m 144 #[.val (.long j0), .second, .val (.long j1), .second, .val (.int i2), .val (.int n), .val (.ref b101), .unset, .unset] [(.long ((j1.toUInt64 >>> ((24 : Int32) &&& 0x3f).toInt64.toUInt64).toInt64)), (.int (12 : Int32)), (.ref b101)])) (fun t k => XS.lushr X113.here hx rfl (hb hby at_143) rfl k) ?_
  show own_Fin p e below _ (T113.setTop (mkF m 144 #[.val (.long j0), .second, .val (.long j1), .second, .val (.int i2), .val (.int n), .val (.ref b101), .unset, .unset] [(.long (own_sh j1 24)), (.int (12 : Int32)), (.ref b101)]))
  obtain ⟨v114, _, ⟨T114, L114, k114, n114⟩, -, X114, ⟨Lc114, hQ114, l114, y114, z114⟩, st114⟩ := Jvm.LawKit.callS X113 hx (y := (⟨"com/example/wykaz/wykaz/registry/KeyOrderLeadPinLaw", "put", "([BIJ)V"⟩ : MethodName)) hown (mvT hZ (hw _ (List.mem_of_getElem? (i := 1) rfl))) (mvT hZ (hw _ (List.mem_of_getElem? (i := 2) rfl))) (mvT hZ (hw _ (List.mem_of_getElem? (i := 3) rfl))) (mvT hZ (hw _ (List.mem_of_getElem? (i := 4) rfl))) (by decide) (backOf (W := 0) (own_rm1 l Z a0 hw [] b101 (12 : Int32) (own_sh j1 24) L_12 T113.heap n0 (Nat.le_trans Z0 Kc113.1) V113' (by rw [hL_12]; exact hNb) (by decide) g_b101) hZ (hw _ (List.mem_of_getElem? (i := 4) rfl)) (hw _ (List.mem_of_getElem? (i := 3) rfl)) (by decide) (by decide)) (g := (mkF m 144 #[.val (.long j0), .second, .val (.long j1), .second, .val (.int i2), .val (.int n), .val (.ref b101), .unset, .unset] [(.long (own_sh j1 24)), (.int (12 : Int32)), (.ref b101)])) rfl (by rw [hml]; rfl) (argsL := [(.ref b101), (.int (12 : Int32)), (.long (own_sh j1 24))]) (rest := []) (lenOf own_pd0 rfl) rfl (by show 2 * 0 + _ ≤ _; exact Nat.le_of_eq rfl) (hb hby at_144) (fun _ _ => ⟨rfl, rfl, (by decide : 1 + 0 ≤ _), (by decide : 15 + 0 ≤ _)⟩)
  dsimp only [Pt.U, Pt.locs, Pt.cells, Pt.slots] at X114 l114 y114 z114 st114 hQ114
  subst l114 y114 z114
  obtain ⟨rfl, N114q, K114, V114⟩ := hQ114
  have Kc114 : Keep h0 T114.heap [] := Kc113.trans K114 (allS (Or.inr sz_b101) all0)
  obtain ⟨L_13, qL_13⟩ : ∃ L', L' = L_12.set 12 (.int (own_b (own_sh j1 24))) := ⟨_, rfl⟩
  have V114' : own_Ar Z T114.heap b101 .byte L_13 := by rw [qL_13]; exact V114
  have hL_13 : L_13.length = N := by rw [qL_13, List.length_set]; exact hL_12
  have N114 := Fr.app N113 N114q
  refine own_via (g' := T114.setTop (mkF m 147 #[.val (.long j0), .second, .val (.long j1), .second, .val (.int i2), .val (.int n), .val (.ref b101), .unset, .unset] [])) (fun t k => st114 _ k) ?_
  refine own_via (g' := T114.setTop (mkF m 149 #[.val (.long j0), .second, .val (.long j1), .second, .val (.int i2), .val (.int n), .val (.ref b101), .unset, .unset] [(.ref b101)])) (fun t k => XS.aload X114.here hx rfl (hb hby at_147) rfl (rfl) k) ?_
  refine own_via (g' := T114.setTop (mkF m 151 #[.val (.long j0), .second, .val (.long j1), .second, .val (.int i2), .val (.int n), .val (.ref b101), .unset, .unset] [(.int (13 : Int32)), (.ref b101)])) (fun t k => XS.bipush X114.here hx rfl (hb hby at_149) k) ?_
  refine own_via (g' := T114.setTop (mkF m 152 #[.val (.long j0), .second, .val (.long j1), .second, .val (.int i2), .val (.int n), .val (.ref b101), .unset, .unset] [(.long j1), (.int (13 : Int32)), (.ref b101)])) (fun t k => XT.lloadN X114.here hx rfl (hb hby at_151) rfl k) ?_
  refine own_via (g' := T114.setTop (mkF m 154 #[.val (.long j0), .second, .val (.long j1), .second, .val (.int i2), .val (.int n), .val (.ref b101), .unset, .unset] [(.int (16 : Int32)), (.long j1), (.int (13 : Int32)), (.ref b101)])) (fun t k => XS.bipush X114.here hx rfl (hb hby at_152) k) ?_
  refine own_via (g' := T114.setTop (mkF m 155 #[.val (.long j0), .second, .val (.long j1), .second, .val (.int i2), .val (.int n), .val (.ref b101), .unset, .unset] [(.long ((j1.toUInt64 >>> ((16 : Int32) &&& 0x3f).toInt64.toUInt64).toInt64)), (.int (13 : Int32)), (.ref b101)])) (fun t k => XS.lushr X114.here hx rfl (hb hby at_154) rfl k) ?_
  show own_Fin p e below _ (T114.setTop (mkF m 155 #[.val (.long j0), .second, .val (.long j1), .second, .val (.int i2), .val (.int n), .val (.ref b101), .unset, .unset] [(.long (own_sh j1 16)), (.int (13 : Int32)), (.ref b101)]))
  obtain ⟨v115, _, ⟨T115, L115, k115, n115⟩, -, X115, ⟨Lc115, hQ115, l115, y115, z115⟩, st115⟩ := Jvm.LawKit.callS X114 hx (y := (⟨"com/example/wykaz/wykaz/registry/KeyOrderLeadPinLaw", "put", "([BIJ)V"⟩ : MethodName)) hown (mvT hZ (hw _ (List.mem_of_getElem? (i := 1) rfl))) (mvT hZ (hw _ (List.mem_of_getElem? (i := 2) rfl))) (mvT hZ (hw _ (List.mem_of_getElem? (i := 3) rfl))) (mvT hZ (hw _ (List.mem_of_getElem? (i := 4) rfl))) (by decide) (backOf (W := 0) (own_rm1 l Z a0 hw [] b101 (13 : Int32) (own_sh j1 16) L_13 T114.heap n0 (Nat.le_trans Z0 Kc114.1) V114' (by rw [hL_13]; exact hNb) (by decide) g_b101) hZ (hw _ (List.mem_of_getElem? (i := 4) rfl)) (hw _ (List.mem_of_getElem? (i := 3) rfl)) (by decide) (by decide)) (g := (mkF m 155 #[.val (.long j0), .second, .val (.long j1), .second, .val (.int i2), .val (.int n), .val (.ref b101), .unset, .unset] [(.long (own_sh j1 16)), (.int (13 : Int32)), (.ref b101)])) rfl (by rw [hml]; rfl) (argsL := [(.ref b101), (.int (13 : Int32)), (.long (own_sh j1 16))]) (rest := []) (lenOf own_pd0 rfl) rfl (by show 2 * 0 + _ ≤ _; exact Nat.le_of_eq rfl) (hb hby at_155) (fun _ _ => ⟨rfl, rfl, (by decide : 1 + 0 ≤ _), (by decide : 15 + 0 ≤ _)⟩)
  dsimp only [Pt.U, Pt.locs, Pt.cells, Pt.slots] at X115 l115 y115 z115 st115 hQ115
  subst l115 y115 z115
  obtain ⟨rfl, N115q, K115, V115⟩ := hQ115
  have Kc115 : Keep h0 T115.heap [] := Kc114.trans K115 (allS (Or.inr sz_b101) all0)
  obtain ⟨L_14, qL_14⟩ : ∃ L', L' = L_13.set 13 (.int (own_b (own_sh j1 16))) := ⟨_, rfl⟩
  have V115' : own_Ar Z T115.heap b101 .byte L_14 := by rw [qL_14]; exact V115
  have hL_14 : L_14.length = N := by rw [qL_14, List.length_set]; exact hL_13
  have N115 := Fr.app N114 N115q
  refine own_via (g' := T115.setTop (mkF m 158 #[.val (.long j0), .second, .val (.long j1), .second, .val (.int i2), .val (.int n), .val (.ref b101), .unset, .unset] [])) (fun t k => st115 _ k) ?_
  refine own_via (g' := T115.setTop (mkF m 160 #[.val (.long j0), .second, .val (.long j1), .second, .val (.int i2), .val (.int n), .val (.ref b101), .unset, .unset] [(.ref b101)])) (fun t k => XS.aload X115.here hx rfl (hb hby at_158) rfl (rfl) k) ?_
  refine own_via (g' := T115.setTop (mkF m 162 #[.val (.long j0), .second, .val (.long j1), .second, .val (.int i2), .val (.int n), .val (.ref b101), .unset, .unset] [(.int (14 : Int32)), (.ref b101)])) (fun t k => XS.bipush X115.here hx rfl (hb hby at_160) k) ?_
  refine own_via (g' := T115.setTop (mkF m 163 #[.val (.long j0), .second, .val (.long j1), .second, .val (.int i2), .val (.int n), .val (.ref b101), .unset, .unset] [(.long j1), (.int (14 : Int32)), (.ref b101)])) (fun t k => XT.lloadN X115.here hx rfl (hb hby at_162) rfl k) ?_
  refine own_via (g' := T115.setTop (mkF m 165 #[.val (.long j0), .second, .val (.long j1), .second, .val (.int i2), .val (.int n), .val (.ref b101), .unset, .unset] [(.int (8 : Int32)), (.long j1), (.int (14 : Int32)), (.ref b101)])) (fun t k => XS.bipush X115.here hx rfl (hb hby at_163) k) ?_
  refine own_via (g' := T115.setTop (mkF m 166 #[.val (.long j0), .second, .val (.long j1), .second, .val (.int i2), .val (.int n), .val (.ref b101), .unset, .unset] [(.long ((j1.toUInt64 >>> ((8 : Int32) &&& 0x3f).toInt64.toUInt64).toInt64)), (.int (14 : Int32)), (.ref b101)])) (fun t k => XS.lushr X115.here hx rfl (hb hby at_165) rfl k) ?_
  show own_Fin p e below _ (T115.setTop (mkF m 166 #[.val (.long j0), .second, .val (.long j1), .second, .val (.int i2), .val (.int n), .val (.ref b101), .unset, .unset] [(.long (own_sh j1 8)), (.int (14 : Int32)), (.ref b101)]))
  obtain ⟨v116, _, ⟨T116, L116, k116, n116⟩, -, X116, ⟨Lc116, hQ116, l116, y116, z116⟩, st116⟩ := Jvm.LawKit.callS X115 hx (y := (⟨"com/example/wykaz/wykaz/registry/KeyOrderLeadPinLaw", "put", "([BIJ)V"⟩ : MethodName)) hown (mvT hZ (hw _ (List.mem_of_getElem? (i := 1) rfl))) (mvT hZ (hw _ (List.mem_of_getElem? (i := 2) rfl))) (mvT hZ (hw _ (List.mem_of_getElem? (i := 3) rfl))) (mvT hZ (hw _ (List.mem_of_getElem? (i := 4) rfl))) (by decide) (backOf (W := 0) (own_rm1 l Z a0 hw [] b101 (14 : Int32) (own_sh j1 8) L_14 T115.heap n0 (Nat.le_trans Z0 Kc115.1) V115' (by rw [hL_14]; exact hNb) (by decide) g_b101) hZ (hw _ (List.mem_of_getElem? (i := 4) rfl)) (hw _ (List.mem_of_getElem? (i := 3) rfl)) (by decide) (by decide)) (g := (mkF m 166 #[.val (.long j0), .second, .val (.long j1), .second, .val (.int i2), .val (.int n), .val (.ref b101), .unset, .unset] [(.long (own_sh j1 8)), (.int (14 : Int32)), (.ref b101)])) rfl (by rw [hml]; rfl) (argsL := [(.ref b101), (.int (14 : Int32)), (.long (own_sh j1 8))]) (rest := []) (lenOf own_pd0 rfl) rfl (by show 2 * 0 + _ ≤ _; exact Nat.le_of_eq rfl) (hb hby at_166) (fun _ _ => ⟨rfl, rfl, (by decide : 1 + 0 ≤ _), (by decide : 15 + 0 ≤ _)⟩)
  dsimp only [Pt.U, Pt.locs, Pt.cells, Pt.slots] at X116 l116 y116 z116 st116 hQ116
  subst l116 y116 z116
  obtain ⟨rfl, N116q, K116, V116⟩ := hQ116
  have Kc116 : Keep h0 T116.heap [] := Kc115.trans K116 (allS (Or.inr sz_b101) all0)
  obtain ⟨L_15, qL_15⟩ : ∃ L', L' = L_14.set 14 (.int (own_b (own_sh j1 8))) := ⟨_, rfl⟩
  have V116' : own_Ar Z T116.heap b101 .byte L_15 := by rw [qL_15]; exact V116
  have hL_15 : L_15.length = N := by rw [qL_15, List.length_set]; exact hL_14
  have N116 := Fr.app N115 N116q
  refine own_via (g' := T116.setTop (mkF m 169 #[.val (.long j0), .second, .val (.long j1), .second, .val (.int i2), .val (.int n), .val (.ref b101), .unset, .unset] [])) (fun t k => st116 _ k) ?_
  refine own_via (g' := T116.setTop (mkF m 171 #[.val (.long j0), .second, .val (.long j1), .second, .val (.int i2), .val (.int n), .val (.ref b101), .unset, .unset] [(.ref b101)])) (fun t k => XS.aload X116.here hx rfl (hb hby at_169) rfl (rfl) k) ?_
  refine own_via (g' := T116.setTop (mkF m 173 #[.val (.long j0), .second, .val (.long j1), .second, .val (.int i2), .val (.int n), .val (.ref b101), .unset, .unset] [(.int (15 : Int32)), (.ref b101)])) (fun t k => XS.bipush X116.here hx rfl (hb hby at_171) k) ?_
  refine own_via (g' := T116.setTop (mkF m 174 #[.val (.long j0), .second, .val (.long j1), .second, .val (.int i2), .val (.int n), .val (.ref b101), .unset, .unset] [(.long j1), (.int (15 : Int32)), (.ref b101)])) (fun t k => XT.lloadN X116.here hx rfl (hb hby at_173) rfl k) ?_
  obtain ⟨v117, _, ⟨T117, L117, k117, n117⟩, -, X117, ⟨Lc117, hQ117, l117, y117, z117⟩, st117⟩ := Jvm.LawKit.callS X116 hx (y := (⟨"com/example/wykaz/wykaz/registry/KeyOrderLeadPinLaw", "put", "([BIJ)V"⟩ : MethodName)) hown (mvT hZ (hw _ (List.mem_of_getElem? (i := 1) rfl))) (mvT hZ (hw _ (List.mem_of_getElem? (i := 2) rfl))) (mvT hZ (hw _ (List.mem_of_getElem? (i := 3) rfl))) (mvT hZ (hw _ (List.mem_of_getElem? (i := 4) rfl))) (by decide) (backOf (W := 0) (own_rm1 l Z a0 hw [] b101 (15 : Int32) j1 L_15 T116.heap n0 (Nat.le_trans Z0 Kc116.1) V116' (by rw [hL_15]; exact hNb) (by decide) g_b101) hZ (hw _ (List.mem_of_getElem? (i := 4) rfl)) (hw _ (List.mem_of_getElem? (i := 3) rfl)) (by decide) (by decide)) (g := (mkF m 174 #[.val (.long j0), .second, .val (.long j1), .second, .val (.int i2), .val (.int n), .val (.ref b101), .unset, .unset] [(.long j1), (.int (15 : Int32)), (.ref b101)])) rfl (by rw [hml]; rfl) (argsL := [(.ref b101), (.int (15 : Int32)), (.long j1)]) (rest := []) (lenOf own_pd0 rfl) rfl (by show 2 * 0 + _ ≤ _; exact Nat.le_of_eq rfl) (hb hby at_174) (fun _ _ => ⟨rfl, rfl, (by decide : 1 + 0 ≤ _), (by decide : 15 + 0 ≤ _)⟩)
  dsimp only [Pt.U, Pt.locs, Pt.cells, Pt.slots] at X117 l117 y117 z117 st117 hQ117
  subst l117 y117 z117
  obtain ⟨rfl, N117q, K117, V117⟩ := hQ117
  have Kc117 : Keep h0 T117.heap [] := Kc116.trans K117 (allS (Or.inr sz_b101) all0)
  obtain ⟨L_16, qL_16⟩ : ∃ L', L' = L_15.set 15 (.int (own_b j1)) := ⟨_, rfl⟩
  have V117' : own_Ar Z T117.heap b101 .byte L_16 := by rw [qL_16]; exact V117
  have hL_16 : L_16.length = N := by rw [qL_16, List.length_set]; exact hL_15
  have N117 := Fr.app N116 N117q
  refine own_via (g' := T117.setTop (mkF m 177 #[.val (.long j0), .second, .val (.long j1), .second, .val (.int i2), .val (.int n), .val (.ref b101), .unset, .unset] [])) (fun t k => st117 _ k) ?_
  refine own_via (g' := T117.setTop (mkF m 179 #[.val (.long j0), .second, .val (.long j1), .second, .val (.int i2), .val (.int n), .val (.ref b101), .unset, .unset] [(.int n)])) (fun t k => XS.iload X117.here hx rfl (hb hby at_177) rfl k) ?_
  refine own_via (g' := T117.setTop (mkF m 181 #[.val (.long j0), .second, .val (.long j1), .second, .val (.int i2), .val (.int n), .val (.ref b101), .unset, .unset] [(.int (8 : Int32)), (.int n)])) (fun t k => XS.bipush X117.here hx rfl (hb hby at_179) k) ?_
  by_cases hc181_118 : n < (8 : Int32)
  · refine own_via (g' := T117.setTop (mkF m 190 #[.val (.long j0), .second, .val (.long j1), .second, .val (.int i2), .val (.int n), .val (.ref b101), .unset, .unset] [])) (fun t k => XS.icmpYes X117.here hx rfl (pc0 := 181) (pc' := 190) rfl (hb hby at_181) rfl (XT.ii_lt_t hc181_118) (by decide) (by decide) k) ?_
    refine own_via (g' := T117.setTop (mkF m 192 #[.val (.long j0), .second, .val (.long j1), .second, .val (.int i2), .val (.int n), .val (.ref b101), .unset, .unset] [(.int n)])) (fun t k => XS.iload X117.here hx rfl (hb hby at_190) rfl k) ?_
    by_cases hc192_119 : n = 0
    · refine own_via (g' := T117.setTop (mkF m 195 #[.val (.long j0), .second, .val (.long j1), .second, .val (.int i2), .val (.int n), .val (.ref b101), .unset, .unset] [])) (fun t k => XS.ifNo X117.here hx rfl (hb hby at_192) rfl (XT.i0_ne_f hc192_119) k) ?_
      refine own_via (g' := T117.setTop (mkF m 196 #[.val (.long j0), .second, .val (.long j1), .second, .val (.int i2), .val (.int n), .val (.ref b101), .unset, .unset] [(.long (0 : Int64))])) (fun t k => XT.lconst X117.here hx rfl (hb hby at_195) k) ?_
      refine own_via (g' := T117.setTop (mkF m 198 #[.val (.long j0), .second, .val (.long j1), .second, .val (.int i2), .val (.int n), .val (.ref b101), .val (.long (0 : Int64)), .second] [])) (fun t k => XT.lstore X117.here hx rfl (hb hby at_196) rfl (l' := #[.val (.long j0), .second, .val (.long j1), .second, .val (.int i2), .val (.int n), .val (.ref b101), .val (.long (0 : Int64)), .second]) rfl k) ?_
      refine own_via (g' := T117.setTop (mkF m 217 #[.val (.long j0), .second, .val (.long j1), .second, .val (.int i2), .val (.int n), .val (.ref b101), .val (.long (0 : Int64)), .second] [])) (fun t k => XS.goto X117.here hx rfl (pc0 := 198) (pc' := 217) rfl (hb hby at_198) (by decide) (by decide) k) ?_
      refine own_via (g' := T117.setTop (mkF m 219 #[.val (.long j0), .second, .val (.long j1), .second, .val (.int i2), .val (.int n), .val (.ref b101), .val (.long (0 : Int64)), .second] [(.ref b101)])) (fun t k => XS.aload X117.here hx rfl (hb hby at_217) rfl (rfl) k) ?_
      have hnn : L_16.length.toInt32 = n := by rw [hL_16, hN]; exact (back32 hnz).1
      have hg0 : (0 : Int32) < n → L_16[0]? = some (.int (own_b (own_sh j0 56))) := fun q => by
        have q' : 0 < N := by rw [← hnn] at q; have := (own_ltlen (p := 0) (by decide) (by rw [hL_16]; exact hNb)).mp q; rw [hL_16] at this; exact this
        rw [qL_16, List.getElem?_set_ne (by decide), qL_15, List.getElem?_set_ne (by decide), qL_14, List.getElem?_set_ne (by decide), qL_13, List.getElem?_set_ne (by decide), qL_12, List.getElem?_set_ne (by decide), qL_11, List.getElem?_set_ne (by decide), qL_10, List.getElem?_set_ne (by decide), qL_9, List.getElem?_set_ne (by decide), qL_8, List.getElem?_set_ne (by decide), qL_7, List.getElem?_set_ne (by decide), qL_6, List.getElem?_set_ne (by decide), qL_5, List.getElem?_set_ne (by decide), qL_4, List.getElem?_set_ne (by decide), qL_3, List.getElem?_set_ne (by decide), qL_2, List.getElem?_set_ne (by decide), qL_1, List.getElem?_set_self (by rw [hL_0]; exact q')]
      have hg1 : (1 : Int32) < n → L_16[1]? = some (.int (own_b (own_sh j0 48))) := fun q => by
        have q' : 1 < N := by rw [← hnn] at q; have := (own_ltlen (p := 1) (by decide) (by rw [hL_16]; exact hNb)).mp q; rw [hL_16] at this; exact this
        rw [qL_16, List.getElem?_set_ne (by decide), qL_15, List.getElem?_set_ne (by decide), qL_14, List.getElem?_set_ne (by decide), qL_13, List.getElem?_set_ne (by decide), qL_12, List.getElem?_set_ne (by decide), qL_11, List.getElem?_set_ne (by decide), qL_10, List.getElem?_set_ne (by decide), qL_9, List.getElem?_set_ne (by decide), qL_8, List.getElem?_set_ne (by decide), qL_7, List.getElem?_set_ne (by decide), qL_6, List.getElem?_set_ne (by decide), qL_5, List.getElem?_set_ne (by decide), qL_4, List.getElem?_set_ne (by decide), qL_3, List.getElem?_set_ne (by decide), qL_2, List.getElem?_set_self (by rw [hL_1]; exact q')]
      have hg2 : (2 : Int32) < n → L_16[2]? = some (.int (own_b (own_sh j0 40))) := fun q => by
        have q' : 2 < N := by rw [← hnn] at q; have := (own_ltlen (p := 2) (by decide) (by rw [hL_16]; exact hNb)).mp q; rw [hL_16] at this; exact this
        rw [qL_16, List.getElem?_set_ne (by decide), qL_15, List.getElem?_set_ne (by decide), qL_14, List.getElem?_set_ne (by decide), qL_13, List.getElem?_set_ne (by decide), qL_12, List.getElem?_set_ne (by decide), qL_11, List.getElem?_set_ne (by decide), qL_10, List.getElem?_set_ne (by decide), qL_9, List.getElem?_set_ne (by decide), qL_8, List.getElem?_set_ne (by decide), qL_7, List.getElem?_set_ne (by decide), qL_6, List.getElem?_set_ne (by decide), qL_5, List.getElem?_set_ne (by decide), qL_4, List.getElem?_set_ne (by decide), qL_3, List.getElem?_set_self (by rw [hL_2]; exact q')]
      have hg3 : (3 : Int32) < n → L_16[3]? = some (.int (own_b (own_sh j0 32))) := fun q => by
        have q' : 3 < N := by rw [← hnn] at q; have := (own_ltlen (p := 3) (by decide) (by rw [hL_16]; exact hNb)).mp q; rw [hL_16] at this; exact this
        rw [qL_16, List.getElem?_set_ne (by decide), qL_15, List.getElem?_set_ne (by decide), qL_14, List.getElem?_set_ne (by decide), qL_13, List.getElem?_set_ne (by decide), qL_12, List.getElem?_set_ne (by decide), qL_11, List.getElem?_set_ne (by decide), qL_10, List.getElem?_set_ne (by decide), qL_9, List.getElem?_set_ne (by decide), qL_8, List.getElem?_set_ne (by decide), qL_7, List.getElem?_set_ne (by decide), qL_6, List.getElem?_set_ne (by decide), qL_5, List.getElem?_set_ne (by decide), qL_4, List.getElem?_set_self (by rw [hL_3]; exact q')]
      have hg4 : (4 : Int32) < n → L_16[4]? = some (.int (own_b (own_sh j0 24))) := fun q => by
        have q' : 4 < N := by rw [← hnn] at q; have := (own_ltlen (p := 4) (by decide) (by rw [hL_16]; exact hNb)).mp q; rw [hL_16] at this; exact this
        rw [qL_16, List.getElem?_set_ne (by decide), qL_15, List.getElem?_set_ne (by decide), qL_14, List.getElem?_set_ne (by decide), qL_13, List.getElem?_set_ne (by decide), qL_12, List.getElem?_set_ne (by decide), qL_11, List.getElem?_set_ne (by decide), qL_10, List.getElem?_set_ne (by decide), qL_9, List.getElem?_set_ne (by decide), qL_8, List.getElem?_set_ne (by decide), qL_7, List.getElem?_set_ne (by decide), qL_6, List.getElem?_set_ne (by decide), qL_5, List.getElem?_set_self (by rw [hL_4]; exact q')]
      have hg5 : (5 : Int32) < n → L_16[5]? = some (.int (own_b (own_sh j0 16))) := fun q => by
        have q' : 5 < N := by rw [← hnn] at q; have := (own_ltlen (p := 5) (by decide) (by rw [hL_16]; exact hNb)).mp q; rw [hL_16] at this; exact this
        rw [qL_16, List.getElem?_set_ne (by decide), qL_15, List.getElem?_set_ne (by decide), qL_14, List.getElem?_set_ne (by decide), qL_13, List.getElem?_set_ne (by decide), qL_12, List.getElem?_set_ne (by decide), qL_11, List.getElem?_set_ne (by decide), qL_10, List.getElem?_set_ne (by decide), qL_9, List.getElem?_set_ne (by decide), qL_8, List.getElem?_set_ne (by decide), qL_7, List.getElem?_set_ne (by decide), qL_6, List.getElem?_set_self (by rw [hL_5]; exact q')]
      have hg6 : (6 : Int32) < n → L_16[6]? = some (.int (own_b (own_sh j0 8))) := fun q => by
        have q' : 6 < N := by rw [← hnn] at q; have := (own_ltlen (p := 6) (by decide) (by rw [hL_16]; exact hNb)).mp q; rw [hL_16] at this; exact this
        rw [qL_16, List.getElem?_set_ne (by decide), qL_15, List.getElem?_set_ne (by decide), qL_14, List.getElem?_set_ne (by decide), qL_13, List.getElem?_set_ne (by decide), qL_12, List.getElem?_set_ne (by decide), qL_11, List.getElem?_set_ne (by decide), qL_10, List.getElem?_set_ne (by decide), qL_9, List.getElem?_set_ne (by decide), qL_8, List.getElem?_set_ne (by decide), qL_7, List.getElem?_set_self (by rw [hL_6]; exact q')]
      have hg7 : (7 : Int32) < n → L_16[7]? = some (.int (own_b j0)) := fun q => by
        have q' : 7 < N := by rw [← hnn] at q; have := (own_ltlen (p := 7) (by decide) (by rw [hL_16]; exact hNb)).mp q; rw [hL_16] at this; exact this
        rw [qL_16, List.getElem?_set_ne (by decide), qL_15, List.getElem?_set_ne (by decide), qL_14, List.getElem?_set_ne (by decide), qL_13, List.getElem?_set_ne (by decide), qL_12, List.getElem?_set_ne (by decide), qL_11, List.getElem?_set_ne (by decide), qL_10, List.getElem?_set_ne (by decide), qL_9, List.getElem?_set_ne (by decide), qL_8, List.getElem?_set_self (by rw [hL_7]; exact q')]
      obtain ⟨v120, _, ⟨T120, L120, k120, n120⟩, -, X120, ⟨Lc120, hQ120, l120, y120, z120⟩, st120⟩ := Jvm.LawKit.callS X117 hx (y := (⟨"com/example/wykaz/wykaz/registry/KeyOrder", "lead", "([B)J"⟩ : MethodName)) hown (mvT hZ (hw _ (List.mem_of_getElem? (i := 5) rfl))) (mvT hZ (hw _ (List.mem_of_getElem? (i := 6) rfl))) (mvT hZ (hw _ (List.mem_of_getElem? (i := 7) rfl))) (mvT hZ (hw _ (List.mem_of_getElem? (i := 8) rfl))) (by decide) (backOf (W := 0) (own_rm2 l Z a0 hw [] b101 L_16 n (own_b (own_sh j0 56)) (own_b (own_sh j0 48)) (own_b (own_sh j0 40)) (own_b (own_sh j0 32)) (own_b (own_sh j0 24)) (own_b (own_sh j0 16)) (own_b (own_sh j0 8)) (own_b j0) T117.heap n0 (Nat.le_trans Z0 Kc117.1) V117' hnn hg0 hg1 hg2 hg3 hg4 hg5 hg6 hg7) hZ (hw _ (List.mem_of_getElem? (i := 8) rfl)) (hw _ (List.mem_of_getElem? (i := 7) rfl)) (by decide) (by decide)) (g := (mkF m 219 #[.val (.long j0), .second, .val (.long j1), .second, .val (.int i2), .val (.int n), .val (.ref b101), .val (.long (0 : Int64)), .second] [(.ref b101)])) rfl (by rw [hml]; rfl) (argsL := [(.ref b101)]) (rest := []) (lenOf own_pd1 rfl) rfl (by show 2 * 0 + _ ≤ _; exact Nat.le_of_eq rfl) (hb hby at_219) (fun _ _ => ⟨rfl, rfl, (by decide : 1 + 0 ≤ _), (by decide : 15 + 0 ≤ _)⟩)
      dsimp only [Pt.U, Pt.locs, Pt.cells, Pt.slots] at X120 l120 y120 z120 st120 hQ120
      subst l120 y120 z120
      obtain ⟨rfl, N120q, e120⟩ := hQ120
      have N120 := Fr.app N117 N120q
      refine own_via (g' := T120.setTop (mkF m 222 #[.val (.long j0), .second, .val (.long j1), .second, .val (.int i2), .val (.int n), .val (.ref b101), .val (.long (0 : Int64)), .second] [(.long (own_lead n (own_b (own_sh j0 56)) (own_b (own_sh j0 48)) (own_b (own_sh j0 40)) (own_b (own_sh j0 32)) (own_b (own_sh j0 24)) (own_b (own_sh j0 16)) (own_b (own_sh j0 8)) (own_b j0)))])) (fun t k => st120 _ k) ?_
      refine own_via (g' := T120.setTop (mkF m 224 #[.val (.long j0), .second, .val (.long j1), .second, .val (.int i2), .val (.int n), .val (.ref b101), .val (.long (0 : Int64)), .second] [(.long (0 : Int64)), (.long (own_lead n (own_b (own_sh j0 56)) (own_b (own_sh j0 48)) (own_b (own_sh j0 40)) (own_b (own_sh j0 32)) (own_b (own_sh j0 24)) (own_b (own_sh j0 16)) (own_b (own_sh j0 8)) (own_b j0)))])) (fun t k => XT.lload X120.here hx rfl (hb hby at_222) rfl k) ?_
      refine own_via (g' := T120.setTop (mkF m 225 #[.val (.long j0), .second, .val (.long j1), .second, .val (.int i2), .val (.int n), .val (.ref b101), .val (.long (0 : Int64)), .second] [(.int (XT.cmpL (own_lead n (own_b (own_sh j0 56)) (own_b (own_sh j0 48)) (own_b (own_sh j0 40)) (own_b (own_sh j0 32)) (own_b (own_sh j0 24)) (own_b (own_sh j0 16)) (own_b (own_sh j0 8)) (own_b j0)) (0 : Int64)))])) (fun t k => XT.lcmp X120.here hx rfl (hb hby at_224) rfl k) ?_
      refine own_via (g' := T120.setTop (mkF m 228 #[.val (.long j0), .second, .val (.long j1), .second, .val (.int i2), .val (.int n), .val (.ref b101), .val (.long (0 : Int64)), .second] [])) (fun t k => XS.ifNo X120.here hx rfl (hb hby at_225) rfl (XT.ll_ne_f (by rw [own_law j0 n hn0.1 hn0.2, own_want, if_pos hc181_118, if_pos hc192_119])) k) ?_
      refine own_via (g' := T120.setTop (mkF m 229 #[.val (.long j0), .second, .val (.long j1), .second, .val (.int i2), .val (.int n), .val (.ref b101), .val (.long (0 : Int64)), .second] [(.int (1 : Int32))])) (fun t k => XS.iconst X120.here hx rfl (hb hby at_228) k) ?_
      refine own_via (g' := T120.setTop (mkF m 233 #[.val (.long j0), .second, .val (.long j1), .second, .val (.int i2), .val (.int n), .val (.ref b101), .val (.long (0 : Int64)), .second] [(.int (1 : Int32))])) (fun t k => XS.goto X120.here hx rfl (pc0 := 229) (pc' := 233) rfl (hb hby at_229) (by decide) (by decide) k) ?_
      exact own_retB X120 hx hlk (t := .boolean) Bd.returns (by simp) (hb hby at_233) ⟨rfl, N120⟩ (by decide) (by decide)
    · refine own_via (g' := T117.setTop (mkF m 201 #[.val (.long j0), .second, .val (.long j1), .second, .val (.int i2), .val (.int n), .val (.ref b101), .unset, .unset] [])) (fun t k => XS.ifYes X117.here hx rfl (pc0 := 192) (pc' := 201) rfl (hb hby at_192) rfl (XT.i0_ne_t hc192_119) (by decide) (by decide) k) ?_
      refine own_via (g' := T117.setTop (mkF m 202 #[.val (.long j0), .second, .val (.long j1), .second, .val (.int i2), .val (.int n), .val (.ref b101), .unset, .unset] [(.long j0)])) (fun t k => XT.lloadN X117.here hx rfl (hb hby at_201) rfl k) ?_
      refine own_via (g' := T117.setTop (mkF m 205 #[.val (.long j0), .second, .val (.long j1), .second, .val (.int i2), .val (.int n), .val (.ref b101), .unset, .unset] [(.long (-1 : Int64)), (.long j0)])) (fun t k => X117.ldc2Long hx hown (mvT hZ (hw _ (List.mem_of_getElem? (i := 9) rfl))) (g := (mkF m 202 #[.val (.long j0), .second, .val (.long j1), .second, .val (.int i2), .val (.int n), .val (.ref b101), .unset, .unset] [(.long j0)])) rfl (hb hby at_202) _ k) ?_
      refine own_via (g' := T117.setTop (mkF m 207 #[.val (.long j0), .second, .val (.long j1), .second, .val (.int i2), .val (.int n), .val (.ref b101), .unset, .unset] [(.int (64 : Int32)), (.long (-1 : Int64)), (.long j0)])) (fun t k => XS.bipush X117.here hx rfl (hb hby at_205) k) ?_
      refine own_via (g' := T117.setTop (mkF m 209 #[.val (.long j0), .second, .val (.long j1), .second, .val (.int i2), .val (.int n), .val (.ref b101), .unset, .unset] [(.int (8 : Int32)), (.int (64 : Int32)), (.long (-1 : Int64)), (.long j0)])) (fun t k => XS.bipush X117.here hx rfl (hb hby at_207) k) ?_
      refine own_via (g' := T117.setTop (mkF m 211 #[.val (.long j0), .second, .val (.long j1), .second, .val (.int i2), .val (.int n), .val (.ref b101), .unset, .unset] [(.int n), (.int (8 : Int32)), (.int (64 : Int32)), (.long (-1 : Int64)), (.long j0)])) (fun t k => XS.iload X117.here hx rfl (hb hby at_209) rfl k) ?_
      refine own_via (g' := T117.setTop (mkF m 212 #[.val (.long j0), .second, .val (.long j1), .second, .val (.int i2), .val (.int n), .val (.ref b101), .unset, .unset] [(.int ((8 : Int32) * n)), (.int (64 : Int32)), (.long (-1 : Int64)), (.long j0)])) (fun t k => XS.imul X117.here hx rfl (hb hby at_211) rfl k) ?_
      refine own_via (g' := T117.setTop (mkF m 213 #[.val (.long j0), .second, .val (.long j1), .second, .val (.int i2), .val (.int n), .val (.ref b101), .unset, .unset] [(.int ((64 : Int32) - ((8 : Int32) * n))), (.long (-1 : Int64)), (.long j0)])) (fun t k => XS.isub X117.here hx rfl (hb hby at_212) rfl k) ?_
      refine own_via (g' := T117.setTop (mkF m 214 #[.val (.long j0), .second, .val (.long j1), .second, .val (.int i2), .val (.int n), .val (.ref b101), .unset, .unset] [(.long ((-1 : Int64) <<< (((64 : Int32) - ((8 : Int32) * n)) &&& 0x3f).toInt64)), (.long j0)])) (fun t k => XS.lshl X117.here hx rfl (hb hby at_213) rfl k) ?_
      refine own_via (g' := T117.setTop (mkF m 215 #[.val (.long j0), .second, .val (.long j1), .second, .val (.int i2), .val (.int n), .val (.ref b101), .unset, .unset] [(.long (j0 &&& ((-1 : Int64) <<< (((64 : Int32) - ((8 : Int32) * n)) &&& 0x3f).toInt64)))])) (fun t k => XT.land X117.here hx rfl (hb hby at_214) rfl k) ?_
      refine own_via (g' := T117.setTop (mkF m 217 #[.val (.long j0), .second, .val (.long j1), .second, .val (.int i2), .val (.int n), .val (.ref b101), .val (.long (j0 &&& ((-1 : Int64) <<< (((64 : Int32) - ((8 : Int32) * n)) &&& 0x3f).toInt64))), .second] [])) (fun t k => XT.lstore X117.here hx rfl (hb hby at_215) rfl (l' := #[.val (.long j0), .second, .val (.long j1), .second, .val (.int i2), .val (.int n), .val (.ref b101), .val (.long (j0 &&& ((-1 : Int64) <<< (((64 : Int32) - ((8 : Int32) * n)) &&& 0x3f).toInt64))), .second]) rfl k) ?_
      refine own_via (g' := T117.setTop (mkF m 219 #[.val (.long j0), .second, .val (.long j1), .second, .val (.int i2), .val (.int n), .val (.ref b101), .val (.long (j0 &&& ((-1 : Int64) <<< (((64 : Int32) - ((8 : Int32) * n)) &&& 0x3f).toInt64))), .second] [(.ref b101)])) (fun t k => XS.aload X117.here hx rfl (hb hby at_217) rfl (rfl) k) ?_
      have hnn : L_16.length.toInt32 = n := by rw [hL_16, hN]; exact (back32 hnz).1
      have hg0 : (0 : Int32) < n → L_16[0]? = some (.int (own_b (own_sh j0 56))) := fun q => by
        have q' : 0 < N := by rw [← hnn] at q; have := (own_ltlen (p := 0) (by decide) (by rw [hL_16]; exact hNb)).mp q; rw [hL_16] at this; exact this
        rw [qL_16, List.getElem?_set_ne (by decide), qL_15, List.getElem?_set_ne (by decide), qL_14, List.getElem?_set_ne (by decide), qL_13, List.getElem?_set_ne (by decide), qL_12, List.getElem?_set_ne (by decide), qL_11, List.getElem?_set_ne (by decide), qL_10, List.getElem?_set_ne (by decide), qL_9, List.getElem?_set_ne (by decide), qL_8, List.getElem?_set_ne (by decide), qL_7, List.getElem?_set_ne (by decide), qL_6, List.getElem?_set_ne (by decide), qL_5, List.getElem?_set_ne (by decide), qL_4, List.getElem?_set_ne (by decide), qL_3, List.getElem?_set_ne (by decide), qL_2, List.getElem?_set_ne (by decide), qL_1, List.getElem?_set_self (by rw [hL_0]; exact q')]
      have hg1 : (1 : Int32) < n → L_16[1]? = some (.int (own_b (own_sh j0 48))) := fun q => by
        have q' : 1 < N := by rw [← hnn] at q; have := (own_ltlen (p := 1) (by decide) (by rw [hL_16]; exact hNb)).mp q; rw [hL_16] at this; exact this
        rw [qL_16, List.getElem?_set_ne (by decide), qL_15, List.getElem?_set_ne (by decide), qL_14, List.getElem?_set_ne (by decide), qL_13, List.getElem?_set_ne (by decide), qL_12, List.getElem?_set_ne (by decide), qL_11, List.getElem?_set_ne (by decide), qL_10, List.getElem?_set_ne (by decide), qL_9, List.getElem?_set_ne (by decide), qL_8, List.getElem?_set_ne (by decide), qL_7, List.getElem?_set_ne (by decide), qL_6, List.getElem?_set_ne (by decide), qL_5, List.getElem?_set_ne (by decide), qL_4, List.getElem?_set_ne (by decide), qL_3, List.getElem?_set_ne (by decide), qL_2, List.getElem?_set_self (by rw [hL_1]; exact q')]
      have hg2 : (2 : Int32) < n → L_16[2]? = some (.int (own_b (own_sh j0 40))) := fun q => by
        have q' : 2 < N := by rw [← hnn] at q; have := (own_ltlen (p := 2) (by decide) (by rw [hL_16]; exact hNb)).mp q; rw [hL_16] at this; exact this
        rw [qL_16, List.getElem?_set_ne (by decide), qL_15, List.getElem?_set_ne (by decide), qL_14, List.getElem?_set_ne (by decide), qL_13, List.getElem?_set_ne (by decide), qL_12, List.getElem?_set_ne (by decide), qL_11, List.getElem?_set_ne (by decide), qL_10, List.getElem?_set_ne (by decide), qL_9, List.getElem?_set_ne (by decide), qL_8, List.getElem?_set_ne (by decide), qL_7, List.getElem?_set_ne (by decide), qL_6, List.getElem?_set_ne (by decide), qL_5, List.getElem?_set_ne (by decide), qL_4, List.getElem?_set_ne (by decide), qL_3, List.getElem?_set_self (by rw [hL_2]; exact q')]
      have hg3 : (3 : Int32) < n → L_16[3]? = some (.int (own_b (own_sh j0 32))) := fun q => by
        have q' : 3 < N := by rw [← hnn] at q; have := (own_ltlen (p := 3) (by decide) (by rw [hL_16]; exact hNb)).mp q; rw [hL_16] at this; exact this
        rw [qL_16, List.getElem?_set_ne (by decide), qL_15, List.getElem?_set_ne (by decide), qL_14, List.getElem?_set_ne (by decide), qL_13, List.getElem?_set_ne (by decide), qL_12, List.getElem?_set_ne (by decide), qL_11, List.getElem?_set_ne (by decide), qL_10, List.getElem?_set_ne (by decide), qL_9, List.getElem?_set_ne (by decide), qL_8, List.getElem?_set_ne (by decide), qL_7, List.getElem?_set_ne (by decide), qL_6, List.getElem?_set_ne (by decide), qL_5, List.getElem?_set_ne (by decide), qL_4, List.getElem?_set_self (by rw [hL_3]; exact q')]
      have hg4 : (4 : Int32) < n → L_16[4]? = some (.int (own_b (own_sh j0 24))) := fun q => by
        have q' : 4 < N := by rw [← hnn] at q; have := (own_ltlen (p := 4) (by decide) (by rw [hL_16]; exact hNb)).mp q; rw [hL_16] at this; exact this
        rw [qL_16, List.getElem?_set_ne (by decide), qL_15, List.getElem?_set_ne (by decide), qL_14, List.getElem?_set_ne (by decide), qL_13, List.getElem?_set_ne (by decide), qL_12, List.getElem?_set_ne (by decide), qL_11, List.getElem?_set_ne (by decide), qL_10, List.getElem?_set_ne (by decide), qL_9, List.getElem?_set_ne (by decide), qL_8, List.getElem?_set_ne (by decide), qL_7, List.getElem?_set_ne (by decide), qL_6, List.getElem?_set_ne (by decide), qL_5, List.getElem?_set_self (by rw [hL_4]; exact q')]
      have hg5 : (5 : Int32) < n → L_16[5]? = some (.int (own_b (own_sh j0 16))) := fun q => by
        have q' : 5 < N := by rw [← hnn] at q; have := (own_ltlen (p := 5) (by decide) (by rw [hL_16]; exact hNb)).mp q; rw [hL_16] at this; exact this
        rw [qL_16, List.getElem?_set_ne (by decide), qL_15, List.getElem?_set_ne (by decide), qL_14, List.getElem?_set_ne (by decide), qL_13, List.getElem?_set_ne (by decide), qL_12, List.getElem?_set_ne (by decide), qL_11, List.getElem?_set_ne (by decide), qL_10, List.getElem?_set_ne (by decide), qL_9, List.getElem?_set_ne (by decide), qL_8, List.getElem?_set_ne (by decide), qL_7, List.getElem?_set_ne (by decide), qL_6, List.getElem?_set_self (by rw [hL_5]; exact q')]
      have hg6 : (6 : Int32) < n → L_16[6]? = some (.int (own_b (own_sh j0 8))) := fun q => by
        have q' : 6 < N := by rw [← hnn] at q; have := (own_ltlen (p := 6) (by decide) (by rw [hL_16]; exact hNb)).mp q; rw [hL_16] at this; exact this
        rw [qL_16, List.getElem?_set_ne (by decide), qL_15, List.getElem?_set_ne (by decide), qL_14, List.getElem?_set_ne (by decide), qL_13, List.getElem?_set_ne (by decide), qL_12, List.getElem?_set_ne (by decide), qL_11, List.getElem?_set_ne (by decide), qL_10, List.getElem?_set_ne (by decide), qL_9, List.getElem?_set_ne (by decide), qL_8, List.getElem?_set_ne (by decide), qL_7, List.getElem?_set_self (by rw [hL_6]; exact q')]
      have hg7 : (7 : Int32) < n → L_16[7]? = some (.int (own_b j0)) := fun q => by
        have q' : 7 < N := by rw [← hnn] at q; have := (own_ltlen (p := 7) (by decide) (by rw [hL_16]; exact hNb)).mp q; rw [hL_16] at this; exact this
        rw [qL_16, List.getElem?_set_ne (by decide), qL_15, List.getElem?_set_ne (by decide), qL_14, List.getElem?_set_ne (by decide), qL_13, List.getElem?_set_ne (by decide), qL_12, List.getElem?_set_ne (by decide), qL_11, List.getElem?_set_ne (by decide), qL_10, List.getElem?_set_ne (by decide), qL_9, List.getElem?_set_ne (by decide), qL_8, List.getElem?_set_self (by rw [hL_7]; exact q')]
      obtain ⟨v121, _, ⟨T121, L121, k121, n121⟩, -, X121, ⟨Lc121, hQ121, l121, y121, z121⟩, st121⟩ := Jvm.LawKit.callS X117 hx (y := (⟨"com/example/wykaz/wykaz/registry/KeyOrder", "lead", "([B)J"⟩ : MethodName)) hown (mvT hZ (hw _ (List.mem_of_getElem? (i := 5) rfl))) (mvT hZ (hw _ (List.mem_of_getElem? (i := 6) rfl))) (mvT hZ (hw _ (List.mem_of_getElem? (i := 7) rfl))) (mvT hZ (hw _ (List.mem_of_getElem? (i := 8) rfl))) (by decide) (backOf (W := 0) (own_rm2 l Z a0 hw [] b101 L_16 n (own_b (own_sh j0 56)) (own_b (own_sh j0 48)) (own_b (own_sh j0 40)) (own_b (own_sh j0 32)) (own_b (own_sh j0 24)) (own_b (own_sh j0 16)) (own_b (own_sh j0 8)) (own_b j0) T117.heap n0 (Nat.le_trans Z0 Kc117.1) V117' hnn hg0 hg1 hg2 hg3 hg4 hg5 hg6 hg7) hZ (hw _ (List.mem_of_getElem? (i := 8) rfl)) (hw _ (List.mem_of_getElem? (i := 7) rfl)) (by decide) (by decide)) (g := (mkF m 219 #[.val (.long j0), .second, .val (.long j1), .second, .val (.int i2), .val (.int n), .val (.ref b101), .val (.long (j0 &&& ((-1 : Int64) <<< (((64 : Int32) - ((8 : Int32) * n)) &&& 0x3f).toInt64))), .second] [(.ref b101)])) rfl (by rw [hml]; rfl) (argsL := [(.ref b101)]) (rest := []) (lenOf own_pd1 rfl) rfl (by show 2 * 0 + _ ≤ _; exact Nat.le_of_eq rfl) (hb hby at_219) (fun _ _ => ⟨rfl, rfl, (by decide : 1 + 0 ≤ _), (by decide : 15 + 0 ≤ _)⟩)
      dsimp only [Pt.U, Pt.locs, Pt.cells, Pt.slots] at X121 l121 y121 z121 st121 hQ121
      subst l121 y121 z121
      obtain ⟨rfl, N121q, e121⟩ := hQ121
      have N121 := Fr.app N117 N121q
      refine own_via (g' := T121.setTop (mkF m 222 #[.val (.long j0), .second, .val (.long j1), .second, .val (.int i2), .val (.int n), .val (.ref b101), .val (.long (j0 &&& ((-1 : Int64) <<< (((64 : Int32) - ((8 : Int32) * n)) &&& 0x3f).toInt64))), .second] [(.long (own_lead n (own_b (own_sh j0 56)) (own_b (own_sh j0 48)) (own_b (own_sh j0 40)) (own_b (own_sh j0 32)) (own_b (own_sh j0 24)) (own_b (own_sh j0 16)) (own_b (own_sh j0 8)) (own_b j0)))])) (fun t k => st121 _ k) ?_
      refine own_via (g' := T121.setTop (mkF m 224 #[.val (.long j0), .second, .val (.long j1), .second, .val (.int i2), .val (.int n), .val (.ref b101), .val (.long (j0 &&& ((-1 : Int64) <<< (((64 : Int32) - ((8 : Int32) * n)) &&& 0x3f).toInt64))), .second] [(.long (j0 &&& ((-1 : Int64) <<< (((64 : Int32) - ((8 : Int32) * n)) &&& 0x3f).toInt64))), (.long (own_lead n (own_b (own_sh j0 56)) (own_b (own_sh j0 48)) (own_b (own_sh j0 40)) (own_b (own_sh j0 32)) (own_b (own_sh j0 24)) (own_b (own_sh j0 16)) (own_b (own_sh j0 8)) (own_b j0)))])) (fun t k => XT.lload X121.here hx rfl (hb hby at_222) rfl k) ?_
      refine own_via (g' := T121.setTop (mkF m 225 #[.val (.long j0), .second, .val (.long j1), .second, .val (.int i2), .val (.int n), .val (.ref b101), .val (.long (j0 &&& ((-1 : Int64) <<< (((64 : Int32) - ((8 : Int32) * n)) &&& 0x3f).toInt64))), .second] [(.int (XT.cmpL (own_lead n (own_b (own_sh j0 56)) (own_b (own_sh j0 48)) (own_b (own_sh j0 40)) (own_b (own_sh j0 32)) (own_b (own_sh j0 24)) (own_b (own_sh j0 16)) (own_b (own_sh j0 8)) (own_b j0)) (j0 &&& ((-1 : Int64) <<< (((64 : Int32) - ((8 : Int32) * n)) &&& 0x3f).toInt64))))])) (fun t k => XT.lcmp X121.here hx rfl (hb hby at_224) rfl k) ?_
      refine own_via (g' := T121.setTop (mkF m 228 #[.val (.long j0), .second, .val (.long j1), .second, .val (.int i2), .val (.int n), .val (.ref b101), .val (.long (j0 &&& ((-1 : Int64) <<< (((64 : Int32) - ((8 : Int32) * n)) &&& 0x3f).toInt64))), .second] [])) (fun t k => XS.ifNo X121.here hx rfl (hb hby at_225) rfl (XT.ll_ne_f (by rw [own_law j0 n hn0.1 hn0.2, own_want, if_pos hc181_118, if_neg hc192_119])) k) ?_
      refine own_via (g' := T121.setTop (mkF m 229 #[.val (.long j0), .second, .val (.long j1), .second, .val (.int i2), .val (.int n), .val (.ref b101), .val (.long (j0 &&& ((-1 : Int64) <<< (((64 : Int32) - ((8 : Int32) * n)) &&& 0x3f).toInt64))), .second] [(.int (1 : Int32))])) (fun t k => XS.iconst X121.here hx rfl (hb hby at_228) k) ?_
      refine own_via (g' := T121.setTop (mkF m 233 #[.val (.long j0), .second, .val (.long j1), .second, .val (.int i2), .val (.int n), .val (.ref b101), .val (.long (j0 &&& ((-1 : Int64) <<< (((64 : Int32) - ((8 : Int32) * n)) &&& 0x3f).toInt64))), .second] [(.int (1 : Int32))])) (fun t k => XS.goto X121.here hx rfl (pc0 := 229) (pc' := 233) rfl (hb hby at_229) (by decide) (by decide) k) ?_
      exact own_retB X121 hx hlk (t := .boolean) Bd.returns (by simp) (hb hby at_233) ⟨rfl, N121⟩ (by decide) (by decide)
  · refine own_via (g' := T117.setTop (mkF m 184 #[.val (.long j0), .second, .val (.long j1), .second, .val (.int i2), .val (.int n), .val (.ref b101), .unset, .unset] [])) (fun t k => XS.icmpNo X117.here hx rfl (hb hby at_181) rfl (XT.ii_lt_f hc181_118) k) ?_
    refine own_via (g' := T117.setTop (mkF m 185 #[.val (.long j0), .second, .val (.long j1), .second, .val (.int i2), .val (.int n), .val (.ref b101), .unset, .unset] [(.long j0)])) (fun t k => XT.lloadN X117.here hx rfl (hb hby at_184) rfl k) ?_
    refine own_via (g' := T117.setTop (mkF m 187 #[.val (.long j0), .second, .val (.long j1), .second, .val (.int i2), .val (.int n), .val (.ref b101), .val (.long j0), .second] [])) (fun t k => XT.lstore X117.here hx rfl (hb hby at_185) rfl (l' := #[.val (.long j0), .second, .val (.long j1), .second, .val (.int i2), .val (.int n), .val (.ref b101), .val (.long j0), .second]) rfl k) ?_
    refine own_via (g' := T117.setTop (mkF m 217 #[.val (.long j0), .second, .val (.long j1), .second, .val (.int i2), .val (.int n), .val (.ref b101), .val (.long j0), .second] [])) (fun t k => XS.goto X117.here hx rfl (pc0 := 187) (pc' := 217) rfl (hb hby at_187) (by decide) (by decide) k) ?_
    refine own_via (g' := T117.setTop (mkF m 219 #[.val (.long j0), .second, .val (.long j1), .second, .val (.int i2), .val (.int n), .val (.ref b101), .val (.long j0), .second] [(.ref b101)])) (fun t k => XS.aload X117.here hx rfl (hb hby at_217) rfl (rfl) k) ?_
    have hnn : L_16.length.toInt32 = n := by rw [hL_16, hN]; exact (back32 hnz).1
    have hg0 : (0 : Int32) < n → L_16[0]? = some (.int (own_b (own_sh j0 56))) := fun q => by
      have q' : 0 < N := by rw [← hnn] at q; have := (own_ltlen (p := 0) (by decide) (by rw [hL_16]; exact hNb)).mp q; rw [hL_16] at this; exact this
      rw [qL_16, List.getElem?_set_ne (by decide), qL_15, List.getElem?_set_ne (by decide), qL_14, List.getElem?_set_ne (by decide), qL_13, List.getElem?_set_ne (by decide), qL_12, List.getElem?_set_ne (by decide), qL_11, List.getElem?_set_ne (by decide), qL_10, List.getElem?_set_ne (by decide), qL_9, List.getElem?_set_ne (by decide), qL_8, List.getElem?_set_ne (by decide), qL_7, List.getElem?_set_ne (by decide), qL_6, List.getElem?_set_ne (by decide), qL_5, List.getElem?_set_ne (by decide), qL_4, List.getElem?_set_ne (by decide), qL_3, List.getElem?_set_ne (by decide), qL_2, List.getElem?_set_ne (by decide), qL_1, List.getElem?_set_self (by rw [hL_0]; exact q')]
    have hg1 : (1 : Int32) < n → L_16[1]? = some (.int (own_b (own_sh j0 48))) := fun q => by
      have q' : 1 < N := by rw [← hnn] at q; have := (own_ltlen (p := 1) (by decide) (by rw [hL_16]; exact hNb)).mp q; rw [hL_16] at this; exact this
      rw [qL_16, List.getElem?_set_ne (by decide), qL_15, List.getElem?_set_ne (by decide), qL_14, List.getElem?_set_ne (by decide), qL_13, List.getElem?_set_ne (by decide), qL_12, List.getElem?_set_ne (by decide), qL_11, List.getElem?_set_ne (by decide), qL_10, List.getElem?_set_ne (by decide), qL_9, List.getElem?_set_ne (by decide), qL_8, List.getElem?_set_ne (by decide), qL_7, List.getElem?_set_ne (by decide), qL_6, List.getElem?_set_ne (by decide), qL_5, List.getElem?_set_ne (by decide), qL_4, List.getElem?_set_ne (by decide), qL_3, List.getElem?_set_ne (by decide), qL_2, List.getElem?_set_self (by rw [hL_1]; exact q')]
    have hg2 : (2 : Int32) < n → L_16[2]? = some (.int (own_b (own_sh j0 40))) := fun q => by
      have q' : 2 < N := by rw [← hnn] at q; have := (own_ltlen (p := 2) (by decide) (by rw [hL_16]; exact hNb)).mp q; rw [hL_16] at this; exact this
      rw [qL_16, List.getElem?_set_ne (by decide), qL_15, List.getElem?_set_ne (by decide), qL_14, List.getElem?_set_ne (by decide), qL_13, List.getElem?_set_ne (by decide), qL_12, List.getElem?_set_ne (by decide), qL_11, List.getElem?_set_ne (by decide), qL_10, List.getElem?_set_ne (by decide), qL_9, List.getElem?_set_ne (by decide), qL_8, List.getElem?_set_ne (by decide), qL_7, List.getElem?_set_ne (by decide), qL_6, List.getElem?_set_ne (by decide), qL_5, List.getElem?_set_ne (by decide), qL_4, List.getElem?_set_ne (by decide), qL_3, List.getElem?_set_self (by rw [hL_2]; exact q')]
    have hg3 : (3 : Int32) < n → L_16[3]? = some (.int (own_b (own_sh j0 32))) := fun q => by
      have q' : 3 < N := by rw [← hnn] at q; have := (own_ltlen (p := 3) (by decide) (by rw [hL_16]; exact hNb)).mp q; rw [hL_16] at this; exact this
      rw [qL_16, List.getElem?_set_ne (by decide), qL_15, List.getElem?_set_ne (by decide), qL_14, List.getElem?_set_ne (by decide), qL_13, List.getElem?_set_ne (by decide), qL_12, List.getElem?_set_ne (by decide), qL_11, List.getElem?_set_ne (by decide), qL_10, List.getElem?_set_ne (by decide), qL_9, List.getElem?_set_ne (by decide), qL_8, List.getElem?_set_ne (by decide), qL_7, List.getElem?_set_ne (by decide), qL_6, List.getElem?_set_ne (by decide), qL_5, List.getElem?_set_ne (by decide), qL_4, List.getElem?_set_self (by rw [hL_3]; exact q')]
    have hg4 : (4 : Int32) < n → L_16[4]? = some (.int (own_b (own_sh j0 24))) := fun q => by
      have q' : 4 < N := by rw [← hnn] at q; have := (own_ltlen (p := 4) (by decide) (by rw [hL_16]; exact hNb)).mp q; rw [hL_16] at this; exact this
      rw [qL_16, List.getElem?_set_ne (by decide), qL_15, List.getElem?_set_ne (by decide), qL_14, List.getElem?_set_ne (by decide), qL_13, List.getElem?_set_ne (by decide), qL_12, List.getElem?_set_ne (by decide), qL_11, List.getElem?_set_ne (by decide), qL_10, List.getElem?_set_ne (by decide), qL_9, List.getElem?_set_ne (by decide), qL_8, List.getElem?_set_ne (by decide), qL_7, List.getElem?_set_ne (by decide), qL_6, List.getElem?_set_ne (by decide), qL_5, List.getElem?_set_self (by rw [hL_4]; exact q')]
    have hg5 : (5 : Int32) < n → L_16[5]? = some (.int (own_b (own_sh j0 16))) := fun q => by
      have q' : 5 < N := by rw [← hnn] at q; have := (own_ltlen (p := 5) (by decide) (by rw [hL_16]; exact hNb)).mp q; rw [hL_16] at this; exact this
      rw [qL_16, List.getElem?_set_ne (by decide), qL_15, List.getElem?_set_ne (by decide), qL_14, List.getElem?_set_ne (by decide), qL_13, List.getElem?_set_ne (by decide), qL_12, List.getElem?_set_ne (by decide), qL_11, List.getElem?_set_ne (by decide), qL_10, List.getElem?_set_ne (by decide), qL_9, List.getElem?_set_ne (by decide), qL_8, List.getElem?_set_ne (by decide), qL_7, List.getElem?_set_ne (by decide), qL_6, List.getElem?_set_self (by rw [hL_5]; exact q')]
    have hg6 : (6 : Int32) < n → L_16[6]? = some (.int (own_b (own_sh j0 8))) := fun q => by
      have q' : 6 < N := by rw [← hnn] at q; have := (own_ltlen (p := 6) (by decide) (by rw [hL_16]; exact hNb)).mp q; rw [hL_16] at this; exact this
      rw [qL_16, List.getElem?_set_ne (by decide), qL_15, List.getElem?_set_ne (by decide), qL_14, List.getElem?_set_ne (by decide), qL_13, List.getElem?_set_ne (by decide), qL_12, List.getElem?_set_ne (by decide), qL_11, List.getElem?_set_ne (by decide), qL_10, List.getElem?_set_ne (by decide), qL_9, List.getElem?_set_ne (by decide), qL_8, List.getElem?_set_ne (by decide), qL_7, List.getElem?_set_self (by rw [hL_6]; exact q')]
    have hg7 : (7 : Int32) < n → L_16[7]? = some (.int (own_b j0)) := fun q => by
      have q' : 7 < N := by rw [← hnn] at q; have := (own_ltlen (p := 7) (by decide) (by rw [hL_16]; exact hNb)).mp q; rw [hL_16] at this; exact this
      rw [qL_16, List.getElem?_set_ne (by decide), qL_15, List.getElem?_set_ne (by decide), qL_14, List.getElem?_set_ne (by decide), qL_13, List.getElem?_set_ne (by decide), qL_12, List.getElem?_set_ne (by decide), qL_11, List.getElem?_set_ne (by decide), qL_10, List.getElem?_set_ne (by decide), qL_9, List.getElem?_set_ne (by decide), qL_8, List.getElem?_set_self (by rw [hL_7]; exact q')]
    obtain ⟨v122, _, ⟨T122, L122, k122, n122⟩, -, X122, ⟨Lc122, hQ122, l122, y122, z122⟩, st122⟩ := Jvm.LawKit.callS X117 hx (y := (⟨"com/example/wykaz/wykaz/registry/KeyOrder", "lead", "([B)J"⟩ : MethodName)) hown (mvT hZ (hw _ (List.mem_of_getElem? (i := 5) rfl))) (mvT hZ (hw _ (List.mem_of_getElem? (i := 6) rfl))) (mvT hZ (hw _ (List.mem_of_getElem? (i := 7) rfl))) (mvT hZ (hw _ (List.mem_of_getElem? (i := 8) rfl))) (by decide) (backOf (W := 0) (own_rm2 l Z a0 hw [] b101 L_16 n (own_b (own_sh j0 56)) (own_b (own_sh j0 48)) (own_b (own_sh j0 40)) (own_b (own_sh j0 32)) (own_b (own_sh j0 24)) (own_b (own_sh j0 16)) (own_b (own_sh j0 8)) (own_b j0) T117.heap n0 (Nat.le_trans Z0 Kc117.1) V117' hnn hg0 hg1 hg2 hg3 hg4 hg5 hg6 hg7) hZ (hw _ (List.mem_of_getElem? (i := 8) rfl)) (hw _ (List.mem_of_getElem? (i := 7) rfl)) (by decide) (by decide)) (g := (mkF m 219 #[.val (.long j0), .second, .val (.long j1), .second, .val (.int i2), .val (.int n), .val (.ref b101), .val (.long j0), .second] [(.ref b101)])) rfl (by rw [hml]; rfl) (argsL := [(.ref b101)]) (rest := []) (lenOf own_pd1 rfl) rfl (by show 2 * 0 + _ ≤ _; exact Nat.le_of_eq rfl) (hb hby at_219) (fun _ _ => ⟨rfl, rfl, (by decide : 1 + 0 ≤ _), (by decide : 15 + 0 ≤ _)⟩)
    dsimp only [Pt.U, Pt.locs, Pt.cells, Pt.slots] at X122 l122 y122 z122 st122 hQ122
    subst l122 y122 z122
    obtain ⟨rfl, N122q, e122⟩ := hQ122
    have N122 := Fr.app N117 N122q
    refine own_via (g' := T122.setTop (mkF m 222 #[.val (.long j0), .second, .val (.long j1), .second, .val (.int i2), .val (.int n), .val (.ref b101), .val (.long j0), .second] [(.long (own_lead n (own_b (own_sh j0 56)) (own_b (own_sh j0 48)) (own_b (own_sh j0 40)) (own_b (own_sh j0 32)) (own_b (own_sh j0 24)) (own_b (own_sh j0 16)) (own_b (own_sh j0 8)) (own_b j0)))])) (fun t k => st122 _ k) ?_
    refine own_via (g' := T122.setTop (mkF m 224 #[.val (.long j0), .second, .val (.long j1), .second, .val (.int i2), .val (.int n), .val (.ref b101), .val (.long j0), .second] [(.long j0), (.long (own_lead n (own_b (own_sh j0 56)) (own_b (own_sh j0 48)) (own_b (own_sh j0 40)) (own_b (own_sh j0 32)) (own_b (own_sh j0 24)) (own_b (own_sh j0 16)) (own_b (own_sh j0 8)) (own_b j0)))])) (fun t k => XT.lload X122.here hx rfl (hb hby at_222) rfl k) ?_
    refine own_via (g' := T122.setTop (mkF m 225 #[.val (.long j0), .second, .val (.long j1), .second, .val (.int i2), .val (.int n), .val (.ref b101), .val (.long j0), .second] [(.int (XT.cmpL (own_lead n (own_b (own_sh j0 56)) (own_b (own_sh j0 48)) (own_b (own_sh j0 40)) (own_b (own_sh j0 32)) (own_b (own_sh j0 24)) (own_b (own_sh j0 16)) (own_b (own_sh j0 8)) (own_b j0)) j0))])) (fun t k => XT.lcmp X122.here hx rfl (hb hby at_224) rfl k) ?_
    refine own_via (g' := T122.setTop (mkF m 228 #[.val (.long j0), .second, .val (.long j1), .second, .val (.int i2), .val (.int n), .val (.ref b101), .val (.long j0), .second] [])) (fun t k => XS.ifNo X122.here hx rfl (hb hby at_225) rfl (XT.ll_ne_f (by rw [own_law j0 n hn0.1 hn0.2, own_want, if_neg hc181_118])) k) ?_
    refine own_via (g' := T122.setTop (mkF m 229 #[.val (.long j0), .second, .val (.long j1), .second, .val (.int i2), .val (.int n), .val (.ref b101), .val (.long j0), .second] [(.int (1 : Int32))])) (fun t k => XS.iconst X122.here hx rfl (hb hby at_228) k) ?_
    refine own_via (g' := T122.setTop (mkF m 233 #[.val (.long j0), .second, .val (.long j1), .second, .val (.int i2), .val (.int n), .val (.ref b101), .val (.long j0), .second] [(.int (1 : Int32))])) (fun t k => XS.goto X122.here hx rfl (pc0 := 229) (pc' := 233) rfl (hb hby at_229) (by decide) (by decide) k) ?_
    exact own_retB X122 hx hlk (t := .boolean) Bd.returns (by simp) (hb hby at_233) ⟨rfl, N122⟩ (by decide) (by decide)
set_option maxRecDepth 65536 in
set_option maxHeartbeats 40000000 in
theorem comes_1 {Post : Tables → Env → Array Value → State → Outcome → State → Prop} (hpost : ∀ tb e args s v u, (limb_1_1.after args s (.returned v) u = true ∧ limb_1_2.after args s (.returned v) u = true ∧ True) → FrameEnd s (.returned v) u (Jvm.fieldLocs frame_1_writes args s ++ Jvm.arrayLocs frame_1_arrays args s ++ Jvm.staticLocs frame_1_statics s) 16 128 → Post tb e args s (.returned v) u) :
    ArmFor flags0 classFile x code maxLocals ret World_1 tables_1 room_1 Calls_1 rest_1 Pre_1 Post := by
  intro l hfl _ _ p e ha hc hk s m args below hf hA hF happ hP
  obtain ⟨hcalls, hrest, hpre⟩ := hP
  obtain ⟨-, -, -, hnamed, -, -, -, hat⟩ := (Spec.applies_iff hf).mp happ
  obtain ⟨hg, hn⟩ := and_e (Cond.before_iff.mp (show (Jvm.Cond.and given_1 narrow_1).before args s = true from hpre))
  obtain ⟨g1, g2⟩ := and_e hg
  obtain ⟨g3, g4⟩ := and_e g2
  obtain ⟨g5, g6⟩ := and_e g4
  obtain ⟨w0, w1, w2, rfl⟩ : ∃ w0 w1 w2 : Value, args = #[w0, w1, w2] := by
    have hs : args.size = 3 := by simpa [Cond.value, given_1] using g1
    obtain ⟨L⟩ := args
    match L, hs with
    | [w0, w1, w2], _ => exact ⟨w0, w1, w2, rfl⟩
  have hw := fun d (hd : d ∈ tables_1) => atoms_spec (ws := Jvm.Cond.code x code maxLocals ret :: tables_1) hat d (List.mem_cons_of_mem _ hd)
  have hfit : Fit s := fun {y c} hc i hi => by
    obtain ⟨ha, rfl⟩ := Array.getElem?_eq_some_iff.mp hc
    have q := List.all_eq_true.mp ((Array.all_eq_true_iff_forall_mem.mp hF) _ (Array.getElem_mem ha)) i (List.mem_range.mpr hi)
    simpa [Array.getElem?_eq_getElem hi] using q
  obtain ⟨i0, ei0⟩ := isL_v g3
  obtain rfl : w0 = (.long i0) := Option.some.inj ei0
  obtain ⟨i1, ei1⟩ := isL_v g5
  obtain rfl : w1 = (.long i1) := Option.some.inj ei1
  obtain ⟨i2, ei2⟩ := is_v g6
  obtain rfl : w2 = (.int i2) := Option.some.inj ei2
  obtain ⟨n, o, h1, h2, h3, _, L, rfl, ⟨rfl, N⟩, hq⟩ := own_rm0 l s _ hw tables_1 i0 i1 i2 s.heap s.heap.size (Nat.le_refl _)  p e ha hc hk s m _ below hf ((Spec.applies_iff_loose hf).mp happ).1 ⟨rfl, State.Warmed39.refl s, rfl⟩ trivial
  refine ⟨n, _, h1, h2, h3, hpost _ _ _ _ _ _ ⟨Cond.after_iff.mpr rfl, Cond.after_iff.mpr (eq_i res_at (Term.int_eval (1)) rfl), trivial⟩ ⟨hq.1, hq.2.1, (hq.2.2.sift fun y hy => Or.inr (N y hy)).mono (by decide) (by decide)⟩⟩
theorem main_1_1 : Claimed_1_1 := comes_1 fun _ _ _ _ _ _ h hF => ⟨h.1, hF⟩
theorem main_1_2 : Claimed_1_2 := comes_1 fun _ _ _ _ _ _ h hF => ⟨h.2.1, hF⟩
end Jvm.Pilot.@@N@@
namespace Jvm.Pilot.@@N@@
open Jvm Jvm.ClassFile Sem Op Lib Jvm.Free Jvm.Stand Jvm.Pilot.@@N@@.Jvm.D
/-! MADE BY PROGRAM (witnessworld.py) out of the Statement's table words and the real class files: 11 classes; the members and pool entries that the words name. The judged class is class 1, her method 2. -/
namespace start1
open Jvm.ClassFile
def u (s : String) : CpInfo := .utf8 (stringToUtf16 s)
/-- a pool by its gaps: so many unusable entries, then the entry; so many at the end -/
def gap : Nat → List CpInfo → List CpInfo
  | 0, r => r
  | n + 1, r => .unusable :: gap n r
def poolList (es : List (Nat × CpInfo)) (last : Nat) : List CpInfo := es.foldr (fun e r => gap e.1 (e.2 :: r)) (gap last [])
def pool (es : List (Nat × CpInfo)) (last : Nat) : Array CpInfo := ⟨poolList es last⟩
def fileOf (pool : Array CpInfo) (this : Nat) (attrs : Array Attribute := #[]) (ms : Array MethodInfo := #[]) (fl : Nat := 33) (sup : Nat := 0) (ifs : Array Nat := #[]) (fds : Array FieldInfo := #[]) : ClassFile where
  minorVersion := 0
  majorVersion := 65
  constantPool := pool
  accessFlags := fl
  thisClass := this
  superClass := sup
  interfaces := ifs
  fields := fds
  methods := ms
  attributes := attrs
def plain (name : String) (sup : Option ClassId) : Class where
  name := name
  kind := .ordinary
  loader := none
  accessFlags := 33
  super := sup
  interfaces := #[]
  cf := none
  fields := #[]
  methods := #[]
  instanceTypes := #[]
  staticTypes := #[]
  resolved := #[]
  callSites := []
  init := .initialized
  statics := none
  mirror := none

def pool0 : Array CpInfo := pool [(5, u "<init>"), (0, u "()V"), (1, .class_ 10), (1, u "java/lang/Object")] 113

def k0m0 : Method := { name := "<init>", desc := "()V", sig := { parameters := [], returnType := none }, accessFlags := 1, code := none }
/-- java/lang/Object -/
def k0 : Class := { plain "java/lang/Object" none with
  accessFlags := 33
  interfaces := #[]
  cf := some (fileOf pool0 8 #[] #[{ accessFlags := 1, nameIndex := 5, descriptorIndex := 6, attributes := #[] }] 33 0 #[] #[])
  fields := #[]
  methods := #[k0m0]
  instanceTypes := #[]
  staticTypes := #[]
  resolved := Array.replicate 124 none
  statics := none }

def pool1 : Array CpInfo := pool [(2, .class_ 4), (1, u "java/lang/Object"), (0, u "<init>"), (0, u "()V"), (0, .methodref 8 9), (0, .class_ 10), (0, .nameAndType 11 12), (0, u "com/example/wykaz/wykaz/registry/KeyOrderLeadPinLaw"), (0, u "put"), (0, u "([BIJ)V"), (0, .long 18446744073709551615), (1, .methodref 16 17), (0, .class_ 18), (0, .nameAndType 19 20), (0, u "com/example/wykaz/wykaz/registry/KeyOrder"), (0, u "lead"), (0, u "([B)J"), (3, u "law"), (0, u "(JJI)Z")] 4

def k1m0 : Method := { name := "<init>", desc := "()V", sig := { parameters := [], returnType := none }, accessFlags := 2, code := none }
def k1c1 : Code := { maxStack := 4, maxLocals := 4, code := method_2_code, exceptionTable := #[], attributes := #[] }
def k1m1 : Method := { name := "put", desc := "([BIJ)V", sig := { parameters := [(.array .byte), .int, .long], returnType := none }, accessFlags := 10, code := some k1c1 }
def k1c2 : Code := { maxStack := 7, maxLocals := 9, code := code, exceptionTable := #[], attributes := #[] }
def k1m2 : Method := { name := "law", desc := "(JJI)Z", sig := { parameters := [.long, .long, .int], returnType := some .boolean }, accessFlags := 9, code := some k1c2 }
/-- com/example/wykaz/wykaz/registry/KeyOrderLeadPinLaw -/
def k1 : Class := { plain "com/example/wykaz/wykaz/registry/KeyOrderLeadPinLaw" (some 0) with
  accessFlags := 49
  interfaces := #[]
  cf := some (fileOf pool1 8 #[] #[{ accessFlags := 2, nameIndex := 5, descriptorIndex := 6, attributes := #[] }, { accessFlags := 10, nameIndex := 11, descriptorIndex := 12, attributes := #[] }, { accessFlags := 9, nameIndex := 24, descriptorIndex := 25, attributes := #[] }] 49 2 #[] #[])
  fields := #[]
  methods := #[k1m0, k1m1, k1m2]
  instanceTypes := #[]
  staticTypes := #[]
  resolved := Array.replicate 30 none
  statics := none }

def pool2 : Array CpInfo := pool [(1, .class_ 2), (0, u "java/lang/AutoCloseable"), (0, .class_ 4), (0, u "java/lang/Object")] 7

/-- java/lang/AutoCloseable -/
def k2 : Class := { plain "java/lang/AutoCloseable" (some 0) with
  accessFlags := 1537
  interfaces := #[]
  cf := some (fileOf pool2 1 #[] #[] 1537 3 #[] #[])
  fields := #[]
  methods := #[]
  instanceTypes := #[]
  staticTypes := #[]
  resolved := Array.replicate 12 none
  statics := none }

def pool3 : Array CpInfo := pool [(1, .class_ 2), (0, u "java/io/Closeable"), (0, .class_ 4), (0, u "java/lang/Object"), (0, .class_ 6), (0, u "java/lang/AutoCloseable")] 7

/-- java/io/Closeable -/
def k3 : Class := { plain "java/io/Closeable" (some 0) with
  accessFlags := 1537
  interfaces := #[2]
  cf := some (fileOf pool3 1 #[] #[] 1537 3 #[5] #[])
  fields := #[]
  methods := #[]
  instanceTypes := #[]
  staticTypes := #[]
  resolved := Array.replicate 14 none
  statics := none }

def pool4 : Array CpInfo := pool [(2, .class_ 4), (1, u "java/lang/Object"), (6, .class_ 13), (1, u "com/example/wykaz/wykaz/registry/KeyOrder"), (0, u "added"), (0, u "Ljava/util/List;"), (2, u "steps"), (2, u "directory"), (0, u "Ljava/nio/file/Path;"), (2, u "mostHeld"), (0, u "J"), (2, u "fanIn"), (0, u "I"), (2, u "order"), (0, u "Ljava/util/Comparator;"), (2, u "form"), (0, u "Lcom/example/wykaz/wykaz/registry/KeyOrder$Form;"), (2, u "kept"), (0, u "Ljava/lang/String;"), (2, u "read"), (0, u "Z"), (15, u "held"), (1, .class_ 66), (1, u "com/example/wykaz/wykaz/registry/KeyOrder$Form"), (41, .class_ 109), (0, u "com/example/wykaz/wykaz/registry/KeyOrder$Run"), (7, .class_ 118), (0, u "com/example/wykaz/wykaz/registry/KeyOrder$Head"), (0, .class_ 120), (0, u "com/example/wykaz/wykaz/registry/KeyOrder$InMemory"), (3, .class_ 125), (0, u "com/example/wykaz/wykaz/registry/KeyOrder$Merge"), (37, .class_ 164), (0, u "com/example/wykaz/wykaz/registry/KeyOrder$1"), (17, .class_ 184), (1, u "com/example/wykaz/wykaz/registry/KeyOrder$Work"), (27, .class_ 213), (0, u "com/example/wykaz/wykaz/registry/KeyOrder$FromFile"), (6, .class_ 221), (0, u "java/io/Closeable"), (0, u "READ_BUFFER"), (16, .class_ 240), (0, u "com/example/wykaz/wykaz/registry/KeyOrder$Items"), (1, u "lead"), (0, u "([B)J"), (19, .class_ 264), (0, u "com/example/wykaz/wykaz/registry/KeyOrder$Whole")] 61

def k4c0 : Code := { maxStack := 4, maxLocals := 4, code := prog_17_method_4_code, exceptionTable := #[], attributes := #[] }
def k4m0 : Method := { name := "lead", desc := "([B)J", sig := { parameters := [(.array .byte)], returnType := some .long }, accessFlags := 8, code := some k4c0 }
/-- com/example/wykaz/wykaz/registry/KeyOrder -/
def k4 : Class := { plain "com/example/wykaz/wykaz/registry/KeyOrder" (some 0) with
  accessFlags := 32
  interfaces := #[3]
  cf := some (fileOf pool4 11 #[.nestMembers #[124, 212, 119, 117, 108, 182, 239, 263, 64, 163]] #[{ accessFlags := 8, nameIndex := 242, descriptorIndex := 243, attributes := #[] }] 32 2 #[220] #[{ accessFlags := 26, nameIndex := 222, descriptorIndex := 30, attributes := #[] }, { accessFlags := 18, nameIndex := 21, descriptorIndex := 22, attributes := #[] }, { accessFlags := 18, nameIndex := 25, descriptorIndex := 26, attributes := #[] }, { accessFlags := 18, nameIndex := 29, descriptorIndex := 30, attributes := #[] }, { accessFlags := 18, nameIndex := 33, descriptorIndex := 34, attributes := #[] }, { accessFlags := 18, nameIndex := 37, descriptorIndex := 38, attributes := #[] }, { accessFlags := 18, nameIndex := 41, descriptorIndex := 42, attributes := #[] }, { accessFlags := 18, nameIndex := 14, descriptorIndex := 15, attributes := #[] }, { accessFlags := 2, nameIndex := 62, descriptorIndex := 26, attributes := #[] }, { accessFlags := 18, nameIndex := 18, descriptorIndex := 15, attributes := #[] }, { accessFlags := 2, nameIndex := 45, descriptorIndex := 46, attributes := #[] }])
  fields := #[{ name := "READ_BUFFER", type := .int, accessFlags := 26, slot := 0, constantValue := 0 }, { name := "directory", type := (.object "java/nio/file/Path"), accessFlags := 18, slot := 0, constantValue := 0 }, { name := "mostHeld", type := .long, accessFlags := 18, slot := 1, constantValue := 0 }, { name := "fanIn", type := .int, accessFlags := 18, slot := 2, constantValue := 0 }, { name := "order", type := (.object "java/util/Comparator"), accessFlags := 18, slot := 3, constantValue := 0 }, { name := "form", type := (.object "com/example/wykaz/wykaz/registry/KeyOrder$Form"), accessFlags := 18, slot := 4, constantValue := 0 }, { name := "kept", type := (.object "java/lang/String"), accessFlags := 18, slot := 5, constantValue := 0 }, { name := "added", type := (.object "java/util/List"), accessFlags := 18, slot := 6, constantValue := 0 }, { name := "held", type := .long, accessFlags := 2, slot := 7, constantValue := 0 }, { name := "steps", type := (.object "java/util/List"), accessFlags := 18, slot := 8, constantValue := 0 }, { name := "read", type := .boolean, accessFlags := 2, slot := 9, constantValue := 0 }]
  methods := #[k4m0]
  instanceTypes := #[(.object "java/nio/file/Path"), .long, .int, (.object "java/util/Comparator"), (.object "com/example/wykaz/wykaz/registry/KeyOrder$Form"), (.object "java/lang/String"), (.object "java/util/List"), .long, (.object "java/util/List"), .boolean]
  staticTypes := #[.int]
  resolved := Array.replicate 326 none
  statics := none }

def pool5 : Array CpInfo := pool [(1, u "java/lang/Cloneable"), (0, .class_ 1), (0, u "java/lang/Object"), (0, .class_ 3)] 3

/-- java/lang/Cloneable -/
def k5 : Class := { plain "java/lang/Cloneable" (some 0) with
  accessFlags := 1537
  interfaces := #[]
  cf := some (fileOf pool5 2 #[] #[] 1537 4 #[] #[])
  fields := #[]
  methods := #[]
  instanceTypes := #[]
  staticTypes := #[]
  resolved := Array.replicate 8 none
  statics := none }

def pool6 : Array CpInfo := pool [(1, u "java/io/Serializable"), (0, .class_ 1), (0, u "java/lang/Object"), (0, .class_ 3)] 3

/-- java/io/Serializable -/
def k6 : Class := { plain "java/io/Serializable" (some 0) with
  accessFlags := 1537
  interfaces := #[]
  cf := some (fileOf pool6 2 #[] #[] 1537 4 #[] #[])
  fields := #[]
  methods := #[]
  instanceTypes := #[]
  staticTypes := #[]
  resolved := Array.replicate 8 none
  statics := none }

/-- the primitive byte -/
def k7 : Class := { plain "byte" none with kind := .primitive 'B', accessFlags := 0x411 }
/-- [B -/
def k8 : Class := { plain "[B" (some 0) with kind := .array 7 .byte, interfaces := #[5, 6], accessFlags := 1041 }

/-- the primitive int -/
def k9 : Class := { plain "int" none with kind := .primitive 'I', accessFlags := 0x411 }
/-- [I -/
def k10 : Class := { plain "[I" (some 0) with kind := .array 9 .int, interfaces := #[5, 6], accessFlags := 1041 }

def heap : Heap := #[]
def classes : Array Class := #[k0, k1, k2, k3, k4, k5, k6, k7, k8, k9, k10]
def interned : List (Array UInt16 × Addr) := []
def slotsUsed : Nat := 0
def theMethod : MethodId := ⟨1, 2⟩
def args0 : Array Value := #[.long 3, .long 1, .int 0]
def aboutOver (below : List Frame) : State where
  vm := { classes := classes, interned := interned.toArray }
  heap := heap
  slotsUsed := slotsUsed
  threads := #[{ frames := .invoking theMethod args0 :: below }]
def below0 : List Frame := [.native { method := ⟨0, 0⟩, args := #[] }]
def about1 : State := aboutOver below0
def p0 : Program := .bare "" "" ""
def e0 : Env := launch0.env 0 0 0
theorem w_frames : about1.frames = Frame.invoking theMethod args0 :: below0 := rfl
set_option maxRecDepth 65536 in
theorem w_args : argsFit about1.vm theMethod args0 = true := by decide +kernel
set_option maxRecDepth 65536 in
theorem w_heap : heapFits about1 = true := by decide +kernel
set_option maxRecDepth 65536 in
theorem w_runnable : about1.curStatus? = some .runnable := by decide +kernel
set_option maxRecDepth 65536 in
theorem w_alone : about1.alone = true := by decide +kernel
set_option maxRecDepth 65536 in
theorem w_named : about1.methodNamed? x = some theMethod := by decide +kernel
set_option maxRecDepth 65536 in
theorem w_hears : about1.hears theMethod below0 = true := by decide +kernel
set_option maxRecDepth 65536 in
theorem w_ripe : about1.ripe theMethod args0 below0 = true := by decide +kernel
theorem w_running : about1.status = .running := rfl
set_option maxRecDepth 65536 in
theorem w_room : about1.hasRoom e0.platform room_1 = true :=
  launch0.hasRoom_least _ room_1 (by decide +kernel) (by decide +kernel) (by decide +kernel) (by decide +kernel) (by decide +kernel) (by decide +kernel)
theorem allAtoms_all (ts : List Jvm.Cond) (a : Array Jvm.Value) (st : Jvm.State) : (allAtoms ts).before a st = ts.all (fun c => c.before a st) := by
  induction ts with
  | nil => rfl
  | cons c t ih =>
    show (Jvm.Cond.and c (allAtoms t)).before a st = _
    rw [Jvm.Cond.before_and, ih, List.all_cons]
def words1 : List Jvm.Cond := Jvm.Cond.code x code maxLocals ret :: tables_1
/-- a 'code' word, met by the world's own term for the bytes: nothing is compared byte by byte -/
theorem code_word {y : MethodName} {bytes : ByteArray} {mx : Nat} {rt : Option FieldType} {a : Array Value} {s : State} {m : MethodId} {meth : Method} {c : Code} (h1 : s.methodNamed? y = some m) (h2 : s.vm.method? m = some meth) (h3 : meth.code = some c) (h4 : c.code = bytes)
    (h5 : (c.maxLocals == mx && c.exceptionTable.isEmpty && decide (c.maxStack ≤ mostOperands) && decide (meth.sig.returnType = rt) && !meth.locks && decide (parseMethodDescriptor y.desc = some meth.sig)) = true) : (Jvm.Cond.code y bytes mx rt).before a s = true := by
  simp only [Bool.and_eq_true, beq_iff_eq, Bool.not_eq_true', decide_eq_true_eq] at h5
  obtain ⟨⟨⟨⟨⟨g1, g2⟩, g3⟩, g4⟩, g5⟩, g6⟩ := h5
  simp [Cond.before, Cond.holds, Cond.value, h1, h2, h3, h4, g1, g2, g3, g4, g5, g6]
def isCode : Jvm.Cond → Bool
  | .code _ _ _ _ => true
  | _ => false
theorem all_split {L : List Jvm.Cond} {P : Jvm.Cond → Bool} (h1 : L.all (fun c => isCode c || P c) = true) (h2 : ∀ c ∈ L.filter isCode, P c = true) : L.all P = true := by
  refine List.all_eq_true.mpr fun c hc => ?_
  have h := List.all_eq_true.mp h1 c hc
  rcases Bool.eq_false_or_eq_true (isCode c) with hi | hi
  · exact h2 c (List.mem_filter.mpr ⟨hc, hi⟩)
  · simpa [hi] using h
set_option maxRecDepth 65536 in
theorem w_c0 : (Jvm.Cond.code x code maxLocals ret).before args0 about1 = true := code_word (m := ⟨1, 2⟩) (meth := k1m2) (c := k1c2) (by decide +kernel) rfl rfl rfl (by decide +kernel)
set_option maxRecDepth 65536 in
theorem w_c1 : (Jvm.Cond.code ({ cls := "com/example/wykaz/wykaz/registry/KeyOrderLeadPinLaw", name := "put", desc := "([BIJ)V" } : Jvm.MethodName) method_2_code (4 : Nat) (Option.none : Option Jvm.ClassFile.FieldType)).before args0 about1 = true := code_word (m := ⟨1, 1⟩) (meth := k1m1) (c := k1c1) (by decide +kernel) rfl rfl rfl (by decide +kernel)
set_option maxRecDepth 65536 in
theorem w_c2 : (Jvm.Cond.code ({ cls := "com/example/wykaz/wykaz/registry/KeyOrder", name := "lead", desc := "([B)J" } : Jvm.MethodName) prog_17_method_4_code (4 : Nat) (Option.some Jvm.ClassFile.FieldType.long)).before args0 about1 = true := code_word (m := ⟨4, 0⟩) (meth := k4m0) (c := k4c0) (by decide +kernel) rfl rfl rfl (by decide +kernel)
def codes1 : List Jvm.Cond := [Jvm.Cond.code x code maxLocals ret, Jvm.Cond.code ({ cls := "com/example/wykaz/wykaz/registry/KeyOrderLeadPinLaw", name := "put", desc := "([BIJ)V" } : Jvm.MethodName) method_2_code (4 : Nat) (Option.none : Option Jvm.ClassFile.FieldType), Jvm.Cond.code ({ cls := "com/example/wykaz/wykaz/registry/KeyOrder", name := "lead", desc := "([B)J" } : Jvm.MethodName) prog_17_method_4_code (4 : Nat) (Option.some Jvm.ClassFile.FieldType.long)]
set_option maxRecDepth 65536 in
theorem codes_eq : words1.filter isCode = codes1 := rfl
theorem w_codes : ∀ c ∈ words1.filter isCode, c.before args0 about1 = true := by
  rw [codes_eq]
  intro c hc
  simp only [codes1, List.mem_cons, List.not_mem_nil, or_false] at hc
  rcases hc with rfl | rfl | rfl
  · exact w_c0
  · exact w_c1
  · exact w_c2
set_option maxRecDepth 65536 in
theorem w_t1 : words1.all (fun c => isCode c || c.before args0 about1) = true := by decide +kernel
theorem w_tables : (allAtoms (Jvm.Cond.code x code maxLocals ret :: tables_1)).before args0 about1 = true := by
  rw [allAtoms_all]
  show words1.all (fun c => c.before args0 about1) = true
  refine all_split ?_ w_codes
  rw [w_t1]
set_option maxRecDepth 65536 in
theorem w_case : (Jvm.Cond.and given_1 narrow_1).before args0 about1 = true := by decide +kernel
theorem w_applies : (headSpec (Jvm.Cond.code x code maxLocals ret :: tables_1) room_1).applies x e0.platform about1 = true :=
  (Spec.applies_iff w_frames).mpr ⟨w_running, w_runnable, w_alone, w_named, w_hears, w_ripe, w_room, w_tables⟩
theorem atStart : AtStart classFile x code maxLocals ret World_1 tables_1 room_1 Calls_1 rest_1 Pre_1 launch0 p0 e0 about1 theMethod args0 below0 :=
  ⟨lists_1, trivial, launch0.admits_env _ _ _, launch0.least_env, fairChoices_fair.cas, fairChoices_fair.clock, w_frames, w_args, w_heap, w_applies, trivial, trivial, w_case⟩
end start1
theorem witness_1 : WitnessClaimed_1 := ⟨start1.p0, start1.e0, start1.about1, start1.theMethod, start1.args0, start1.below0, start1.atStart⟩
end Jvm.Pilot.@@N@@
