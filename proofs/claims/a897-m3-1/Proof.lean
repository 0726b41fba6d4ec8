import JvmDerived
import JvmDerived.Pilot.@@N@@Statement
import JvmDerived.Pilot.@@N@@Code
set_option linter.unusedVariables false
set_option linter.unusedSimpArgs false
namespace Jvm.OwnGo
open Jvm Jvm.ClassFile Sem Op Lib Jvm.Free Jvm.Stand Jvm.LawKit Jvm.RoadKit
section Own
variable {p : Program} {l : Launch} {e : Env} {R : Room} {s : State} {m : MethodId} {args : Array Value} {below : List Frame} {meth : Method} {c : Code} {T : State} {locs : List Loc} {cells slots : Nat} {Q : Option Value → Heap → List Loc → Prop} {C N : Nat}
/-- from A on the run comes to its return, and what it returns and leaves is as Q says -/
def Go (p : Program) (e : Env) (below : List Frame) (s : State) (Q : Option Value → Heap → List Loc → Prop) (C N : Nat) (A : State) : Prop :=
  ∃ s₂ o, Steps p.tables e below A s₂ ∧ s₂.status = .running ∧ Ended s₂ below o ∧ ∃ v L, o = .returned v ∧ Q v s₂.heap L ∧ FrameEnd s o s₂ L C N
theorem Go.st {A B : State} (h : ∀ t, Steps p.tables e below B t → Steps p.tables e below A t) (k : Go p e below s Q C N B) : Go p e below s Q C N A := by
  obtain ⟨s₂, o, h1, r⟩ := k
  exact ⟨s₂, o, h _ h1, r⟩
theorem Go.tr {A B : State} (h : Steps p.tables e below A B) (k : Go p e below s Q C N B) : Go p e below s Q C N A := k.st fun _ q => h.trans q
theorem Go.retI (X : Stand p l e R s m args below meth c T locs cells slots) (hx : p.tables.exec = Jvm.exec) (hlk : meth.locks = false) (hret : meth.sig.returnType = some .int) {pc : Nat} {Ls : Array Slot} {z : Int32} {rest : List Value} (hd : decode c.code pc = .ok (.ireturn, 1))
    (q : Q (some (.int z)) T.heap locs) (hc : cells ≤ C) (hn : slots ≤ N) : Go p e below s Q C N (T.setTop (mkF m pc Ls (.int z :: rest))) := by
  obtain ⟨fs, hr, hrun, hended, hW, hsame⟩ := X.leave (v := some (.int z)) (fun h => by rw [hret] at h; cases h) hlk
  exact ⟨_, _, retOut X hx hret rfl (Or.inl ⟨rfl, Or.inl rfl, _, rfl⟩) hd hr, hrun, hended, _, _, rfl, q, ⟨_, rfl⟩, hW, hsame.mono hc hn⟩
theorem Go.retN (X : Stand p l e R s m args below meth c T locs cells slots) (hx : p.tables.exec = Jvm.exec) (hlk : meth.locks = false) {t : FieldType} (ht : t = .boolean ∨ t = .byte ∨ t = .char ∨ t = .short) (hret : meth.sig.returnType = some t) {pc : Nat} {Ls : Array Slot} {z z' : Int32} {rest : List Value} (hd : decode c.code pc = .ok (.ireturn, 1))
    (hz : nar t z = z') (q : Q (some (.int z')) T.heap locs) (hc : cells ≤ C) (hn : slots ≤ N) : Go p e below s Q C N (T.setTop (mkF m pc Ls (.int z :: rest))) := by
  subst hz
  obtain ⟨fs, hr, hrun, hended, hW, hsame⟩ := X.leave (v := some (.int (nar t z))) (fun h => by rw [hret] at h; cases h) hlk
  exact ⟨_, _, Jvm.RoadKit.retN X hx hret ht hd hr, hrun, hended, _, _, rfl, q, ⟨_, rfl⟩, hW, hsame.mono hc hn⟩
theorem Go.retJ (X : Stand p l e R s m args below meth c T locs cells slots) (hx : p.tables.exec = Jvm.exec) (hlk : meth.locks = false) (hret : meth.sig.returnType = some .long) {pc : Nat} {Ls : Array Slot} {z : Int64} {rest : List Value} (hd : decode c.code pc = .ok (.lreturn, 1))
    (q : Q (some (.long z)) T.heap locs) (hc : cells ≤ C) (hn : slots ≤ N) : Go p e below s Q C N (T.setTop (mkF m pc Ls (.long z :: rest))) := by
  obtain ⟨fs, hr, hrun, hended, hW, hsame⟩ := X.leave (v := some (.long z)) (fun h => by rw [hret] at h; cases h) hlk
  exact ⟨_, _, retOut X hx hret rfl (Or.inr (Or.inl ⟨rfl, rfl, _, rfl⟩)) hd hr, hrun, hended, _, _, rfl, q, ⟨_, rfl⟩, hW, hsame.mono hc hn⟩
theorem nar_ref {t : FieldType} {w : Value} (hw : w.isRef = true) : narrow t w = w := by
  cases t <;> cases w <;> first | rfl | (simp [Value.isRef] at hw)
theorem Go.retA (X : Stand p l e R s m args below meth c T locs cells slots) (hx : p.tables.exec = Jvm.exec) (hlk : meth.locks = false) {t : FieldType} (ht : t.isReference = true) (hret : meth.sig.returnType = some t) {pc : Nat} {Ls : Array Slot} {w : Value} {rest : List Value} (hw : w.isRef = true) (hd : decode c.code pc = .ok (.areturn, 1))
    (q : Q (some w) T.heap locs) (hc : cells ≤ C) (hn : slots ≤ N) : Go p e below s Q C N (T.setTop (mkF m pc Ls (w :: rest))) := by
  obtain ⟨fs, hr, hrun, hended, hW, hsame⟩ := X.leave (v := some w) (fun h => by rw [hret] at h; cases h) hlk
  exact ⟨_, _, retOut X hx hret (nar_ref hw) (Or.inr (Or.inr (Or.inr (Or.inr ⟨rfl, ht, hw⟩)))) hd hr, hrun, hended, _, _, rfl, q, ⟨_, rfl⟩, hW, hsame.mono hc hn⟩
theorem Go.retV (X : Stand p l e R s m args below meth c T locs cells slots) (hx : p.tables.exec = Jvm.exec) (hlk : meth.locks = false) (hret : meth.sig.returnType = none) {pc : Nat} {Ls : Array Slot} (hd : decode c.code pc = .ok (.return_, 1))
    (q : Q none T.heap locs) (hc : cells ≤ C) (hn : slots ≤ N) : Go p e below s Q C N (T.setTop (mkF m pc Ls [])) := by
  obtain ⟨fs, hr, hrun, hended, hW, hsame⟩ := X.leave (v := none) (fun _ => rfl) hlk
  exact ⟨_, _, X.returnOut hx hret hd hr, hrun, hended, _, _, rfl, q, ⟨_, rfl⟩, hW, hsame.mono hc hn⟩
theorem up {k n : Nat} (X : Stand p l e R s m args below meth c T locs cells slots) (hc : cells ≤ k) (hn : slots ≤ n) : Stand p l e R s m args below meth c T locs k n := { X with same := X.same.mono hc hn }
end Own
/-- a fact that the arithmetic leaves alone till it is opened -/
def Hid (P : Prop) : Prop := P
section Num
variable {x y : Int32} {u v : Int64} {a b : Int}
theorem ltI (ha : x.toInt = a) (hb : y.toInt = b) (h : a < b) : x < y := by rw [Int32.lt_iff_toInt_lt, ha, hb]; exact h
theorem nltI (ha : x.toInt = a) (hb : y.toInt = b) (h : ¬ a < b) : ¬ x < y := by rw [Int32.lt_iff_toInt_lt, ha, hb]; exact h
theorem eqI (ha : x.toInt = a) (hb : y.toInt = b) (h : a = b) : x = y := Int32.toInt_inj.mp (by rw [ha, hb]; exact h)
theorem neI (ha : x.toInt = a) (hb : y.toInt = b) (h : ¬ a = b) : ¬ x = y := fun q => h (by rw [← ha, ← hb, q])
theorem ltJ (ha : u.toInt = a) (hb : v.toInt = b) (h : a < b) : u < v := by rw [Int64.lt_iff_toInt_lt, ha, hb]; exact h
theorem nltJ (ha : u.toInt = a) (hb : v.toInt = b) (h : ¬ a < b) : ¬ u < v := by rw [Int64.lt_iff_toInt_lt, ha, hb]; exact h
theorem eqJ (ha : u.toInt = a) (hb : v.toInt = b) (h : a = b) : u = v := Int64.toInt_inj.mp (by rw [ha, hb]; exact h)
theorem neJ (ha : u.toInt = a) (hb : v.toInt = b) (h : ¬ a = b) : ¬ u = v := fun q => h (by rw [← ha, ← hb, q])
theorem bool_nar (h : x.toInt = 0 ∨ x.toInt = 1) : nar .boolean x = x := by
  rcases h with h | h
  · rw [Int32.toInt_inj.mp (h.trans (by decide : (0 : Int) = (0 : Int32).toInt))]; decide
  · rw [Int32.toInt_inj.mp (h.trans (by decide : (1 : Int) = (1 : Int32).toInt))]; decide
end Num
section Words
variable {Z : State} {args : Array Value} {t : Term} {C n d : String} {a : Addr}
theorem fld_int {k : Int32} (ht : t.eval args Z none [] Z = some (.ref a)) (h : (Cond.eq (Term.field t C n d) (Term.int k)).value args Z none Z [] = some true) : Fld Z Z.heap a C n d (.int k) := by
  obtain ⟨u, v, e1, e2, k1, k2⟩ := cmp_v (Or.inl h)
  have e3 : v = .int k := Option.some.inj (e2.symm.trans (Term.int_eval k))
  subst e3
  obtain ⟨w, rfl⟩ : ∃ w, u = .int w := k2
  have q := gotT (Cond.eq_ints e1 (Term.int_eval k)) h
  subst q
  exact Fld.start (by rw [← fld_at (args := args) (first := Z) (o := none) (idx := []) ht]; exact e1)
theorem sta_long {k : Int64} (h : (Cond.eq (Term.static C n d) (Term.long k)).value args Z none Z [] = some true) : (Term.static C n d).eval args Z none [] Z = some (.long k) := by
  obtain ⟨u, v, e1, e2, k1, k2⟩ := cmp_v (Or.inl h)
  have e3 : v = .long k := Option.some.inj (e2.symm.trans rfl)
  subst e3
  obtain ⟨w, rfl⟩ : ∃ w, u = .long w := k2
  have q := gotT (eq_L (y := k) e1 rfl) h
  subst q
  exact e1
theorem sta_int {k : Int32} (h : (Cond.eq (Term.static C n d) (Term.int k)).value args Z none Z [] = some true) : (Term.static C n d).eval args Z none [] Z = some (.int k) := by
  obtain ⟨u, v, e1, e2, k1, k2⟩ := cmp_v (Or.inl h)
  have e3 : v = .int k := Option.some.inj (e2.symm.trans rfl)
  subst e3
  obtain ⟨w, rfl⟩ : ∃ w, u = .int w := k2
  have q := gotT (Cond.eq_ints e1 (Term.int_eval k)) h
  subst q
  exact e1
/-- a cell that is no class's statics -/
def Exi (h : Heap) (x : Addr) : Prop := ∃ c : Cell, h[x]? = some c ∧ c.vm.isStatics = false
theorem exi_exa {h : Heap} (F : Exa Z h a C) : Exi h a := by obtain ⟨c, k, h1, -, -, h4, -⟩ := F; exact ⟨c, h1, h4⟩
theorem sta_keep {h h' : Heap} {v : Value} {ws : List Addr} (F : Sta Z h C n d v) (K : Keep h h' ws) (q : ∀ x ∈ ws, Exi h x) : Sta Z h' C n d v := by
  obtain ⟨cf, i, k, f, st, cell, h1, h2, h3, h4, h5, h6, h7⟩ := F
  refine ⟨cf, i, k, f, st, cell, h1, h2, h3, h4, K.2.1 st cell h5 (fun hm => ?_), h6, h7⟩
  obtain ⟨c, e1, e2⟩ := q st hm
  cases h5.symm.trans e1
  rw [h6] at e2; cases e2
theorem self_sel {s : State} {as as' : Array Value} {y z : MethodName} (hs : (Cond.selects C z z).before as s = true) (hc : z.cls = y.cls) (hp : s.PrivateAt y) (hi : (Cond.instanceMethod y).before as' s = true) (hy : y.cls ≠ "java/lang/invoke/MethodHandle" ∧ y.cls ≠ "java/lang/invoke/VarHandle") : (Cond.selects y.cls y y).before as' s = true := by
  obtain ⟨c, r, m, h1, h2, h3, h4, mk, h5, h6⟩ := Cond.selects_spec hs
  exact selects_self_of_private (hc ▸ findClass_of_methodNamed h3) h5 h6 hp hi hy
end Words
end Jvm.OwnGo
namespace Jvm.OwnGo
open Jvm Jvm.ClassFile Sem Op Lib Jvm.Free Jvm.Stand Jvm.LawKit Jvm.RoadKit
section Vecs
variable {p : Program} {l : Launch} {e : Env} {R : Room} {s : State} {m : MethodId} {args : Array Value} {below : List Frame} {meth : Method} {c : Code} {T : State} {locs : List Loc} {cells slots : Nat} {Z : State} {h h' : Heap} {a b : Addr} {ty : FieldType} {n j x : Int32} {y : Int64} {f : Nat → Value} {v : Value} {sl : Nat} {ws : List Addr}
/-- an array at a, of length n, whose i-th place holds f i -/
def Vec (Z : State) (h : Heap) (a : Addr) (ty : FieldType) (n : Int32) (f : Nat → Value) : Prop := ∃ c : Cell, Arr Z h a c ty ∧ c.slots.size = n.toInt.toNat ∧ 0 ≤ n.toInt ∧ ∀ i : Nat, (i : Int) < n.toInt → c.slots[i]? = some (f i)
def ints (f : Nat → Int32) : Nat → Value := fun i => .int (f i)
def longs (f : Nat → Int64) : Nat → Value := fun i => .long (f i)
def updF {α : Type} (f : Nat → α) (k : Nat) (v : α) : Nat → α := fun i => if i = k then v else f i
theorem upd_same {α : Type} (f : Nat → α) (k : Nat) (v : α) : updF f k v k = v := if_pos rfl
theorem upd_ne {α : Type} (f : Nat → α) {k i : Nat} (v : α) (q : i ≠ k) : updF f k v i = f i := if_neg q
def lst {α : Type} [Inhabited α] (l : List α) : Nat → α := fun i => l.getD i default
theorem upd_lst {α : Type} [Inhabited α] (l : List α) (k : Nat) (v : α) (hk : k < l.length) : updF (lst l) k v = lst (l.set k v) := by
  funext i
  simp only [updF, lst, List.getD_eq_getElem?_getD, List.getElem?_set]
  by_cases q : i = k
  · subst q; simp [hk]
  · simp [q, Ne.symm q]
theorem upd_ints (f : Nat → Int32) (k : Nat) (v : Int32) : updF (ints f) k (.int v) = ints (updF f k v) := by
  funext i; simp only [updF, ints]; split <;> rfl
theorem upd_longs (f : Nat → Int64) (k : Nat) (v : Int64) : updF (longs f) k (.long v) = longs (updF f k v) := by
  funext i; simp only [updF, longs]; split <;> rfl
theorem Vec.lt (F : Vec Z h a ty n f) : a < h.size := by obtain ⟨c, A, -⟩ := F; exact A.lt
theorem Vec.ext (E : Ext h h') (F : Vec Z h a ty n f) : Vec Z h' a ty n f := by obtain ⟨c, A, r⟩ := F; exact ⟨c, A.ext E, r⟩
theorem Vec.other (W : Wr h h' b sl v) (F : Vec Z h a ty n f) (q : a ≠ b) : Vec Z h' a ty n f := by obtain ⟨c, A, r⟩ := F; exact ⟨c, A.other W q, r⟩
theorem Vec.keep (F : Vec Z h a ty n f) (K : Keep h h' ws) (q : a ∉ ws) : Vec Z h' a ty n f := by obtain ⟨c, A, r⟩ := F; exact ⟨c, ⟨K.2.1 a c A.1 q, A.2⟩, r⟩
theorem exi_vec (F : Vec Z h a ty n f) : Exi h a := by obtain ⟨c, A, -⟩ := F; exact ⟨c, A.1, A.plain⟩
theorem nat_cl (j : Int32) : j.toNatClampNeg = j.toInt.toNat := rfl
theorem not_neg (q : 0 ≤ j.toInt) : ¬ j < 0 := by
  have z : (0 : Int32).toInt = 0 := by decide
  rw [Int32.lt_iff_toInt_lt, z]; omega
theorem of_neg (q : ¬ j < 0) : 0 ≤ j.toInt := by
  have z : (0 : Int32).toInt = 0 := by decide
  rw [Int32.lt_iff_toInt_lt, z] at q; omega
theorem inb {k : Nat} (q : k = n.toInt.toNat) (h1 : 0 ≤ j.toInt) (h2 : j.toInt < n.toInt) : ¬ (j < 0 ∨ k ≤ j.toNatClampNeg) := by
  rintro (w | w)
  · exact not_neg h1 w
  · rw [nat_cl, q] at w; omega
theorem Vec.new {k : ClassId} (A : Arr Z h a (newA k ty n) ty) (q : 0 ≤ n.toInt) : Vec Z h a ty n (fun _ => defaultValue ty) := by
  refine ⟨_, A, sz_new _ _ _, q, fun i hi => ?_⟩
  have hi' : i < n.toNatClampNeg := by rw [nat_cl]; omega
  simp [newA, hi']
theorem Vec.of {f' : Nat → Value} (F : Vec Z h a ty n f) (q : ∀ i : Nat, (i : Int) < n.toInt → f i = f' i) : Vec Z h a ty n f' := by
  obtain ⟨c, A, h1, h2, h3⟩ := F
  exact ⟨c, A, h1, h2, fun i hi => by rw [← q i hi]; exact h3 i hi⟩
theorem Vec.of_eq {f' : Nat → Value} (F : Vec Z h a ty n f) (q : f = f') : Vec Z h a ty n f' := q ▸ F
theorem Vec.set {k : Nat} (F : Vec Z h a ty n f) (W : Wr h h' a k v) : Vec Z h' a ty n (updF f k v) := by
  obtain ⟨c, A, h1, h2, h3⟩ := F
  refine ⟨_, A.same W, by rw [sz_set]; exact h1, h2, fun i hi => ?_⟩
  by_cases q : i = k
  · subst q
    have hi' : i < c.slots.size := by rw [h1]; omega
    simp [Cell.setSlot, updF, hi']
  · rw [upd_ne f v q, ← h3 i hi]
    exact Array.getElem?_setIfInBounds_ne (Ne.symm q)
theorem Vec.len (X : Stand p l e R s m args below meth c T locs cells slots) (hx : p.tables.exec = Jvm.exec) (hZ : Z.Warmed39 s.vm) (eT : T.heap = h) (F : Vec Z h a ty n f) {g : JFrame} (hg : g.method = m) {rest : List Value} (hs : g.stack = .ref a :: rest) (hd : decode c.code g.pc = .ok (.arraylength, 1)) :
    ∀ t, Steps p.tables e below (T.setTop { g with pc := g.pc + 1, stack := .int n :: rest }) t → Steps p.tables e below (T.setTop g) t := by
  obtain ⟨cl, A, h1, h2, h3⟩ := F
  intro t k
  refine X.arraylength hx (by rw [eT]; exact A.1) (State.isArrayOf_alike hZ.alike A.2.1) hg hs hd _ ?_
  rw [len_of h1 (not_neg h2)]
  exact k
theorem Vec.ildI {f : Nat → Int32} (X : Stand p l e R s m args below meth c T locs cells slots) (hx : p.tables.exec = Jvm.exec) (hZ : Z.Warmed39 s.vm) (eT : T.heap = h) (F : Vec Z h a .int n (ints f)) (h1 : 0 ≤ j.toInt) (h2 : j.toInt < n.toInt) {g : JFrame} (hg : g.method = m) {rest : List Value} (hs : g.stack = .int j :: .ref a :: rest) (hd : decode c.code g.pc = .ok (.iaload, 1)) :
    ∀ t, Steps p.tables e below (T.setTop { g with pc := g.pc + 1, stack := .int (f j.toInt.toNat) :: rest }) t → Steps p.tables e below (T.setTop g) t := by
  obtain ⟨cl, A, q1, q2, q3⟩ := F
  exact X.iaload hx (j := j) (v := .int (f j.toInt.toNat)) (by rw [eT]; exact A.1) (State.isArrayOf_alike hZ.alike A.2.1) A.2.2 (inb q1 h1 h2) (q3 j.toInt.toNat (by omega)) hg hs hd
theorem Vec.ildB {f : Nat → Int32} (X : Stand p l e R s m args below meth c T locs cells slots) (hx : p.tables.exec = Jvm.exec) (hZ : Z.Warmed39 s.vm) (eT : T.heap = h) (F : Vec Z h a .byte n (ints f)) (h1 : 0 ≤ j.toInt) (h2 : j.toInt < n.toInt) {g : JFrame} (hg : g.method = m) {rest : List Value} (hs : g.stack = .int j :: .ref a :: rest) (hd : decode c.code g.pc = .ok (.baload, 1)) :
    ∀ t, Steps p.tables e below (T.setTop { g with pc := g.pc + 1, stack := .int (f j.toInt.toNat) :: rest }) t → Steps p.tables e below (T.setTop g) t := by
  obtain ⟨cl, A, q1, q2, q3⟩ := F
  exact X.baloadBytes hx (j := j) (v := .int (f j.toInt.toNat)) (by rw [eT]; exact A.1) (State.isArrayOf_alike hZ.alike A.2.1) A.2.2 (inb q1 h1 h2) (q3 j.toInt.toNat (by omega)) hg hs hd
theorem Vec.ildJ {f : Nat → Int64} (X : Stand p l e R s m args below meth c T locs cells slots) (hx : p.tables.exec = Jvm.exec) (hZ : Z.Warmed39 s.vm) (eT : T.heap = h) (F : Vec Z h a .long n (longs f)) (h1 : 0 ≤ j.toInt) (h2 : j.toInt < n.toInt) {g : JFrame} (hg : g.method = m) {rest : List Value} (hs : g.stack = .int j :: .ref a :: rest) (hd : decode c.code g.pc = .ok (.laload, 1)) :
    ∀ t, Steps p.tables e below (T.setTop { g with pc := g.pc + 1, stack := .long (f j.toInt.toNat) :: rest }) t → Steps p.tables e below (T.setTop g) t := by
  obtain ⟨cl, A, q1, q2, q3⟩ := F
  exact X.laload hx (j := j) (v := .long (f j.toInt.toNat)) (by rw [eT]; exact A.1) (State.isArrayOf_alike hZ.alike A.2.1) A.2.2 (inb q1 h1 h2) (q3 j.toInt.toNat (by omega)) hg hs hd
theorem Vec.istI {f : Nat → Int32} (X : Stand p l e R s m args below meth c T locs cells slots) (hx : p.tables.exec = Jvm.exec) (hZ : Z.Warmed39 s.vm) (eT : T.heap = h) (F : Vec Z h a .int n (ints f)) (h1 : 0 ≤ j.toInt) (h2 : j.toInt < n.toInt) {g : JFrame} (hg : g.method = m) {rest : List Value} (hs : g.stack = .int x :: .int j :: .ref a :: rest) (hd : decode c.code g.pc = .ok (.iastore, 1)) :
    ∃ T' h', Stand p l e R s m args below meth c T' (locs ++ [⟨a, j.toInt.toNat⟩]) cells slots ∧ T'.heap = h' ∧ Wr h h' a j.toInt.toNat (.int x) ∧ Vec Z h' a .int n (ints (updF f j.toInt.toNat x)) ∧ ∀ t, Steps p.tables e below (T'.setTop { g with pc := g.pc + 1, stack := rest }) t → Steps p.tables e below (T.setTop g) t := by
  obtain ⟨cl, A, q1, q2, q3⟩ := id F
  obtain ⟨T', h', X', e', W', st'⟩ := stI X hx hZ eT A (inb q1 h1 h2) hg hs hd
  exact ⟨T', h', X', e', W', upd_ints f _ x ▸ F.set W', st'⟩
theorem Vec.istB {f : Nat → Int32} (X : Stand p l e R s m args below meth c T locs cells slots) (hx : p.tables.exec = Jvm.exec) (hZ : Z.Warmed39 s.vm) (eT : T.heap = h) (F : Vec Z h a .byte n (ints f)) (h1 : 0 ≤ j.toInt) (h2 : j.toInt < n.toInt) {g : JFrame} (hg : g.method = m) {rest : List Value} (hs : g.stack = .int x :: .int j :: .ref a :: rest) (hd : decode c.code g.pc = .ok (.bastore, 1)) :
    ∃ T' h', Stand p l e R s m args below meth c T' (locs ++ [⟨a, j.toInt.toNat⟩]) cells slots ∧ T'.heap = h' ∧ Wr h h' a j.toInt.toNat (.int x.toInt8.toInt32) ∧ Vec Z h' a .byte n (ints (updF f j.toInt.toNat x.toInt8.toInt32)) ∧ ∀ t, Steps p.tables e below (T'.setTop { g with pc := g.pc + 1, stack := rest }) t → Steps p.tables e below (T.setTop g) t := by
  obtain ⟨cl, A, q1, q2, q3⟩ := id F
  obtain ⟨T', h', X', e', W', st'⟩ := stB X hx hZ eT A (inb q1 h1 h2) hg hs hd
  exact ⟨T', h', X', e', W', upd_ints f _ x.toInt8.toInt32 ▸ F.set W', st'⟩
theorem Vec.istJ {f : Nat → Int64} (X : Stand p l e R s m args below meth c T locs cells slots) (hx : p.tables.exec = Jvm.exec) (hZ : Z.Warmed39 s.vm) (eT : T.heap = h) (F : Vec Z h a .long n (longs f)) (h1 : 0 ≤ j.toInt) (h2 : j.toInt < n.toInt) {g : JFrame} (hg : g.method = m) {rest : List Value} (hs : g.stack = .long y :: .int j :: .ref a :: rest) (hd : decode c.code g.pc = .ok (.lastore, 1)) :
    ∃ T' h', Stand p l e R s m args below meth c T' (locs ++ [⟨a, j.toInt.toNat⟩]) cells slots ∧ T'.heap = h' ∧ Wr h h' a j.toInt.toNat (.long y) ∧ Vec Z h' a .long n (longs (updF f j.toInt.toNat y)) ∧ ∀ t, Steps p.tables e below (T'.setTop { g with pc := g.pc + 1, stack := rest }) t → Steps p.tables e below (T.setTop g) t := by
  obtain ⟨cl, A, q1, q2, q3⟩ := id F
  obtain ⟨T', h', X', e', W', st'⟩ := stJ X hx hZ eT A (inb q1 h1 h2) hg hs hd
  exact ⟨T', h', X', e', W', upd_longs f _ y ▸ F.set W', st'⟩
end Vecs
end Jvm.OwnGo
namespace Jvm.OwnGo
/-- k places are shared out: li of them stand in f1 (their values in g1), hi in f2 (g2); v says what each place is worth -/
def FInv (k li hi : Int) (f1 f2 g1 g2 v : Nat → Int32) : Prop := li + hi = k ∧ 0 ≤ li ∧ 0 ≤ hi ∧ (∀ j : Nat, (j : Int) < li → 0 ≤ (f1 j).toInt ∧ (f1 j).toInt < k ∧ g1 j = v (f1 j).toInt.toNat) ∧ (∀ j : Nat, (j : Int) < hi → 0 ≤ (f2 j).toInt ∧ (f2 j).toInt < k ∧ g2 j = v (f2 j).toInt.toNat) ∧ ∀ i : Nat, (i : Int) < k → (∃ j : Nat, (j : Int) < li ∧ (f1 j).toInt = i) ∨ (∃ j : Nat, (j : Int) < hi ∧ (f2 j).toInt = i)
section F
variable {k li hi k' li' hi' : Int} {f1 f2 g1 g2 v : Nat → Int32} {a : Nat} {K x : Int32}
theorem FInv.start : FInv 0 0 0 f1 f2 g1 g2 v := ⟨rfl, Int.le_refl _, Int.le_refl _, fun j h => by omega, fun j h => by omega, fun i h => by omega⟩
theorem FInv.cast (F : FInv k li hi f1 f2 g1 g2 v) (h1 : k = k') (h2 : li = li') (h3 : hi = hi') : FInv k' li' hi' f1 f2 g1 g2 v := by subst h1 h2 h3; exact F
theorem FInv.left (t : Nat) (F : FInv k li hi f1 f2 g1 g2 v) (ha : (a : Int) = li) (ht : (t : Int) = k) (hK : K.toInt = t) (hx : x = v t) : FInv (k + 1) (li + 1) hi (updF f1 a K) f2 (updF g1 a x) g2 v := by
  obtain ⟨h1, h2, h3, h4, h5, h6⟩ := F
  refine ⟨by omega, by omega, by omega, fun j hj => ?_, fun j hj => ?_, fun i hi => ?_⟩
  · by_cases q : j = a
    · subst q; rw [upd_same, upd_same]; exact ⟨by omega, by omega, by rw [hx, hK]; rfl⟩
    · rw [upd_ne _ _ q, upd_ne _ _ q]; have := h4 j (by omega); exact ⟨this.1, by omega, this.2.2⟩
  · have := h5 j hj; exact ⟨this.1, by omega, this.2.2⟩
  · by_cases q : (i : Int) < k
    · rcases h6 i q with ⟨j, q1, q2⟩ | ⟨j, q1, q2⟩
      · exact Or.inl ⟨j, by omega, by rw [upd_ne _ _ (by omega)]; exact q2⟩
      · exact Or.inr ⟨j, q1, q2⟩
    · exact Or.inl ⟨a, by omega, by rw [upd_same]; omega⟩
theorem FInv.swap (F : FInv k li hi f1 f2 g1 g2 v) : FInv k hi li f2 f1 g2 g1 v := by
  obtain ⟨h1, h2, h3, h4, h5, h6⟩ := F
  exact ⟨by omega, h3, h2, h5, h4, fun i q => (h6 i q).symm⟩
theorem FInv.right (t : Nat) (F : FInv k li hi f1 f2 g1 g2 v) (ha : (a : Int) = hi) (ht : (t : Int) = k) (hK : K.toInt = t) (hx : x = v t) : FInv (k + 1) li (hi + 1) f1 (updF f2 a K) g1 (updF g2 a x) v := (FInv.left t F.swap ha ht hK hx).swap
theorem own_put {R f g v : Nat → Int32} {i i' : Nat} (hp : ∀ j : Nat, j < i → R (f j).toInt.toNat = v (f j).toInt.toNat) (hg : g i = v (f i).toInt.toNat) (hi : i' = i + 1) : ∀ j : Nat, j < i' → (updF R (f i).toInt.toNat (g i)) (f j).toInt.toNat = v (f j).toInt.toNat := by
  intro j hj
  by_cases q : (f j).toInt.toNat = (f i).toInt.toNat
  · rw [q, upd_same, hg]
  · rw [upd_ne _ _ q]
    refine hp j ?_
    by_cases r : j = i
    · subst r; exact absurd rfl q
    · omega
theorem own_put2 {R f v f' g' : Nat → Int32} {i n : Nat} (hp : ∀ j : Nat, j < n → R (f j).toInt.toNat = v (f j).toInt.toNat) (hg : g' i = v (f' i).toInt.toNat) : ∀ j : Nat, j < n → (updF R (f' i).toInt.toNat (g' i)) (f j).toInt.toNat = v (f j).toInt.toNat := by
  intro j hj
  by_cases q : (f j).toInt.toNat = (f' i).toInt.toNat
  · rw [q, upd_same, hg]
  · rw [upd_ne _ _ q]; exact hp j hj
end F
end Jvm.OwnGo
namespace Jvm.Pilot.@@N@@
open Jvm Jvm.ClassFile Sem Op Lib Jvm.Free Jvm.Stand Jvm.LawKit Jvm.RoadKit Bundle Jvm.OwnGo Jvm.Pilot.@@N@@.Jvm.D
theorem pn_0 : plainName "java/lang/Record" = true := by first | (simp [plainName, overriddenIn]; done) | decide +kernel
theorem d2_0 : decode jdk_30_method_1_code 0 = .ok (.aload_n 0, 1) := by decide +kernel
theorem d2_1 : decode jdk_30_method_1_code 1 = .ok (.invokespecial 1, 3) := by decide +kernel
theorem d2_4 : decode jdk_30_method_1_code 4 = .ok (.return_, 1) := by decide +kernel
theorem ef_rm2 (m : MethodId) (o : Addr) : entryFrame m #[(.ref o)] 1 = mkF m 0 #[.val (.ref o)] [] := by first | (simp [entryFrame, mkF, argsToLocals, Value.category]; done) | rfl
def Q2 (Z : State) (o : Addr) (h0 : Heap) (n0 : Nat) (vv : Option Value) (h : Heap) (LL : List Loc) : Prop := vv = none ∧ Fr n0 LL ∧ h = h0
set_option maxRecDepth 65536 in
set_option maxHeartbeats 40000000 in
theorem rm2 (l : Launch) (Z : State) (a0 : Array Value) (hw : ∀ d ∈ tables_1, d.before a0 Z = true) (ws : List Jvm.Cond) (o : Addr) (h0 : Heap) (n0 : Nat) (Z0 : n0 ≤ h0.size) :
    MetFree l (⟨"java/lang/Record", "<init>", "()V"⟩ : MethodName) (head1 (Jvm.Cond.code (⟨"java/lang/Record", "<init>", "()V"⟩ : MethodName) jdk_30_method_1_code 1 none :: ws) ({ frames := 1, cells := 0, slots := 0, locals := 12 } : Room)) (fun aa UU => aa = #[(.ref o)] ∧ Z.Warmed39 UU.vm ∧ UU.heap = h0) (fun _ _ _ _ _ => True) (fun _ UU oo UU' => ∃ vv LL, oo = .returned vv ∧ Q2 Z o h0 n0 vv UU'.heap LL ∧ FrameEnd UU oo UU' LL 0 0) := by
  refine MetFree.of_bodySF (plainFor_of_name pn_0) hisR ?_
  intro p e s m args below meth c s₁ Bd hml0 hP hK
  obtain ⟨rfl, hZ, hh⟩ := hP
  have hx := Bd.exec
  have hby := Bd.bytes
  have hlk : meth.locks = false := BodyLoose.notSynchronized Bd
  have hml : c.maxLocals = 1 := hml0
  have hown : s.vm.findClass "java/lang/Record" = some m.cls := findClass_of_methodNamed Bd.named
  have hnm := (name_of_methodNamed Bd.named Bd.method).1
  have X0 : Stand p l e ({ frames := 1, cells := 0, slots := 0, locals := 12 } : Room) s m #[(.ref o)] below meth c s₁ [] 0 0 := Stand.of_body Bd
  have e0 : s₁.heap = h0 := by rw [← hh, Bd.state]; rfl
  have N0 := Fr.nil n0
  have K0 : Keep h0 h0 [] := Keep.refl h0 _
  refine (?_ : Go p e below s (Q2 Z o h0 n0) 0 0 (s₁.setTop (entryFrame m #[(.ref o)] 1)))
  rw [ef_rm2]
  generalize hQ : Q2 Z o h0 n0 = Q
  show Go p e below s Q 0 0 (s₁.setTop (mkF m 0 #[.val (.ref o)] []))
  refine Go.st (fun _ k => XS.aloadN X0.here hx rfl (hb hby d2_0) rfl rfl k) ?_
  show Go p e below s Q 0 0 (s₁.setTop (mkF m 1 #[.val (.ref o)] [(.ref o)]))
  obtain ⟨T1, X1, e1, st1⟩ := initO X0 hx hZ hown (hw _ (List.mem_of_getElem? (i := 12) rfl)) (hw _ (List.mem_of_getElem? (i := 13) rfl)) (hw _ (List.mem_of_getElem? (i := 14) rfl)) e0 (g := (mkF m 1 #[.val (.ref o)] [(.ref o)])) rfl (by rw [hml]; rfl) rfl (hb hby d2_1) (by decide) (W := 0) (by show 2 * 0 + _ ≤ _; exact Nat.le_of_eq rfl) (by decide)
  refine Go.st st1 ?_
  show Go p e below s Q 0 0 (T1.setTop (mkF m 4 #[.val (.ref o)] []))
  exact Go.retV X1 hx hlk Bd.returns (hb hby d2_4) (by rw [← hQ, e1]; exact ⟨rfl, N0, rfl⟩) (by decide) (by decide)
theorem pn_1 : plainName "com/example/rackwise/rackwise/LoadBalancer$Split" = true := by first | (simp [plainName, overriddenIn]; done) | decide +kernel
theorem d1_0 : decode prog_75_method_1_code 0 = .ok (.aload_n 0, 1) := by decide +kernel
theorem pd_0 : parseMethodDescriptor "()V" = some ⟨[], none⟩ := by decide +kernel
theorem d1_1 : decode prog_75_method_1_code 1 = .ok (.invokespecial 3, 3) := by decide +kernel
theorem d1_4 : decode prog_75_method_1_code 4 = .ok (.aload_n 0, 1) := by decide +kernel
theorem d1_5 : decode prog_75_method_1_code 5 = .ok (.aload_n 1, 1) := by decide +kernel
theorem d1_6 : decode prog_75_method_1_code 6 = .ok (.putfield 9, 3) := by decide +kernel
theorem sn_0 {Z : State} {a0 : Array Value} (hw : ∀ d ∈ tables_1, d.before a0 Z = true) : Jvm.RoadKit.slotOf Z "com/example/rackwise/rackwise/LoadBalancer$Split" "heavier" "[I" ≠ Jvm.RoadKit.slotOf Z "com/example/rackwise/rackwise/LoadBalancer$Split" "lighter" "[I" := slot_ne (Or.inr (hw _ (List.mem_of_getElem? (i := 18) rfl))) (Or.inr (hw _ (List.mem_of_getElem? (i := 16) rfl))) (by decide) (t := (.array .int)) (t' := (.array .int)) (by decide) (by decide)
theorem d1_9 : decode prog_75_method_1_code 9 = .ok (.aload_n 0, 1) := by decide +kernel
theorem d1_10 : decode prog_75_method_1_code 10 = .ok (.aload_n 2, 1) := by decide +kernel
theorem d1_11 : decode prog_75_method_1_code 11 = .ok (.putfield 15, 3) := by decide +kernel
theorem sn_1 {Z : State} {a0 : Array Value} (hw : ∀ d ∈ tables_1, d.before a0 Z = true) : Jvm.RoadKit.slotOf Z "com/example/rackwise/rackwise/LoadBalancer$Split" "lighter" "[I" ≠ Jvm.RoadKit.slotOf Z "com/example/rackwise/rackwise/LoadBalancer$Split" "heavier" "[I" := slot_ne (Or.inr (hw _ (List.mem_of_getElem? (i := 16) rfl))) (Or.inr (hw _ (List.mem_of_getElem? (i := 18) rfl))) (by decide) (t := (.array .int)) (t' := (.array .int)) (by decide) (by decide)
theorem d1_14 : decode prog_75_method_1_code 14 = .ok (.return_, 1) := by decide +kernel
theorem ef_rm1 (m : MethodId) (o : Addr) (a1 : Addr) (a2 : Addr) : entryFrame m #[(.ref o), (.ref a1), (.ref a2)] 3 = mkF m 0 #[.val (.ref o), .val (.ref a1), .val (.ref a2)] [] := by first | (simp [entryFrame, mkF, argsToLocals, Value.category]; done) | rfl
def Q1 (Z : State) (o : Addr) (a1 : Addr) (a2 : Addr) (u1 : Value) (u2 : Value) (h0 : Heap) (n0 : Nat) (vv : Option Value) (h : Heap) (LL : List Loc) : Prop := vv = none ∧ Fr n0 LL ∧ Keep h0 h [o] ∧ (Exa Z h o "com/example/rackwise/rackwise/LoadBalancer$Split") ∧ (Fld Z h o "com/example/rackwise/rackwise/LoadBalancer$Split" "lighter" "[I" (.ref a1)) ∧ (Fld Z h o "com/example/rackwise/rackwise/LoadBalancer$Split" "heavier" "[I" (.ref a2))
set_option maxRecDepth 65536 in
set_option maxHeartbeats 40000000 in
theorem rm1 (l : Launch) (Z : State) (a0 : Array Value) (hw : ∀ d ∈ tables_1, d.before a0 Z = true) (ws : List Jvm.Cond) (o : Addr) (a1 : Addr) (a2 : Addr) (u1 : Value) (u2 : Value) (h0 : Heap) (n0 : Nat) (Z0 : n0 ≤ h0.size) (hE : Exa Z h0 o "com/example/rackwise/rackwise/LoadBalancer$Split") (hG : n0 ≤ o) (ho1 : Fld Z h0 o "com/example/rackwise/rackwise/LoadBalancer$Split" "lighter" "[I" u1) (ho2 : Fld Z h0 o "com/example/rackwise/rackwise/LoadBalancer$Split" "heavier" "[I" u2) :
    MetFree l (⟨"com/example/rackwise/rackwise/LoadBalancer$Split", "<init>", "([I[I)V"⟩ : MethodName) (head1 (Jvm.Cond.code (⟨"com/example/rackwise/rackwise/LoadBalancer$Split", "<init>", "([I[I)V"⟩ : MethodName) prog_75_method_1_code 3 none :: ws) ({ frames := 2, cells := 0, slots := 0, locals := 24 } : Room)) (fun aa UU => aa = #[(.ref o), (.ref a1), (.ref a2)] ∧ Z.Warmed39 UU.vm ∧ UU.heap = h0) (fun _ _ _ _ _ => True) (fun _ UU oo UU' => ∃ vv LL, oo = .returned vv ∧ Q1 Z o a1 a2 u1 u2 h0 n0 vv UU'.heap LL ∧ FrameEnd UU oo UU' LL 0 0) := by
  refine MetFree.of_bodySF (plainFor_of_name pn_1) hisR ?_
  intro p e s m args below meth c s₁ Bd hml0 hP hK
  obtain ⟨rfl, hZ, hh⟩ := hP
  have hx := Bd.exec
  have hby := Bd.bytes
  have hlk : meth.locks = false := BodyLoose.notSynchronized Bd
  have hml : c.maxLocals = 3 := hml0
  have hown : s.vm.findClass "com/example/rackwise/rackwise/LoadBalancer$Split" = some m.cls := findClass_of_methodNamed Bd.named
  have hnm := (name_of_methodNamed Bd.named Bd.method).1
  have X0 : Stand p l e ({ frames := 2, cells := 0, slots := 0, locals := 24 } : Room) s m #[(.ref o), (.ref a1), (.ref a2)] below meth c s₁ [] 0 0 := Stand.of_body Bd
  have e0 : s₁.heap = h0 := by rw [← hh, Bd.state]; rfl
  have N0 := Fr.nil n0
  have K0 : Keep h0 h0 [o] := Keep.refl h0 _
  refine (?_ : Go p e below s (Q1 Z o a1 a2 u1 u2 h0 n0) 0 0 (s₁.setTop (entryFrame m #[(.ref o), (.ref a1), (.ref a2)] 3)))
  rw [ef_rm1]
  generalize hQ : Q1 Z o a1 a2 u1 u2 h0 n0 = Q
  show Go p e below s Q 0 0 (s₁.setTop (mkF m 0 #[.val (.ref o), .val (.ref a1), .val (.ref a2)] []))
  refine Go.st (fun _ k => XS.aloadN X0.here hx rfl (hb hby d1_0) rfl rfl k) ?_
  show Go p e below s Q 0 0 (s₁.setTop (mkF m 1 #[.val (.ref o), .val (.ref a1), .val (.ref a2)] [(.ref o)]))
  obtain ⟨_, _, ⟨T1, L1, k1, n1⟩, -, X1, ⟨Lc1, hQ1, l1, y1, z1⟩, st1⟩ := X0.specialBack hx (y := (⟨"java/lang/Record", "<init>", "()V"⟩ : MethodName)) rfl hown (mvT hZ (hw _ (List.mem_of_getElem? (i := 7) rfl))) (mvT hZ (hw _ (List.mem_of_getElem? (i := 8) rfl))) (mvT hZ (hw _ (List.mem_of_getElem? (i := 11) rfl))) (by decide) (backOf (W := 0) (rm2 l Z a0 hw [] o h0 n0 (Nat.le_trans Z0 K0.1) ) hZ (hw _ (List.mem_of_getElem? (i := 11) rfl)) (hw _ (List.mem_of_getElem? (i := 10) rfl)) (by decide) (by decide)) (g := (mkF m 1 #[.val (.ref o), .val (.ref a1), .val (.ref a2)] [(.ref o)])) rfl (by rw [hml]; rfl) (Steps.refl _) (a := o) (argsL := []) (rest := []) (lenOf pd_0 rfl) rfl (by show 2 * 0 + _ ≤ _; exact Nat.le_of_eq rfl) (hb hby d1_1) (fun _ _ => ⟨rfl, e0, (by decide : 0 + 0 ≤ _), (by decide : 0 + 0 ≤ _)⟩)
  dsimp only [Pt.U, Pt.locs, Pt.cells, Pt.slots] at X1 l1 y1 z1 st1 hQ1
  subst l1 y1 z1
  obtain ⟨rfl, N1q, e1⟩ := hQ1
  have N1 := Fr.app N0 N1q
  refine Go.tr  st1 ?_
  show Go p e below s Q 0 0 (T1.setTop (mkF m 4 #[.val (.ref o), .val (.ref a1), .val (.ref a2)] []))
  refine Go.st (fun _ k => XS.aloadN X1.here hx rfl (hb hby d1_4) rfl rfl k) ?_
  show Go p e below s Q 0 0 (T1.setTop (mkF m 5 #[.val (.ref o), .val (.ref a1), .val (.ref a2)] [(.ref o)]))
  refine Go.st (fun _ k => XS.aloadN X1.here hx rfl (hb hby d1_5) rfl rfl k) ?_
  show Go p e below s Q 0 0 (T1.setTop (mkF m 6 #[.val (.ref o), .val (.ref a1), .val (.ref a2)] [(.ref a1), (.ref o)]))
  obtain ⟨T2, h2, X2, e2, W2, st2⟩ := putF X1 hx hZ hown (host := "") (Or.inl (hw _ (List.mem_of_getElem? (i := 15) rfl))) Via.refl e1 ho1 hE (Or.inr ⟨(hw _ (List.mem_of_getElem? (i := 16) rfl)), rfl, hnm⟩) (hw _ (List.mem_of_getElem? (i := 2) rfl)) (ty := (.array .int)) (by decide) rfl rfl (g := (mkF m 6 #[.val (.ref o), .val (.ref a1), .val (.ref a2)] [(.ref a1), (.ref o)])) rfl rfl (hb hby d1_6)
  have h3 : Exa Z h2 o "com/example/rackwise/rackwise/LoadBalancer$Split" := hE.wr W2
  have h4 : Fld Z h2 o "com/example/rackwise/rackwise/LoadBalancer$Split" "lighter" "[I" (.ref a1) := ho1.same W2
  have h5 : Fld Z h2 o "com/example/rackwise/rackwise/LoadBalancer$Split" "heavier" "[I" u2 := ho2.other W2 (Or.inr (sn_0 hw))
  have K2 : Keep h0 h2 [o] := K0.wr W2 (Or.inl (List.mem_of_getElem? (i := 0) rfl))
  have N2 := Fr.snoc X2 N1 hG
  refine Go.st st2 ?_
  show Go p e below s Q 0 0 (T2.setTop (mkF m 9 #[.val (.ref o), .val (.ref a1), .val (.ref a2)] []))
  refine Go.st (fun _ k => XS.aloadN X2.here hx rfl (hb hby d1_9) rfl rfl k) ?_
  show Go p e below s Q 0 0 (T2.setTop (mkF m 10 #[.val (.ref o), .val (.ref a1), .val (.ref a2)] [(.ref o)]))
  refine Go.st (fun _ k => XS.aloadN X2.here hx rfl (hb hby d1_10) rfl rfl k) ?_
  show Go p e below s Q 0 0 (T2.setTop (mkF m 11 #[.val (.ref o), .val (.ref a1), .val (.ref a2)] [(.ref a2), (.ref o)]))
  obtain ⟨T6, h6, X6, e6, W6, st6⟩ := putF X2 hx hZ hown (host := "") (Or.inl (hw _ (List.mem_of_getElem? (i := 17) rfl))) Via.refl e2 h5 h3 (Or.inr ⟨(hw _ (List.mem_of_getElem? (i := 18) rfl)), rfl, hnm⟩) (hw _ (List.mem_of_getElem? (i := 2) rfl)) (ty := (.array .int)) (by decide) rfl rfl (g := (mkF m 11 #[.val (.ref o), .val (.ref a1), .val (.ref a2)] [(.ref a2), (.ref o)])) rfl rfl (hb hby d1_11)
  have h7 : Exa Z h6 o "com/example/rackwise/rackwise/LoadBalancer$Split" := h3.wr W6
  have h8 : Fld Z h6 o "com/example/rackwise/rackwise/LoadBalancer$Split" "lighter" "[I" (.ref a1) := h4.other W6 (Or.inr (sn_1 hw))
  have h9 : Fld Z h6 o "com/example/rackwise/rackwise/LoadBalancer$Split" "heavier" "[I" (.ref a2) := h5.same W6
  have K6 : Keep h0 h6 [o] := K2.wr W6 (Or.inl (List.mem_of_getElem? (i := 0) rfl))
  have N6 := Fr.snoc X6 N2 hG
  refine Go.st st6 ?_
  show Go p e below s Q 0 0 (T6.setTop (mkF m 14 #[.val (.ref o), .val (.ref a1), .val (.ref a2)] []))
  exact Go.retV X6 hx hlk Bd.returns (hb hby d1_14) (by rw [← hQ, e6]; exact ⟨rfl, N6, K6, h7, h8, h9⟩) (by decide) (by decide)
theorem d4_0 : decode prog_75_method_5_code 0 = .ok (.aload_n 0, 1) := by decide +kernel
theorem d4_1 : decode prog_75_method_5_code 1 = .ok (.getfield 9, 3) := by decide +kernel
theorem d4_4 : decode prog_75_method_5_code 4 = .ok (.arraylength, 1) := by decide +kernel
theorem d4_5 : decode prog_75_method_5_code 5 = .ok (.aload_n 0, 1) := by decide +kernel
theorem d4_6 : decode prog_75_method_5_code 6 = .ok (.getfield 15, 3) := by decide +kernel
theorem d4_9 : decode prog_75_method_5_code 9 = .ok (.arraylength, 1) := by decide +kernel
theorem d4_10 : decode prog_75_method_5_code 10 = .ok (.iadd, 1) := by decide +kernel
theorem d4_11 : decode prog_75_method_5_code 11 = .ok (.newarray .int, 2) := by decide +kernel
theorem d4_13 : decode prog_75_method_5_code 13 = .ok (.astore_n 3, 1) := by decide +kernel
theorem d4_14 : decode prog_75_method_5_code 14 = .ok (.iconst 0, 1) := by decide +kernel
theorem d4_15 : decode prog_75_method_5_code 15 = .ok (.istore 4, 2) := by decide +kernel
theorem d4_17 : decode prog_75_method_5_code 17 = .ok (.iload 4, 2) := by decide +kernel
theorem d4_19 : decode prog_75_method_5_code 19 = .ok (.aload_n 0, 1) := by decide +kernel
theorem d4_20 : decode prog_75_method_5_code 20 = .ok (.getfield 9, 3) := by decide +kernel
theorem d4_23 : decode prog_75_method_5_code 23 = .ok (.arraylength, 1) := by decide +kernel
theorem d4_24 : decode prog_75_method_5_code 24 = .ok (.if_icmp .ge 22, 3) := by decide +kernel
theorem d4_27 : decode prog_75_method_5_code 27 = .ok (.aload_n 3, 1) := by decide +kernel
theorem d4_28 : decode prog_75_method_5_code 28 = .ok (.aload_n 0, 1) := by decide +kernel
theorem d4_29 : decode prog_75_method_5_code 29 = .ok (.getfield 9, 3) := by decide +kernel
theorem d4_32 : decode prog_75_method_5_code 32 = .ok (.iload 4, 2) := by decide +kernel
theorem d4_34 : decode prog_75_method_5_code 34 = .ok (.iaload, 1) := by decide +kernel
theorem d4_35 : decode prog_75_method_5_code 35 = .ok (.aload_n 1, 1) := by decide +kernel
theorem d4_36 : decode prog_75_method_5_code 36 = .ok (.iload 4, 2) := by decide +kernel
theorem d4_38 : decode prog_75_method_5_code 38 = .ok (.iaload, 1) := by decide +kernel
theorem d4_39 : decode prog_75_method_5_code 39 = .ok (.iastore, 1) := by decide +kernel
theorem d4_40 : decode prog_75_method_5_code 40 = .ok (.iinc 4 1, 3) := by decide +kernel
theorem liI_1 : (1 : Int32).toInt = 1 := by decide
theorem d4_43 : decode prog_75_method_5_code 43 = .ok (.goto (-26), 3) := by decide +kernel
theorem d4_46 : decode prog_75_method_5_code 46 = .ok (.iconst 0, 1) := by decide +kernel
theorem d4_47 : decode prog_75_method_5_code 47 = .ok (.istore 4, 2) := by decide +kernel
theorem d4_49 : decode prog_75_method_5_code 49 = .ok (.iload 4, 2) := by decide +kernel
theorem d4_51 : decode prog_75_method_5_code 51 = .ok (.aload_n 0, 1) := by decide +kernel
theorem d4_52 : decode prog_75_method_5_code 52 = .ok (.getfield 15, 3) := by decide +kernel
theorem d4_55 : decode prog_75_method_5_code 55 = .ok (.arraylength, 1) := by decide +kernel
theorem d4_56 : decode prog_75_method_5_code 56 = .ok (.if_icmp .ge 22, 3) := by decide +kernel
theorem d4_59 : decode prog_75_method_5_code 59 = .ok (.aload_n 3, 1) := by decide +kernel
theorem d4_60 : decode prog_75_method_5_code 60 = .ok (.aload_n 0, 1) := by decide +kernel
theorem d4_61 : decode prog_75_method_5_code 61 = .ok (.getfield 15, 3) := by decide +kernel
theorem d4_64 : decode prog_75_method_5_code 64 = .ok (.iload 4, 2) := by decide +kernel
theorem d4_66 : decode prog_75_method_5_code 66 = .ok (.iaload, 1) := by decide +kernel
theorem d4_67 : decode prog_75_method_5_code 67 = .ok (.aload_n 2, 1) := by decide +kernel
theorem d4_68 : decode prog_75_method_5_code 68 = .ok (.iload 4, 2) := by decide +kernel
theorem d4_70 : decode prog_75_method_5_code 70 = .ok (.iaload, 1) := by decide +kernel
theorem d4_71 : decode prog_75_method_5_code 71 = .ok (.iastore, 1) := by decide +kernel
theorem d4_72 : decode prog_75_method_5_code 72 = .ok (.iinc 4 1, 3) := by decide +kernel
theorem d4_75 : decode prog_75_method_5_code 75 = .ok (.goto (-26), 3) := by decide +kernel
theorem d4_78 : decode prog_75_method_5_code 78 = .ok (.aload_n 3, 1) := by decide +kernel
theorem d4_79 : decode prog_75_method_5_code 79 = .ok (.areturn, 1) := by decide +kernel
theorem liI_0 : (0 : Int32).toInt = 0 := by decide
theorem ef_rm4 (m : MethodId) (o : Addr) (c1 : Addr) (c2 : Addr) : entryFrame m #[(.ref o), (.ref c1), (.ref c2)] 5 = mkF m 0 #[.val (.ref o), .val (.ref c1), .val (.ref c2), .unset, .unset] [] := by first | (simp [entryFrame, mkF, argsToLocals, Value.category]; done) | rfl
def Q4 (Z : State) (o : Addr) (c1 : Addr) (c2 : Addr) (a1 : Addr) (a2 : Addr) (n1 : Int32) (n2 : Int32) (f1 : Nat → Int32) (f2 : Nat → Int32) (g1 : Nat → Int32) (g2 : Nat → Int32) (v : Nat → Int32) (h0 : Heap) (n0 : Nat) (vv : Option Value) (h : Heap) (LL : List Loc) : Prop := ∃ (r : Addr) (nr : Int32) (R : Nat → Int32), vv = some (.ref r) ∧ Fr n0 LL ∧ (nr.toInt = n1.toInt + n2.toInt) ∧ (∀ i : Nat, (i : Int) < n1.toInt + n2.toInt → R i = v i) ∧ Keep h0 h [] ∧ (Vec Z h r .int nr (ints R))
set_option maxRecDepth 65536 in
set_option maxHeartbeats 40000000 in
theorem rm4 (l : Launch) (Z : State) (a0 : Array Value) (hw : ∀ d ∈ tables_1, d.before a0 Z = true) (ws : List Jvm.Cond) (o : Addr) (c1 : Addr) (c2 : Addr) (a1 : Addr) (a2 : Addr) (n1 : Int32) (n2 : Int32) (f1 : Nat → Int32) (f2 : Nat → Int32) (g1 : Nat → Int32) (g2 : Nat → Int32) (v : Nat → Int32) (h0 : Heap) (n0 : Nat) (Z0 : n0 ≤ h0.size) (hE : Exa Z h0 o "com/example/rackwise/rackwise/LoadBalancer$Split") (hb0 : Fld Z h0 o "com/example/rackwise/rackwise/LoadBalancer$Split" "lighter" "[I" (.ref a1)) (hb1 : Fld Z h0 o "com/example/rackwise/rackwise/LoadBalancer$Split" "heavier" "[I" (.ref a2)) (hb2 : Vec Z h0 a1 .int n1 (ints f1)) (hb3 : Vec Z h0 a2 .int n2 (ints f2)) (hb4 : Vec Z h0 c1 .int n1 (ints g1)) (hb5 : Vec Z h0 c2 .int n2 (ints g2)) (hFI : FInv (n1.toInt + n2.toInt) n1.toInt n2.toInt f1 f2 g1 g2 v) (ho4 : n1.toInt + n2.toInt ≤ 4) (ho5 : 0 ≤ n1.toInt ∧ 0 ≤ n2.toInt) :
    MetFree l (⟨"com/example/rackwise/rackwise/LoadBalancer$Split", "joined", "([I[I)[I"⟩ : MethodName) (head1 (Jvm.Cond.code (⟨"com/example/rackwise/rackwise/LoadBalancer$Split", "joined", "([I[I)[I"⟩ : MethodName) prog_75_method_5_code 5 (some (.array .int)) :: ws) ({ frames := 0, cells := 1, slots := 4, locals := 0 } : Room)) (fun aa UU => aa = #[(.ref o), (.ref c1), (.ref c2)] ∧ Z.Warmed39 UU.vm ∧ UU.heap = h0) (fun _ _ _ _ _ => True) (fun _ UU oo UU' => ∃ vv LL, oo = .returned vv ∧ Q4 Z o c1 c2 a1 a2 n1 n2 f1 f2 g1 g2 v h0 n0 vv UU'.heap LL ∧ FrameEnd UU oo UU' LL 1 4) := by
  refine MetFree.of_bodySF (plainFor_of_name pn_1) hisR ?_
  intro p e s m args below meth c s₁ Bd hml0 hP hK
  obtain ⟨rfl, hZ, hh⟩ := hP
  have hx := Bd.exec
  have hby := Bd.bytes
  have hlk : meth.locks = false := BodyLoose.notSynchronized Bd
  have hml : c.maxLocals = 5 := hml0
  have hown : s.vm.findClass "com/example/rackwise/rackwise/LoadBalancer$Split" = some m.cls := findClass_of_methodNamed Bd.named
  have hnm := (name_of_methodNamed Bd.named Bd.method).1
  have X0 : Stand p l e ({ frames := 0, cells := 1, slots := 4, locals := 0 } : Room) s m #[(.ref o), (.ref c1), (.ref c2)] below meth c s₁ [] 0 0 := Stand.of_body Bd
  have e0 : s₁.heap = h0 := by rw [← hh, Bd.state]; rfl
  have N0 := Fr.nil n0
  have K0 : Keep h0 h0 [] := Keep.refl h0 _
  refine (?_ : Go p e below s (Q4 Z o c1 c2 a1 a2 n1 n2 f1 f2 g1 g2 v h0 n0) 1 4 (s₁.setTop (entryFrame m #[(.ref o), (.ref c1), (.ref c2)] 5)))
  rw [ef_rm4]
  generalize hQ : Q4 Z o c1 c2 a1 a2 n1 n2 f1 f2 g1 g2 v h0 n0 = Q
  show Go p e below s Q 1 4 (s₁.setTop (mkF m 0 #[.val (.ref o), .val (.ref c1), .val (.ref c2), .unset, .unset] []))
  refine Go.st (fun _ k => XS.aloadN X0.here hx rfl (hb hby d4_0) rfl rfl k) ?_
  show Go p e below s Q 1 4 (s₁.setTop (mkF m 1 #[.val (.ref o), .val (.ref c1), .val (.ref c2), .unset, .unset] [(.ref o)]))
  obtain ⟨T1, X1, e1, st1⟩ := getF X0 hx hZ hown (host := "") (Or.inl (hw _ (List.mem_of_getElem? (i := 15) rfl))) Via.refl e0 hb0 (g := (mkF m 1 #[.val (.ref o), .val (.ref c1), .val (.ref c2), .unset, .unset] [(.ref o)])) rfl rfl (hb hby d4_1)
  refine Go.st st1 ?_
  show Go p e below s Q 1 4 (T1.setTop (mkF m 4 #[.val (.ref o), .val (.ref c1), .val (.ref c2), .unset, .unset] [(.ref a1)]))
  refine Go.st (Vec.len X1 hx hZ e1 hb2 (g := (mkF m 4 #[.val (.ref o), .val (.ref c1), .val (.ref c2), .unset, .unset] [(.ref a1)])) rfl rfl (hb hby d4_4)) ?_
  show Go p e below s Q 1 4 (T1.setTop (mkF m 5 #[.val (.ref o), .val (.ref c1), .val (.ref c2), .unset, .unset] [(.int n1)]))
  refine Go.st (fun _ k => XS.aloadN X1.here hx rfl (hb hby d4_5) rfl rfl k) ?_
  show Go p e below s Q 1 4 (T1.setTop (mkF m 6 #[.val (.ref o), .val (.ref c1), .val (.ref c2), .unset, .unset] [(.ref o), (.int n1)]))
  obtain ⟨T3, X3, e3, st3⟩ := getF X1 hx hZ hown (host := "") (Or.inl (hw _ (List.mem_of_getElem? (i := 17) rfl))) Via.refl e1 hb1 (g := (mkF m 6 #[.val (.ref o), .val (.ref c1), .val (.ref c2), .unset, .unset] [(.ref o), (.int n1)])) rfl rfl (hb hby d4_6)
  refine Go.st st3 ?_
  show Go p e below s Q 1 4 (T3.setTop (mkF m 9 #[.val (.ref o), .val (.ref c1), .val (.ref c2), .unset, .unset] [(.ref a2), (.int n1)]))
  refine Go.st (Vec.len X3 hx hZ e3 hb3 (g := (mkF m 9 #[.val (.ref o), .val (.ref c1), .val (.ref c2), .unset, .unset] [(.ref a2), (.int n1)])) rfl rfl (hb hby d4_9)) ?_
  show Go p e below s Q 1 4 (T3.setTop (mkF m 10 #[.val (.ref o), .val (.ref c1), .val (.ref c2), .unset, .unset] [(.int n2), (.int n1)]))
  refine Go.st (fun _ k => XS.iadd X3.here hx rfl (hb hby d4_10) rfl k) ?_
  show Go p e below s Q 1 4 (T3.setTop (mkF m 11 #[.val (.ref o), .val (.ref c1), .val (.ref c2), .unset, .unset] [(.int (n1 + n2))]))
  have f6 := rng32 n1
  have f7 := rng32 n2
  have f8 := c_iadd n1 n2
  have f9 := rng32 (n1 + n2)
  have r10 : 0 ≤ (n1 + n2).toInt := by have q1 := hFI.1; have q2 := hFI.2.1; have q3 := hFI.2.2.1; omega
  have r11 : (n1 + n2).toNatClampNeg ≤ 4 := by rw [nat_cl]; have q1 := hFI.1; have q2 := hFI.2.1; have q3 := hFI.2.2.1; omega
  obtain ⟨T5, h5, k5, X5, e5, E5, A5, st5⟩ := newP X3 hx hZ (hw _ (List.mem_of_getElem? (i := 0) rfl)) e3 (g := (mkF m 11 #[.val (.ref o), .val (.ref c1), .val (.ref c2), .unset, .unset] [(.int (n1 + n2))])) rfl (hb hby d4_11) rfl (not_neg r10) (cap := 4) r11 (by decide) (by decide) (by decide)
  obtain ⟨b5, g5⟩ : ∃ z, z = h0.size := ⟨_, rfl⟩
  rw [← g5] at A5 st5
  have q12 : o ≠ b5 := Nat.ne_of_lt (Nat.lt_of_lt_of_le hE.lt (Nat.le_of_eq g5.symm))
  have q13 : a1 ≠ b5 := Nat.ne_of_lt (Nat.lt_of_lt_of_le hb2.lt (Nat.le_of_eq g5.symm))
  have q14 : a2 ≠ b5 := Nat.ne_of_lt (Nat.lt_of_lt_of_le hb3.lt (Nat.le_of_eq g5.symm))
  have q15 : c1 ≠ b5 := Nat.ne_of_lt (Nat.lt_of_lt_of_le hb4.lt (Nat.le_of_eq g5.symm))
  have q16 : c2 ≠ b5 := Nat.ne_of_lt (Nat.lt_of_lt_of_le hb5.lt (Nat.le_of_eq g5.symm))
  have h17 : Exa Z h5 o "com/example/rackwise/rackwise/LoadBalancer$Split" := hE.ext E5
  have h18 : Fld Z h5 o "com/example/rackwise/rackwise/LoadBalancer$Split" "lighter" "[I" (.ref a1) := hb0.ext E5
  have h19 : Fld Z h5 o "com/example/rackwise/rackwise/LoadBalancer$Split" "heavier" "[I" (.ref a2) := hb1.ext E5
  have h20 : Vec Z h5 a1 .int n1 (ints f1) := hb2.ext E5
  have h21 : Vec Z h5 a2 .int n2 (ints f2) := hb3.ext E5
  have h22 : Vec Z h5 c1 .int n1 (ints g1) := hb4.ext E5
  have h23 : Vec Z h5 c2 .int n2 (ints g2) := hb5.ext E5
  have Gb5 : n0 ≤ b5 := Nat.le_trans (Nat.le_trans Z0 K0.1) (Nat.le_of_eq g5.symm)
  have szb5 : h0.size ≤ b5 := Nat.le_trans K0.1 (Nat.le_of_eq g5.symm)
  have K5 : Keep h0 h5 [] := K0.ext E5
  have h24 : Vec Z h5 b5 .int (n1 + n2) (ints (fun _ => (0 : Int32))) := Vec.new A5 r10
  refine Go.st st5 ?_
  show Go p e below s Q 1 4 (T5.setTop (mkF m 13 #[.val (.ref o), .val (.ref c1), .val (.ref c2), .unset, .unset] [(.ref b5)]))
  refine Go.st (fun _ k => XS.astoreN X5.here hx rfl (hb hby d4_13) rfl rfl (l' := #[.val (.ref o), .val (.ref c1), .val (.ref c2), .val (.ref b5), .unset]) rfl k) ?_
  show Go p e below s Q 1 4 (T5.setTop (mkF m 14 #[.val (.ref o), .val (.ref c1), .val (.ref c2), .val (.ref b5), .unset] []))
  refine Go.st (fun _ k => XS.iconst X5.here hx rfl (hb hby d4_14) k) ?_
  show Go p e below s Q 1 4 (T5.setTop (mkF m 15 #[.val (.ref o), .val (.ref c1), .val (.ref c2), .val (.ref b5), .unset] [(.int (0 : Int32))]))
  refine Go.st (fun _ k => XS.istore X5.here hx rfl (hb hby d4_15) rfl (l' := #[.val (.ref o), .val (.ref c1), .val (.ref c2), .val (.ref b5), .val (.int (0 : Int32))]) rfl k) ?_
  show Go p e below s Q 1 4 (T5.setTop (mkF m 17 #[.val (.ref o), .val (.ref c1), .val (.ref c2), .val (.ref b5), .val (.int (0 : Int32))] []))
  have lp26 : ∀ (kg25 : Nat) (Tg25 : State) (hg25 : Heap) (Lgg25 : List Loc) (Xg25 : Stand p l e ({ frames := 0, cells := 1, slots := 4, locals := 0 } : Room) s m #[(.ref o), (.ref c1), (.ref c2)] below meth c Tg25 Lgg25 1 4) (eg25 : Tg25.heap = hg25) (Ng25 : Fr n0 Lgg25) (Kg25 : Keep h0 hg25 []) (i1 : Int32) (R1 : Nat → Int32) (hfg25_0 : Exa Z hg25 o "com/example/rackwise/rackwise/LoadBalancer$Split") (hfg25_1 : Fld Z hg25 o "com/example/rackwise/rackwise/LoadBalancer$Split" "lighter" "[I" (.ref a1)) (hfg25_2 : Fld Z hg25 o "com/example/rackwise/rackwise/LoadBalancer$Split" "heavier" "[I" (.ref a2)) (hfg25_3 : Vec Z hg25 a1 .int n1 (ints f1)) (hfg25_4 : Vec Z hg25 a2 .int n2 (ints f2)) (hfg25_5 : Vec Z hg25 c1 .int n1 (ints g1)) (hfg25_6 : Vec Z hg25 c2 .int n2 (ints g2)) (hfg25_7 : Vec Z hg25 b5 .int (n1 + n2) (ints R1)) (hpg25_0 : 0 ≤ i1.toInt ∧ i1.toInt ≤ n1.toInt) (hpg25_1 : ∀ j : Nat, j < i1.toInt.toNat → R1 (f1 j).toInt.toNat = v (f1 j).toInt.toNat), (n1.toInt - i1.toInt).toNat = kg25 → Go p e below s Q 1 4 (Tg25.setTop (mkF m 17 #[.val (.ref o), .val (.ref c1), .val (.ref c2), .val (.ref b5), .val (.int i1)] [])) := by
    intro kg25
    induction kg25 using Nat.strongRecOn with
    | ind kg25 ihg25 =>
    intro Tg25 hg25 Lgg25 Xg25 eg25 Ng25 Kg25 i1 R1 hfg25_0 hfg25_1 hfg25_2 hfg25_3 hfg25_4 hfg25_5 hfg25_6 hfg25_7 hpg25_0 hpg25_1 hkg25
    have f27 := rng32 i1
    show Go p e below s Q 1 4 (Tg25.setTop (mkF m 17 #[.val (.ref o), .val (.ref c1), .val (.ref c2), .val (.ref b5), .val (.int i1)] []))
    refine Go.st (fun _ k => XS.iload Xg25.here hx rfl (hb hby d4_17) rfl k) ?_
    show Go p e below s Q 1 4 (Tg25.setTop (mkF m 19 #[.val (.ref o), .val (.ref c1), .val (.ref c2), .val (.ref b5), .val (.int i1)] [(.int i1)]))
    refine Go.st (fun _ k => XS.aloadN Xg25.here hx rfl (hb hby d4_19) rfl rfl k) ?_
    show Go p e below s Q 1 4 (Tg25.setTop (mkF m 20 #[.val (.ref o), .val (.ref c1), .val (.ref c2), .val (.ref b5), .val (.int i1)] [(.ref o), (.int i1)]))
    obtain ⟨T28, X28, e28, st28⟩ := getF Xg25 hx hZ hown (host := "") (Or.inl (hw _ (List.mem_of_getElem? (i := 15) rfl))) Via.refl eg25 hfg25_1 (g := (mkF m 20 #[.val (.ref o), .val (.ref c1), .val (.ref c2), .val (.ref b5), .val (.int i1)] [(.ref o), (.int i1)])) rfl rfl (hb hby d4_20)
    refine Go.st st28 ?_
    show Go p e below s Q 1 4 (T28.setTop (mkF m 23 #[.val (.ref o), .val (.ref c1), .val (.ref c2), .val (.ref b5), .val (.int i1)] [(.ref a1), (.int i1)]))
    refine Go.st (Vec.len X28 hx hZ e28 hfg25_3 (g := (mkF m 23 #[.val (.ref o), .val (.ref c1), .val (.ref c2), .val (.ref b5), .val (.int i1)] [(.ref a1), (.int i1)])) rfl rfl (hb hby d4_23)) ?_
    show Go p e below s Q 1 4 (T28.setTop (mkF m 24 #[.val (.ref o), .val (.ref c1), .val (.ref c2), .val (.ref b5), .val (.int i1)] [(.int n1), (.int i1)]))
    by_cases c30 : i1.toInt < n1.toInt
    ·
      refine Go.st (fun _ k => XS.icmpNo X28.here hx rfl (hb hby d4_24) rfl (tlt (ltI rfl rfl c30)).2.1 k) ?_
      show Go p e below s Q 1 4 (T28.setTop (mkF m 27 #[.val (.ref o), .val (.ref c1), .val (.ref c2), .val (.ref b5), .val (.int i1)] []))
      refine Go.st (fun _ k => XS.aloadN X28.here hx rfl (hb hby d4_27) rfl rfl k) ?_
      show Go p e below s Q 1 4 (T28.setTop (mkF m 28 #[.val (.ref o), .val (.ref c1), .val (.ref c2), .val (.ref b5), .val (.int i1)] [(.ref b5)]))
      refine Go.st (fun _ k => XS.aloadN X28.here hx rfl (hb hby d4_28) rfl rfl k) ?_
      show Go p e below s Q 1 4 (T28.setTop (mkF m 29 #[.val (.ref o), .val (.ref c1), .val (.ref c2), .val (.ref b5), .val (.int i1)] [(.ref o), (.ref b5)]))
      obtain ⟨T31, X31, e31, st31⟩ := getF X28 hx hZ hown (host := "") (Or.inl (hw _ (List.mem_of_getElem? (i := 15) rfl))) Via.refl e28 hfg25_1 (g := (mkF m 29 #[.val (.ref o), .val (.ref c1), .val (.ref c2), .val (.ref b5), .val (.int i1)] [(.ref o), (.ref b5)])) rfl rfl (hb hby d4_29)
      refine Go.st st31 ?_
      show Go p e below s Q 1 4 (T31.setTop (mkF m 32 #[.val (.ref o), .val (.ref c1), .val (.ref c2), .val (.ref b5), .val (.int i1)] [(.ref a1), (.ref b5)]))
      refine Go.st (fun _ k => XS.iload X31.here hx rfl (hb hby d4_32) rfl k) ?_
      show Go p e below s Q 1 4 (T31.setTop (mkF m 34 #[.val (.ref o), .val (.ref c1), .val (.ref c2), .val (.ref b5), .val (.int i1)] [(.int i1), (.ref a1), (.ref b5)]))
      have r33 : 0 ≤ i1.toInt := by omega
      have r34 : i1.toInt < n1.toInt := by omega
      refine Go.st (Vec.ildI X31 hx hZ e31 hfg25_3 (j := i1) r33 r34 (g := (mkF m 34 #[.val (.ref o), .val (.ref c1), .val (.ref c2), .val (.ref b5), .val (.int i1)] [(.int i1), (.ref a1), (.ref b5)])) rfl rfl (hb hby d4_34)) ?_
      show Go p e below s Q 1 4 (T31.setTop (mkF m 35 #[.val (.ref o), .val (.ref c1), .val (.ref c2), .val (.ref b5), .val (.int i1)] [(.int (f1 i1.toInt.toNat)), (.ref b5)]))
      refine Go.st (fun _ k => XS.aloadN X31.here hx rfl (hb hby d4_35) rfl rfl k) ?_
      show Go p e below s Q 1 4 (T31.setTop (mkF m 36 #[.val (.ref o), .val (.ref c1), .val (.ref c2), .val (.ref b5), .val (.int i1)] [(.ref c1), (.int (f1 i1.toInt.toNat)), (.ref b5)]))
      refine Go.st (fun _ k => XS.iload X31.here hx rfl (hb hby d4_36) rfl k) ?_
      show Go p e below s Q 1 4 (T31.setTop (mkF m 38 #[.val (.ref o), .val (.ref c1), .val (.ref c2), .val (.ref b5), .val (.int i1)] [(.int i1), (.ref c1), (.int (f1 i1.toInt.toNat)), (.ref b5)]))
      have r36 : 0 ≤ i1.toInt := by omega
      have r37 : i1.toInt < n1.toInt := by omega
      refine Go.st (Vec.ildI X31 hx hZ e31 hfg25_5 (j := i1) r36 r37 (g := (mkF m 38 #[.val (.ref o), .val (.ref c1), .val (.ref c2), .val (.ref b5), .val (.int i1)] [(.int i1), (.ref c1), (.int (f1 i1.toInt.toNat)), (.ref b5)])) rfl rfl (hb hby d4_38)) ?_
      show Go p e below s Q 1 4 (T31.setTop (mkF m 39 #[.val (.ref o), .val (.ref c1), .val (.ref c2), .val (.ref b5), .val (.int i1)] [(.int (g1 i1.toInt.toNat)), (.int (f1 i1.toInt.toNat)), (.ref b5)]))
      have f39 := rng32 (f1 i1.toInt.toNat)
      have r40 : 0 ≤ (f1 i1.toInt.toNat).toInt := by have q1 := hFI.2.2.2.1 i1.toInt.toNat (by omega); omega
      have r41 : (f1 i1.toInt.toNat).toInt < (n1 + n2).toInt := by have q1 := hFI.2.2.2.1 i1.toInt.toNat (by omega); omega
      obtain ⟨T38, h38, X38, e38, W38, V38, st38⟩ := Vec.istI X31 hx hZ e31 hfg25_7 (j := (f1 i1.toInt.toNat)) r40 r41 (g := (mkF m 39 #[.val (.ref o), .val (.ref c1), .val (.ref c2), .val (.ref b5), .val (.int i1)] [(.int (g1 i1.toInt.toNat)), (.int (f1 i1.toInt.toNat)), (.ref b5)])) rfl rfl (hb hby d4_39)
      have h42 : Exa Z h38 o "com/example/rackwise/rackwise/LoadBalancer$Split" := hfg25_0.wr W38
      have h43 : Fld Z h38 o "com/example/rackwise/rackwise/LoadBalancer$Split" "lighter" "[I" (.ref a1) := hfg25_1.other W38 (Or.inl q12)
      have h44 : Fld Z h38 o "com/example/rackwise/rackwise/LoadBalancer$Split" "heavier" "[I" (.ref a2) := hfg25_2.other W38 (Or.inl q12)
      have h45 : Vec Z h38 a1 .int n1 (ints f1) := hfg25_3.other W38 q13
      have h46 : Vec Z h38 a2 .int n2 (ints f2) := hfg25_4.other W38 q14
      have h47 : Vec Z h38 c1 .int n1 (ints g1) := hfg25_5.other W38 q15
      have h48 : Vec Z h38 c2 .int n2 (ints g2) := hfg25_6.other W38 q16
      have h49 : Vec Z h38 b5 .int (n1 + n2) (ints (updF R1 (f1 i1.toInt.toNat).toInt.toNat (g1 i1.toInt.toNat))) := V38
      have K38 : Keep h0 h38 [] := Kg25.wr W38 (Or.inr szb5)
      have N38 := Fr.snoc X38 Ng25 Gb5
      refine Go.st st38 ?_
      show Go p e below s Q 1 4 (T38.setTop (mkF m 40 #[.val (.ref o), .val (.ref c1), .val (.ref c2), .val (.ref b5), .val (.int i1)] []))
      refine Go.st (fun _ k => XS.iinc X38.here hx rfl (hb hby d4_40) rfl (l' := #[.val (.ref o), .val (.ref c1), .val (.ref c2), .val (.ref b5), .val (.int (i1 + (1 : Int32)))]) rfl k) ?_
      show Go p e below s Q 1 4 (T38.setTop (mkF m 43 #[.val (.ref o), .val (.ref c1), .val (.ref c2), .val (.ref b5), .val (.int (i1 + (1 : Int32)))] []))
      have f50 := liI_1
      have f51 := c_iadd i1 (1 : Int32)
      have f52 := rng32 (i1 + (1 : Int32))
      generalize hv_v53 : (i1 + (1 : Int32)) = v53 at f51 f52 ⊢
      refine Go.st (fun _ k => XS.goto X38.here hx rfl (pc0 := 43) (pc' := 17) rfl (hb hby d4_43) (by decide) (by decide) k) ?_
      show Go p e below s Q 1 4 (T38.setTop (mkF m 17 #[.val (.ref o), .val (.ref c1), .val (.ref c2), .val (.ref b5), .val (.int v53)] []))
      exact ihg25 _ (by omega) T38 h38 _ (up X38 (by decide) (by decide)) e38 N38 K38 v53 (updF R1 (f1 i1.toInt.toNat).toInt.toNat (g1 i1.toInt.toNat)) h42 h43 h44 h45 h46 h47 h48 h49 (by omega) (by first | (intro j hj; have := liI_0; omega) | exact own_put (hpg25_1) (hFI.2.2.2.1 _ (by omega)).2.2 (by omega)) rfl
    ·
      refine Go.st (fun _ k => XS.icmpYes X28.here hx rfl (pc0 := 24) (pc' := 46) rfl (hb hby d4_24) rfl (flt (nltI rfl rfl c30)).2.1 (by decide) (by decide) k) ?_
      show Go p e below s Q 1 4 (T28.setTop (mkF m 46 #[.val (.ref o), .val (.ref c1), .val (.ref c2), .val (.ref b5), .val (.int i1)] []))
      refine Go.st (fun _ k => XS.iconst X28.here hx rfl (hb hby d4_46) k) ?_
      show Go p e below s Q 1 4 (T28.setTop (mkF m 47 #[.val (.ref o), .val (.ref c1), .val (.ref c2), .val (.ref b5), .val (.int i1)] [(.int (0 : Int32))]))
      refine Go.st (fun _ k => XS.istore X28.here hx rfl (hb hby d4_47) rfl (l' := #[.val (.ref o), .val (.ref c1), .val (.ref c2), .val (.ref b5), .val (.int (0 : Int32))]) rfl k) ?_
      show Go p e below s Q 1 4 (T28.setTop (mkF m 49 #[.val (.ref o), .val (.ref c1), .val (.ref c2), .val (.ref b5), .val (.int (0 : Int32))] []))
      have lp55 : ∀ (kg54 : Nat) (Tg54 : State) (hg54 : Heap) (Lgg54 : List Loc) (Xg54 : Stand p l e ({ frames := 0, cells := 1, slots := 4, locals := 0 } : Room) s m #[(.ref o), (.ref c1), (.ref c2)] below meth c Tg54 Lgg54 1 4) (eg54 : Tg54.heap = hg54) (Ng54 : Fr n0 Lgg54) (Kg54 : Keep h0 hg54 []) (i2 : Int32) (R2 : Nat → Int32) (hfg54_0 : Exa Z hg54 o "com/example/rackwise/rackwise/LoadBalancer$Split") (hfg54_1 : Fld Z hg54 o "com/example/rackwise/rackwise/LoadBalancer$Split" "lighter" "[I" (.ref a1)) (hfg54_2 : Fld Z hg54 o "com/example/rackwise/rackwise/LoadBalancer$Split" "heavier" "[I" (.ref a2)) (hfg54_3 : Vec Z hg54 a1 .int n1 (ints f1)) (hfg54_4 : Vec Z hg54 a2 .int n2 (ints f2)) (hfg54_5 : Vec Z hg54 c1 .int n1 (ints g1)) (hfg54_6 : Vec Z hg54 c2 .int n2 (ints g2)) (hfg54_7 : Vec Z hg54 b5 .int (n1 + n2) (ints R2)) (hpg54_0 : 0 ≤ i2.toInt ∧ i2.toInt ≤ n2.toInt) (hpg54_1 : ∀ j : Nat, j < n1.toInt.toNat → R2 (f1 j).toInt.toNat = v (f1 j).toInt.toNat) (hpg54_2 : ∀ j : Nat, j < i2.toInt.toNat → R2 (f2 j).toInt.toNat = v (f2 j).toInt.toNat), (n2.toInt - i2.toInt).toNat = kg54 → Go p e below s Q 1 4 (Tg54.setTop (mkF m 49 #[.val (.ref o), .val (.ref c1), .val (.ref c2), .val (.ref b5), .val (.int i2)] [])) := by
        intro kg54
        induction kg54 using Nat.strongRecOn with
        | ind kg54 ihg54 =>
        intro Tg54 hg54 Lgg54 Xg54 eg54 Ng54 Kg54 i2 R2 hfg54_0 hfg54_1 hfg54_2 hfg54_3 hfg54_4 hfg54_5 hfg54_6 hfg54_7 hpg54_0 hpg54_1 hpg54_2 hkg54
        have f56 := rng32 i2
        show Go p e below s Q 1 4 (Tg54.setTop (mkF m 49 #[.val (.ref o), .val (.ref c1), .val (.ref c2), .val (.ref b5), .val (.int i2)] []))
        refine Go.st (fun _ k => XS.iload Xg54.here hx rfl (hb hby d4_49) rfl k) ?_
        show Go p e below s Q 1 4 (Tg54.setTop (mkF m 51 #[.val (.ref o), .val (.ref c1), .val (.ref c2), .val (.ref b5), .val (.int i2)] [(.int i2)]))
        refine Go.st (fun _ k => XS.aloadN Xg54.here hx rfl (hb hby d4_51) rfl rfl k) ?_
        show Go p e below s Q 1 4 (Tg54.setTop (mkF m 52 #[.val (.ref o), .val (.ref c1), .val (.ref c2), .val (.ref b5), .val (.int i2)] [(.ref o), (.int i2)]))
        obtain ⟨T57, X57, e57, st57⟩ := getF Xg54 hx hZ hown (host := "") (Or.inl (hw _ (List.mem_of_getElem? (i := 17) rfl))) Via.refl eg54 hfg54_2 (g := (mkF m 52 #[.val (.ref o), .val (.ref c1), .val (.ref c2), .val (.ref b5), .val (.int i2)] [(.ref o), (.int i2)])) rfl rfl (hb hby d4_52)
        refine Go.st st57 ?_
        show Go p e below s Q 1 4 (T57.setTop (mkF m 55 #[.val (.ref o), .val (.ref c1), .val (.ref c2), .val (.ref b5), .val (.int i2)] [(.ref a2), (.int i2)]))
        refine Go.st (Vec.len X57 hx hZ e57 hfg54_4 (g := (mkF m 55 #[.val (.ref o), .val (.ref c1), .val (.ref c2), .val (.ref b5), .val (.int i2)] [(.ref a2), (.int i2)])) rfl rfl (hb hby d4_55)) ?_
        show Go p e below s Q 1 4 (T57.setTop (mkF m 56 #[.val (.ref o), .val (.ref c1), .val (.ref c2), .val (.ref b5), .val (.int i2)] [(.int n2), (.int i2)]))
        by_cases c59 : i2.toInt < n2.toInt
        ·
          refine Go.st (fun _ k => XS.icmpNo X57.here hx rfl (hb hby d4_56) rfl (tlt (ltI rfl rfl c59)).2.1 k) ?_
          show Go p e below s Q 1 4 (T57.setTop (mkF m 59 #[.val (.ref o), .val (.ref c1), .val (.ref c2), .val (.ref b5), .val (.int i2)] []))
          refine Go.st (fun _ k => XS.aloadN X57.here hx rfl (hb hby d4_59) rfl rfl k) ?_
          show Go p e below s Q 1 4 (T57.setTop (mkF m 60 #[.val (.ref o), .val (.ref c1), .val (.ref c2), .val (.ref b5), .val (.int i2)] [(.ref b5)]))
          refine Go.st (fun _ k => XS.aloadN X57.here hx rfl (hb hby d4_60) rfl rfl k) ?_
          show Go p e below s Q 1 4 (T57.setTop (mkF m 61 #[.val (.ref o), .val (.ref c1), .val (.ref c2), .val (.ref b5), .val (.int i2)] [(.ref o), (.ref b5)]))
          obtain ⟨T60, X60, e60, st60⟩ := getF X57 hx hZ hown (host := "") (Or.inl (hw _ (List.mem_of_getElem? (i := 17) rfl))) Via.refl e57 hfg54_2 (g := (mkF m 61 #[.val (.ref o), .val (.ref c1), .val (.ref c2), .val (.ref b5), .val (.int i2)] [(.ref o), (.ref b5)])) rfl rfl (hb hby d4_61)
          refine Go.st st60 ?_
          show Go p e below s Q 1 4 (T60.setTop (mkF m 64 #[.val (.ref o), .val (.ref c1), .val (.ref c2), .val (.ref b5), .val (.int i2)] [(.ref a2), (.ref b5)]))
          refine Go.st (fun _ k => XS.iload X60.here hx rfl (hb hby d4_64) rfl k) ?_
          show Go p e below s Q 1 4 (T60.setTop (mkF m 66 #[.val (.ref o), .val (.ref c1), .val (.ref c2), .val (.ref b5), .val (.int i2)] [(.int i2), (.ref a2), (.ref b5)]))
          have r62 : 0 ≤ i2.toInt := by omega
          have r63 : i2.toInt < n2.toInt := by omega
          refine Go.st (Vec.ildI X60 hx hZ e60 hfg54_4 (j := i2) r62 r63 (g := (mkF m 66 #[.val (.ref o), .val (.ref c1), .val (.ref c2), .val (.ref b5), .val (.int i2)] [(.int i2), (.ref a2), (.ref b5)])) rfl rfl (hb hby d4_66)) ?_
          show Go p e below s Q 1 4 (T60.setTop (mkF m 67 #[.val (.ref o), .val (.ref c1), .val (.ref c2), .val (.ref b5), .val (.int i2)] [(.int (f2 i2.toInt.toNat)), (.ref b5)]))
          refine Go.st (fun _ k => XS.aloadN X60.here hx rfl (hb hby d4_67) rfl rfl k) ?_
          show Go p e below s Q 1 4 (T60.setTop (mkF m 68 #[.val (.ref o), .val (.ref c1), .val (.ref c2), .val (.ref b5), .val (.int i2)] [(.ref c2), (.int (f2 i2.toInt.toNat)), (.ref b5)]))
          refine Go.st (fun _ k => XS.iload X60.here hx rfl (hb hby d4_68) rfl k) ?_
          show Go p e below s Q 1 4 (T60.setTop (mkF m 70 #[.val (.ref o), .val (.ref c1), .val (.ref c2), .val (.ref b5), .val (.int i2)] [(.int i2), (.ref c2), (.int (f2 i2.toInt.toNat)), (.ref b5)]))
          have r65 : 0 ≤ i2.toInt := by omega
          have r66 : i2.toInt < n2.toInt := by omega
          refine Go.st (Vec.ildI X60 hx hZ e60 hfg54_6 (j := i2) r65 r66 (g := (mkF m 70 #[.val (.ref o), .val (.ref c1), .val (.ref c2), .val (.ref b5), .val (.int i2)] [(.int i2), (.ref c2), (.int (f2 i2.toInt.toNat)), (.ref b5)])) rfl rfl (hb hby d4_70)) ?_
          show Go p e below s Q 1 4 (T60.setTop (mkF m 71 #[.val (.ref o), .val (.ref c1), .val (.ref c2), .val (.ref b5), .val (.int i2)] [(.int (g2 i2.toInt.toNat)), (.int (f2 i2.toInt.toNat)), (.ref b5)]))
          have f68 := rng32 (f2 i2.toInt.toNat)
          have r69 : 0 ≤ (f2 i2.toInt.toNat).toInt := by have q1 := hFI.2.2.2.2.1 i2.toInt.toNat (by omega); omega
          have r70 : (f2 i2.toInt.toNat).toInt < (n1 + n2).toInt := by have q1 := hFI.2.2.2.2.1 i2.toInt.toNat (by omega); omega
          obtain ⟨T67, h67, X67, e67, W67, V67, st67⟩ := Vec.istI X60 hx hZ e60 hfg54_7 (j := (f2 i2.toInt.toNat)) r69 r70 (g := (mkF m 71 #[.val (.ref o), .val (.ref c1), .val (.ref c2), .val (.ref b5), .val (.int i2)] [(.int (g2 i2.toInt.toNat)), (.int (f2 i2.toInt.toNat)), (.ref b5)])) rfl rfl (hb hby d4_71)
          have h71 : Exa Z h67 o "com/example/rackwise/rackwise/LoadBalancer$Split" := hfg54_0.wr W67
          have h72 : Fld Z h67 o "com/example/rackwise/rackwise/LoadBalancer$Split" "lighter" "[I" (.ref a1) := hfg54_1.other W67 (Or.inl q12)
          have h73 : Fld Z h67 o "com/example/rackwise/rackwise/LoadBalancer$Split" "heavier" "[I" (.ref a2) := hfg54_2.other W67 (Or.inl q12)
          have h74 : Vec Z h67 a1 .int n1 (ints f1) := hfg54_3.other W67 q13
          have h75 : Vec Z h67 a2 .int n2 (ints f2) := hfg54_4.other W67 q14
          have h76 : Vec Z h67 c1 .int n1 (ints g1) := hfg54_5.other W67 q15
          have h77 : Vec Z h67 c2 .int n2 (ints g2) := hfg54_6.other W67 q16
          have h78 : Vec Z h67 b5 .int (n1 + n2) (ints (updF R2 (f2 i2.toInt.toNat).toInt.toNat (g2 i2.toInt.toNat))) := V67
          have K67 : Keep h0 h67 [] := Kg54.wr W67 (Or.inr szb5)
          have N67 := Fr.snoc X67 Ng54 Gb5
          refine Go.st st67 ?_
          show Go p e below s Q 1 4 (T67.setTop (mkF m 72 #[.val (.ref o), .val (.ref c1), .val (.ref c2), .val (.ref b5), .val (.int i2)] []))
          refine Go.st (fun _ k => XS.iinc X67.here hx rfl (hb hby d4_72) rfl (l' := #[.val (.ref o), .val (.ref c1), .val (.ref c2), .val (.ref b5), .val (.int (i2 + (1 : Int32)))]) rfl k) ?_
          show Go p e below s Q 1 4 (T67.setTop (mkF m 75 #[.val (.ref o), .val (.ref c1), .val (.ref c2), .val (.ref b5), .val (.int (i2 + (1 : Int32)))] []))
          have f79 := liI_1
          have f80 := c_iadd i2 (1 : Int32)
          have f81 := rng32 (i2 + (1 : Int32))
          generalize hv_v82 : (i2 + (1 : Int32)) = v82 at f80 f81 ⊢
          refine Go.st (fun _ k => XS.goto X67.here hx rfl (pc0 := 75) (pc' := 49) rfl (hb hby d4_75) (by decide) (by decide) k) ?_
          show Go p e below s Q 1 4 (T67.setTop (mkF m 49 #[.val (.ref o), .val (.ref c1), .val (.ref c2), .val (.ref b5), .val (.int v82)] []))
          exact ihg54 _ (by omega) T67 h67 _ (up X67 (by decide) (by decide)) e67 N67 K67 v82 (updF R2 (f2 i2.toInt.toNat).toInt.toNat (g2 i2.toInt.toNat)) h71 h72 h73 h74 h75 h76 h77 h78 (by omega) (by first | (intro j hj; exact hpg25_1 j (by omega)) | exact own_put2 (hpg54_1) (hFI.2.2.2.2.1 _ (by omega)).2.2) (by first | (intro j hj; have := liI_0; omega) | exact own_put (hpg54_2) (hFI.2.2.2.2.1 _ (by omega)).2.2 (by omega)) rfl
        ·
          refine Go.st (fun _ k => XS.icmpYes X57.here hx rfl (pc0 := 56) (pc' := 78) rfl (hb hby d4_56) rfl (flt (nltI rfl rfl c59)).2.1 (by decide) (by decide) k) ?_
          show Go p e below s Q 1 4 (T57.setTop (mkF m 78 #[.val (.ref o), .val (.ref c1), .val (.ref c2), .val (.ref b5), .val (.int i2)] []))
          refine Go.st (fun _ k => XS.aloadN X57.here hx rfl (hb hby d4_78) rfl rfl k) ?_
          show Go p e below s Q 1 4 (T57.setTop (mkF m 79 #[.val (.ref o), .val (.ref c1), .val (.ref c2), .val (.ref b5), .val (.int i2)] [(.ref b5)]))
          exact Go.retA X57 hx hlk rfl Bd.returns rfl (hb hby d4_79) (by rw [← hQ, e57]; exact ⟨b5, (n1 + n2), R2, rfl, Ng54, (by omega), (by intro i hi; exact (hFI.2.2.2.2.2 i hi).elim (fun ⟨j, q1, q2⟩ => by simpa [q2] using hpg54_1 j (by omega)) (fun ⟨j, q1, q2⟩ => by simpa [q2] using hpg54_2 j (by omega))), Kg54, hfg54_7⟩) (by decide) (by decide)
      have f83 := liI_0
      exact lp55 _ T28 hg25 _ (up X28 (by decide) (by decide)) e28 Ng25 Kg25 (0 : Int32) R1 hfg25_0 hfg25_1 hfg25_2 hfg25_3 hfg25_4 hfg25_5 hfg25_6 hfg25_7 (by omega) (by first | (intro j hj; exact hpg25_1 j (by omega)) | exact own_put2 (hpg0_1) (hFI.2.2.2.2.1 _ (by omega)).2.2) (by first | (intro j hj; have := liI_0; omega) | exact own_put (hpg0_2) (hFI.2.2.2.2.1 _ (by omega)).2.2 (by omega)) rfl
  have f84 := liI_0
  exact lp26 _ T5 h5 _ (up X5 (by decide) (by decide)) e5 N0 K5 (0 : Int32) (fun _ => (0 : Int32)) h17 h18 h19 h20 h21 h22 h23 h24 (by omega) (by first | (intro j hj; have := liI_0; omega) | exact own_put (hpg0_1) (hFI.2.2.2.1 _ (by omega)).2.2 (by omega)) rfl
theorem pn_2 : plainName "com/example/rackwise/rackwise/SplitJoinedPinLaw" = true := by first | (simp [plainName, overriddenIn]; done) | decide +kernel
theorem liI_4 : (4 : Int32).toInt = 4 := by decide
theorem liI_7 : (7 : Int32).toInt = 7 := by decide
theorem liI_5 : (5 : Int32).toInt = 5 := by decide
theorem liI_15 : (15 : Int32).toInt = 15 := by decide
theorem liI_2 : (2 : Int32).toInt = 2 := by decide
theorem liI_8 : (8 : Int32).toInt = 8 := by decide
theorem liI_3 : (3 : Int32).toInt = 3 := by decide
theorem pd_1 : parseMethodDescriptor "([I[I)V" = some ⟨[(.array .int), (.array .int)], none⟩ := by decide +kernel
theorem pd_2 : parseMethodDescriptor "([I[I)[I" = some ⟨[(.array .int), (.array .int)], some (.array .int)⟩ := by decide +kernel
theorem ef_rm0 (m : MethodId) (x0 : Int32) (x1 : Int32) (x2 : Int32) (x3 : Int32) (x4 : Int32) : entryFrame m #[(.int x0), (.int x1), (.int x2), (.int x3), (.int x4)] maxLocals = mkF m 0 #[.val (.int x0), .val (.int x1), .val (.int x2), .val (.int x3), .val (.int x4), .unset, .unset, .unset, .unset, .unset, .unset, .unset, .unset, .unset, .unset, .unset, .unset, .unset, .unset, .unset] [] := by first | (simp [entryFrame, mkF, argsToLocals, Value.category, maxLocals]; done) | rfl
def Q0 (Z : State) (x0 : Int32) (x1 : Int32) (x2 : Int32) (x3 : Int32) (x4 : Int32) (h0 : Heap) (n0 : Nat) (vv : Option Value) (h : Heap) (LL : List Loc) : Prop := vv = some (.int (1 : Int32)) ∧ Fr n0 LL ∧ Keep h0 h []
set_option maxRecDepth 65536 in
set_option maxHeartbeats 40000000 in
theorem rm0 (l : Launch) (Z : State) (a0 : Array Value) (hw : ∀ d ∈ tables_1, d.before a0 Z = true) (ws : List Jvm.Cond) (x0 : Int32) (x1 : Int32) (x2 : Int32) (x3 : Int32) (x4 : Int32) (h0 : Heap) (n0 : Nat) (Z0 : n0 ≤ h0.size) :
    MetFree l x (head1 (Jvm.Cond.code x code maxLocals ret :: ws) room_1) (fun aa UU => aa = #[(.int x0), (.int x1), (.int x2), (.int x3), (.int x4)] ∧ Z.Warmed39 UU.vm ∧ UU.heap = h0) (fun _ _ _ _ _ => True) (fun _ UU oo UU' => ∃ vv LL, oo = .returned vv ∧ Q0 Z x0 x1 x2 x3 x4 h0 n0 vv UU'.heap LL ∧ FrameEnd UU oo UU' LL 6 22) := by
  refine MetFree.of_bodySF (plainFor_of_name pn_2) hisR ?_
  intro p e s m args below meth c s₁ Bd hml0 hP hK
  obtain ⟨rfl, hZ, hh⟩ := hP
  have hx := Bd.exec
  have hby := Bd.bytes
  have hlk : meth.locks = false := BodyLoose.notSynchronized Bd
  have hml : c.maxLocals = 20 := hml0
  have hown : s.vm.findClass "com/example/rackwise/rackwise/SplitJoinedPinLaw" = some m.cls := findClass_of_methodNamed Bd.named
  have hnm := (name_of_methodNamed Bd.named Bd.method).1
  have X0 : Stand p l e room_1 s m #[(.int x0), (.int x1), (.int x2), (.int x3), (.int x4)] below meth c s₁ [] 0 0 := Stand.of_body Bd
  have e0 : s₁.heap = h0 := by rw [← hh, Bd.state]; rfl
  have N0 := Fr.nil n0
  have K0 : Keep h0 h0 [] := Keep.refl h0 _
  refine (?_ : Go p e below s (Q0 Z x0 x1 x2 x3 x4 h0 n0) 6 22 (s₁.setTop (entryFrame m #[(.int x0), (.int x1), (.int x2), (.int x3), (.int x4)] maxLocals)))
  rw [ef_rm0]
  generalize hQ : Q0 Z x0 x1 x2 x3 x4 h0 n0 = Q
  show Go p e below s Q 6 22 (s₁.setTop (mkF m 0 #[.val (.int x0), .val (.int x1), .val (.int x2), .val (.int x3), .val (.int x4), .unset, .unset, .unset, .unset, .unset, .unset, .unset, .unset, .unset, .unset, .unset, .unset, .unset, .unset, .unset] []))
  have f1 := rng32 x0
  have f2 := rng32 x1
  have f3 := rng32 x2
  have f4 := rng32 x3
  have f5 := rng32 x4
  refine Go.st (fun _ k => XS.iloadN X0.here hx rfl (hb hby at_0) rfl k) ?_
  show Go p e below s Q 6 22 (s₁.setTop (mkF m 1 #[.val (.int x0), .val (.int x1), .val (.int x2), .val (.int x3), .val (.int x4), .unset, .unset, .unset, .unset, .unset, .unset, .unset, .unset, .unset, .unset, .unset, .unset, .unset, .unset, .unset] [(.int x0)]))
  refine Go.st (fun _ k => XS.iconst X0.here hx rfl (hb hby at_1) k) ?_
  show Go p e below s Q 6 22 (s₁.setTop (mkF m 2 #[.val (.int x0), .val (.int x1), .val (.int x2), .val (.int x3), .val (.int x4), .unset, .unset, .unset, .unset, .unset, .unset, .unset, .unset, .unset, .unset, .unset, .unset, .unset, .unset, .unset] [(.int (4 : Int32)), (.int x0)]))
  refine Go.st (fun _ k => XS.iushr X0.here hx rfl (hb hby at_2) rfl k) ?_
  show Go p e below s Q 6 22 (s₁.setTop (mkF m 3 #[.val (.int x0), .val (.int x1), .val (.int x2), .val (.int x3), .val (.int x4), .unset, .unset, .unset, .unset, .unset, .unset, .unset, .unset, .unset, .unset, .unset, .unset, .unset, .unset, .unset] [(.int ((x0.toUInt32 >>> ((4 : Int32) &&& 31).toUInt32).toInt32))]))
  refine Go.st (fun _ k => XS.bipush X0.here hx rfl (hb hby at_3) k) ?_
  show Go p e below s Q 6 22 (s₁.setTop (mkF m 5 #[.val (.int x0), .val (.int x1), .val (.int x2), .val (.int x3), .val (.int x4), .unset, .unset, .unset, .unset, .unset, .unset, .unset, .unset, .unset, .unset, .unset, .unset, .unset, .unset, .unset] [(.int (7 : Int32)), (.int ((x0.toUInt32 >>> ((4 : Int32) &&& 31).toUInt32).toInt32))]))
  refine Go.st (fun _ k => XS.iand X0.here hx rfl (hb hby at_5) rfl k) ?_
  show Go p e below s Q 6 22 (s₁.setTop (mkF m 6 #[.val (.int x0), .val (.int x1), .val (.int x2), .val (.int x3), .val (.int x4), .unset, .unset, .unset, .unset, .unset, .unset, .unset, .unset, .unset, .unset, .unset, .unset, .unset, .unset, .unset] [(.int (((x0.toUInt32 >>> ((4 : Int32) &&& 31).toUInt32).toInt32) &&& (7 : Int32)))]))
  refine Go.st (fun _ k => XS.iconst X0.here hx rfl (hb hby at_6) k) ?_
  show Go p e below s Q 6 22 (s₁.setTop (mkF m 7 #[.val (.int x0), .val (.int x1), .val (.int x2), .val (.int x3), .val (.int x4), .unset, .unset, .unset, .unset, .unset, .unset, .unset, .unset, .unset, .unset, .unset, .unset, .unset, .unset, .unset] [(.int (5 : Int32)), (.int (((x0.toUInt32 >>> ((4 : Int32) &&& 31).toUInt32).toInt32) &&& (7 : Int32)))]))
  refine Go.st (fun _ k => iremM X0 hx rfl (hb hby at_7) rfl (by decide) k) ?_
  show Go p e below s Q 6 22 (s₁.setTop (mkF m 8 #[.val (.int x0), .val (.int x1), .val (.int x2), .val (.int x3), .val (.int x4), .unset, .unset, .unset, .unset, .unset, .unset, .unset, .unset, .unset, .unset, .unset, .unset, .unset, .unset, .unset] [(.int ((((x0.toUInt32 >>> ((4 : Int32) &&& 31).toUInt32).toInt32) &&& (7 : Int32)) % (5 : Int32)))]))
  refine Go.st (fun _ k => XS.istore X0.here hx rfl (hb hby at_8) rfl (l' := #[.val (.int x0), .val (.int x1), .val (.int x2), .val (.int x3), .val (.int x4), .val (.int ((((x0.toUInt32 >>> ((4 : Int32) &&& 31).toUInt32).toInt32) &&& (7 : Int32)) % (5 : Int32))), .unset, .unset, .unset, .unset, .unset, .unset, .unset, .unset, .unset, .unset, .unset, .unset, .unset, .unset]) rfl k) ?_
  show Go p e below s Q 6 22 (s₁.setTop (mkF m 10 #[.val (.int x0), .val (.int x1), .val (.int x2), .val (.int x3), .val (.int x4), .val (.int ((((x0.toUInt32 >>> ((4 : Int32) &&& 31).toUInt32).toInt32) &&& (7 : Int32)) % (5 : Int32))), .unset, .unset, .unset, .unset, .unset, .unset, .unset, .unset, .unset, .unset, .unset, .unset, .unset, .unset] []))
  have f6 := liI_4
  have f7 : ((x0.toUInt32 >>> ((4 : Int32) &&& 31).toUInt32).toInt32).toInt = (x0.toInt % 4294967296) / 16 := c_iushr x0 (4 : Int32) 4 (by decide) (by decide)
  have f8 := rng32 ((x0.toUInt32 >>> ((4 : Int32) &&& 31).toUInt32).toInt32)
  have f9 := liI_7
  have f10 : (((x0.toUInt32 >>> ((4 : Int32) &&& 31).toUInt32).toInt32) &&& (7 : Int32)).toInt = ((x0.toUInt32 >>> ((4 : Int32) &&& 31).toUInt32).toInt32).toInt % 8 := c_mask ((x0.toUInt32 >>> ((4 : Int32) &&& 31).toUInt32).toInt32) (7 : Int32) 3 (by decide) (by decide)
  have f11 := liI_5
  have f12 := c_irem (((x0.toUInt32 >>> ((4 : Int32) &&& 31).toUInt32).toInt32) &&& (7 : Int32)) (5 : Int32) 5 (by decide)
  have f13 := rng32 ((((x0.toUInt32 >>> ((4 : Int32) &&& 31).toUInt32).toInt32) &&& (7 : Int32)) % (5 : Int32))
  generalize hv_v14 : ((((x0.toUInt32 >>> ((4 : Int32) &&& 31).toUInt32).toInt32) &&& (7 : Int32)) % (5 : Int32)) = v14 at f12 f13 ⊢
  refine Go.st (fun _ k => XS.iloadN X0.here hx rfl (hb hby at_10) rfl k) ?_
  show Go p e below s Q 6 22 (s₁.setTop (mkF m 11 #[.val (.int x0), .val (.int x1), .val (.int x2), .val (.int x3), .val (.int x4), .val (.int v14), .unset, .unset, .unset, .unset, .unset, .unset, .unset, .unset, .unset, .unset, .unset, .unset, .unset, .unset] [(.int x0)]))
  refine Go.st (fun _ k => XS.bipush X0.here hx rfl (hb hby at_11) k) ?_
  show Go p e below s Q 6 22 (s₁.setTop (mkF m 13 #[.val (.int x0), .val (.int x1), .val (.int x2), .val (.int x3), .val (.int x4), .val (.int v14), .unset, .unset, .unset, .unset, .unset, .unset, .unset, .unset, .unset, .unset, .unset, .unset, .unset, .unset] [(.int (15 : Int32)), (.int x0)]))
  refine Go.st (fun _ k => XS.iand X0.here hx rfl (hb hby at_13) rfl k) ?_
  show Go p e below s Q 6 22 (s₁.setTop (mkF m 14 #[.val (.int x0), .val (.int x1), .val (.int x2), .val (.int x3), .val (.int x4), .val (.int v14), .unset, .unset, .unset, .unset, .unset, .unset, .unset, .unset, .unset, .unset, .unset, .unset, .unset, .unset] [(.int (x0 &&& (15 : Int32)))]))
  refine Go.st (fun _ k => XS.istore X0.here hx rfl (hb hby at_14) rfl (l' := #[.val (.int x0), .val (.int x1), .val (.int x2), .val (.int x3), .val (.int x4), .val (.int v14), .val (.int (x0 &&& (15 : Int32))), .unset, .unset, .unset, .unset, .unset, .unset, .unset, .unset, .unset, .unset, .unset, .unset, .unset]) rfl k) ?_
  show Go p e below s Q 6 22 (s₁.setTop (mkF m 16 #[.val (.int x0), .val (.int x1), .val (.int x2), .val (.int x3), .val (.int x4), .val (.int v14), .val (.int (x0 &&& (15 : Int32))), .unset, .unset, .unset, .unset, .unset, .unset, .unset, .unset, .unset, .unset, .unset, .unset, .unset] []))
  have f15 := liI_15
  have f16 : (x0 &&& (15 : Int32)).toInt = x0.toInt % 16 := c_mask x0 (15 : Int32) 4 (by decide) (by decide)
  generalize hv_v17 : (x0 &&& (15 : Int32)) = v17 at f16 ⊢
  refine Go.st (fun _ k => XS.iload X0.here hx rfl (hb hby at_16) rfl k) ?_
  show Go p e below s Q 6 22 (s₁.setTop (mkF m 18 #[.val (.int x0), .val (.int x1), .val (.int x2), .val (.int x3), .val (.int x4), .val (.int v14), .val (.int v17), .unset, .unset, .unset, .unset, .unset, .unset, .unset, .unset, .unset, .unset, .unset, .unset, .unset] [(.int v17)]))
  refine Go.st (fun _ k => XS.iconst X0.here hx rfl (hb hby at_18) k) ?_
  show Go p e below s Q 6 22 (s₁.setTop (mkF m 19 #[.val (.int x0), .val (.int x1), .val (.int x2), .val (.int x3), .val (.int x4), .val (.int v14), .val (.int v17), .unset, .unset, .unset, .unset, .unset, .unset, .unset, .unset, .unset, .unset, .unset, .unset, .unset] [(.int (1 : Int32)), (.int v17)]))
  refine Go.st (fun _ k => XS.iand X0.here hx rfl (hb hby at_19) rfl k) ?_
  show Go p e below s Q 6 22 (s₁.setTop (mkF m 20 #[.val (.int x0), .val (.int x1), .val (.int x2), .val (.int x3), .val (.int x4), .val (.int v14), .val (.int v17), .unset, .unset, .unset, .unset, .unset, .unset, .unset, .unset, .unset, .unset, .unset, .unset, .unset] [(.int (v17 &&& (1 : Int32)))]))
  suffices J19 : ∀ (j18 : Int32), (j18.toInt = 0 ∨ j18.toInt = 1) → Go p e below s Q 6 22 (s₁.setTop (mkF m 28 #[.val (.int x0), .val (.int x1), .val (.int x2), .val (.int x3), .val (.int x4), .val (.int v14), .val (.int v17), .unset, .unset, .unset, .unset, .unset, .unset, .unset, .unset, .unset, .unset, .unset, .unset, .unset] [(.int j18)])) by
    have f21 := liI_1
    have f22 : (v17 &&& (1 : Int32)).toInt = v17.toInt % 2 := c_mask v17 (1 : Int32) 1 (by decide) (by decide)
    have f23 := liI_0
    by_cases c24 : (v17 &&& (1 : Int32)).toInt = 0
    ·
      refine Go.st (fun _ k => XS.ifYes X0.here hx rfl (pc0 := 20) (pc' := 27) rfl (hb hby at_20) rfl ((if0 _ _).trans (teq (eqI rfl liI_0 c24)).1) (by decide) (by decide) k) ?_
      show Go p e below s Q 6 22 (s₁.setTop (mkF m 27 #[.val (.int x0), .val (.int x1), .val (.int x2), .val (.int x3), .val (.int x4), .val (.int v14), .val (.int v17), .unset, .unset, .unset, .unset, .unset, .unset, .unset, .unset, .unset, .unset, .unset, .unset, .unset] []))
      refine Go.st (fun _ k => XS.iconst X0.here hx rfl (hb hby at_27) k) ?_
      show Go p e below s Q 6 22 (s₁.setTop (mkF m 28 #[.val (.int x0), .val (.int x1), .val (.int x2), .val (.int x3), .val (.int x4), .val (.int v14), .val (.int v17), .unset, .unset, .unset, .unset, .unset, .unset, .unset, .unset, .unset, .unset, .unset, .unset, .unset] [(.int (0 : Int32))]))
      exact J19 (0 : Int32) (by omega)
    ·
      refine Go.st (fun _ k => XS.ifNo X0.here hx rfl (hb hby at_20) rfl ((if0 _ _).trans (feq (neI rfl liI_0 c24)).1) k) ?_
      show Go p e below s Q 6 22 (s₁.setTop (mkF m 23 #[.val (.int x0), .val (.int x1), .val (.int x2), .val (.int x3), .val (.int x4), .val (.int v14), .val (.int v17), .unset, .unset, .unset, .unset, .unset, .unset, .unset, .unset, .unset, .unset, .unset, .unset, .unset] []))
      refine Go.st (fun _ k => XS.iconst X0.here hx rfl (hb hby at_23) k) ?_
      show Go p e below s Q 6 22 (s₁.setTop (mkF m 24 #[.val (.int x0), .val (.int x1), .val (.int x2), .val (.int x3), .val (.int x4), .val (.int v14), .val (.int v17), .unset, .unset, .unset, .unset, .unset, .unset, .unset, .unset, .unset, .unset, .unset, .unset, .unset] [(.int (1 : Int32))]))
      refine Go.st (fun _ k => XS.goto X0.here hx rfl (pc0 := 24) (pc' := 28) rfl (hb hby at_24) (by decide) (by decide) k) ?_
      show Go p e below s Q 6 22 (s₁.setTop (mkF m 28 #[.val (.int x0), .val (.int x1), .val (.int x2), .val (.int x3), .val (.int x4), .val (.int v14), .val (.int v17), .unset, .unset, .unset, .unset, .unset, .unset, .unset, .unset, .unset, .unset, .unset, .unset, .unset] [(.int (1 : Int32))]))
      exact J19 (1 : Int32) (by omega)
  intro j18 f25
  have f26 := rng32 j18
  refine Go.st (fun _ k => XS.istore X0.here hx rfl (hb hby at_28) rfl (l' := #[.val (.int x0), .val (.int x1), .val (.int x2), .val (.int x3), .val (.int x4), .val (.int v14), .val (.int v17), .val (.int j18), .unset, .unset, .unset, .unset, .unset, .unset, .unset, .unset, .unset, .unset, .unset, .unset]) rfl k) ?_
  show Go p e below s Q 6 22 (s₁.setTop (mkF m 30 #[.val (.int x0), .val (.int x1), .val (.int x2), .val (.int x3), .val (.int x4), .val (.int v14), .val (.int v17), .val (.int j18), .unset, .unset, .unset, .unset, .unset, .unset, .unset, .unset, .unset, .unset, .unset, .unset] []))
  refine Go.st (fun _ k => XS.iload X0.here hx rfl (hb hby at_30) rfl k) ?_
  show Go p e below s Q 6 22 (s₁.setTop (mkF m 32 #[.val (.int x0), .val (.int x1), .val (.int x2), .val (.int x3), .val (.int x4), .val (.int v14), .val (.int v17), .val (.int j18), .unset, .unset, .unset, .unset, .unset, .unset, .unset, .unset, .unset, .unset, .unset, .unset] [(.int v17)]))
  refine Go.st (fun _ k => XS.iconst X0.here hx rfl (hb hby at_32) k) ?_
  show Go p e below s Q 6 22 (s₁.setTop (mkF m 33 #[.val (.int x0), .val (.int x1), .val (.int x2), .val (.int x3), .val (.int x4), .val (.int v14), .val (.int v17), .val (.int j18), .unset, .unset, .unset, .unset, .unset, .unset, .unset, .unset, .unset, .unset, .unset, .unset] [(.int (2 : Int32)), (.int v17)]))
  refine Go.st (fun _ k => XS.iand X0.here hx rfl (hb hby at_33) rfl k) ?_
  show Go p e below s Q 6 22 (s₁.setTop (mkF m 34 #[.val (.int x0), .val (.int x1), .val (.int x2), .val (.int x3), .val (.int x4), .val (.int v14), .val (.int v17), .val (.int j18), .unset, .unset, .unset, .unset, .unset, .unset, .unset, .unset, .unset, .unset, .unset, .unset] [(.int (v17 &&& (2 : Int32)))]))
  suffices J28 : ∀ (j27 : Int32), (j27.toInt = 0 ∨ j27.toInt = 1) → Go p e below s Q 6 22 (s₁.setTop (mkF m 42 #[.val (.int x0), .val (.int x1), .val (.int x2), .val (.int x3), .val (.int x4), .val (.int v14), .val (.int v17), .val (.int j18), .unset, .unset, .unset, .unset, .unset, .unset, .unset, .unset, .unset, .unset, .unset, .unset] [(.int j27)])) by
    have f30 := liI_2
    have f31 := c_and v17 (2 : Int32) (by decide)
    have f32 := liI_0
    by_cases c33 : (v17 &&& (2 : Int32)).toInt = 0
    ·
      refine Go.st (fun _ k => XS.ifYes X0.here hx rfl (pc0 := 34) (pc' := 41) rfl (hb hby at_34) rfl ((if0 _ _).trans (teq (eqI rfl liI_0 c33)).1) (by decide) (by decide) k) ?_
      show Go p e below s Q 6 22 (s₁.setTop (mkF m 41 #[.val (.int x0), .val (.int x1), .val (.int x2), .val (.int x3), .val (.int x4), .val (.int v14), .val (.int v17), .val (.int j18), .unset, .unset, .unset, .unset, .unset, .unset, .unset, .unset, .unset, .unset, .unset, .unset] []))
      refine Go.st (fun _ k => XS.iconst X0.here hx rfl (hb hby at_41) k) ?_
      show Go p e below s Q 6 22 (s₁.setTop (mkF m 42 #[.val (.int x0), .val (.int x1), .val (.int x2), .val (.int x3), .val (.int x4), .val (.int v14), .val (.int v17), .val (.int j18), .unset, .unset, .unset, .unset, .unset, .unset, .unset, .unset, .unset, .unset, .unset, .unset] [(.int (0 : Int32))]))
      exact J28 (0 : Int32) (by omega)
    ·
      refine Go.st (fun _ k => XS.ifNo X0.here hx rfl (hb hby at_34) rfl ((if0 _ _).trans (feq (neI rfl liI_0 c33)).1) k) ?_
      show Go p e below s Q 6 22 (s₁.setTop (mkF m 37 #[.val (.int x0), .val (.int x1), .val (.int x2), .val (.int x3), .val (.int x4), .val (.int v14), .val (.int v17), .val (.int j18), .unset, .unset, .unset, .unset, .unset, .unset, .unset, .unset, .unset, .unset, .unset, .unset] []))
      refine Go.st (fun _ k => XS.iconst X0.here hx rfl (hb hby at_37) k) ?_
      show Go p e below s Q 6 22 (s₁.setTop (mkF m 38 #[.val (.int x0), .val (.int x1), .val (.int x2), .val (.int x3), .val (.int x4), .val (.int v14), .val (.int v17), .val (.int j18), .unset, .unset, .unset, .unset, .unset, .unset, .unset, .unset, .unset, .unset, .unset, .unset] [(.int (1 : Int32))]))
      refine Go.st (fun _ k => XS.goto X0.here hx rfl (pc0 := 38) (pc' := 42) rfl (hb hby at_38) (by decide) (by decide) k) ?_
      show Go p e below s Q 6 22 (s₁.setTop (mkF m 42 #[.val (.int x0), .val (.int x1), .val (.int x2), .val (.int x3), .val (.int x4), .val (.int v14), .val (.int v17), .val (.int j18), .unset, .unset, .unset, .unset, .unset, .unset, .unset, .unset, .unset, .unset, .unset, .unset] [(.int (1 : Int32))]))
      have f34 := liI_1
      exact J28 (1 : Int32) (by omega)
  intro j27 f35
  have f36 := rng32 j27
  refine Go.st (fun _ k => XS.istore X0.here hx rfl (hb hby at_42) rfl (l' := #[.val (.int x0), .val (.int x1), .val (.int x2), .val (.int x3), .val (.int x4), .val (.int v14), .val (.int v17), .val (.int j18), .val (.int j27), .unset, .unset, .unset, .unset, .unset, .unset, .unset, .unset, .unset, .unset, .unset]) rfl k) ?_
  show Go p e below s Q 6 22 (s₁.setTop (mkF m 44 #[.val (.int x0), .val (.int x1), .val (.int x2), .val (.int x3), .val (.int x4), .val (.int v14), .val (.int v17), .val (.int j18), .val (.int j27), .unset, .unset, .unset, .unset, .unset, .unset, .unset, .unset, .unset, .unset, .unset] []))
  refine Go.st (fun _ k => XS.iload X0.here hx rfl (hb hby at_44) rfl k) ?_
  show Go p e below s Q 6 22 (s₁.setTop (mkF m 46 #[.val (.int x0), .val (.int x1), .val (.int x2), .val (.int x3), .val (.int x4), .val (.int v14), .val (.int v17), .val (.int j18), .val (.int j27), .unset, .unset, .unset, .unset, .unset, .unset, .unset, .unset, .unset, .unset, .unset] [(.int v17)]))
  refine Go.st (fun _ k => XS.iconst X0.here hx rfl (hb hby at_46) k) ?_
  show Go p e below s Q 6 22 (s₁.setTop (mkF m 47 #[.val (.int x0), .val (.int x1), .val (.int x2), .val (.int x3), .val (.int x4), .val (.int v14), .val (.int v17), .val (.int j18), .val (.int j27), .unset, .unset, .unset, .unset, .unset, .unset, .unset, .unset, .unset, .unset, .unset] [(.int (4 : Int32)), (.int v17)]))
  refine Go.st (fun _ k => XS.iand X0.here hx rfl (hb hby at_47) rfl k) ?_
  show Go p e below s Q 6 22 (s₁.setTop (mkF m 48 #[.val (.int x0), .val (.int x1), .val (.int x2), .val (.int x3), .val (.int x4), .val (.int v14), .val (.int v17), .val (.int j18), .val (.int j27), .unset, .unset, .unset, .unset, .unset, .unset, .unset, .unset, .unset, .unset, .unset] [(.int (v17 &&& (4 : Int32)))]))
  suffices J38 : ∀ (j37 : Int32), (j37.toInt = 0 ∨ j37.toInt = 1) → Go p e below s Q 6 22 (s₁.setTop (mkF m 56 #[.val (.int x0), .val (.int x1), .val (.int x2), .val (.int x3), .val (.int x4), .val (.int v14), .val (.int v17), .val (.int j18), .val (.int j27), .unset, .unset, .unset, .unset, .unset, .unset, .unset, .unset, .unset, .unset, .unset] [(.int j37)])) by
    have f40 := c_and v17 (4 : Int32) (by decide)
    have f41 := liI_0
    by_cases c42 : (v17 &&& (4 : Int32)).toInt = 0
    ·
      refine Go.st (fun _ k => XS.ifYes X0.here hx rfl (pc0 := 48) (pc' := 55) rfl (hb hby at_48) rfl ((if0 _ _).trans (teq (eqI rfl liI_0 c42)).1) (by decide) (by decide) k) ?_
      show Go p e below s Q 6 22 (s₁.setTop (mkF m 55 #[.val (.int x0), .val (.int x1), .val (.int x2), .val (.int x3), .val (.int x4), .val (.int v14), .val (.int v17), .val (.int j18), .val (.int j27), .unset, .unset, .unset, .unset, .unset, .unset, .unset, .unset, .unset, .unset, .unset] []))
      refine Go.st (fun _ k => XS.iconst X0.here hx rfl (hb hby at_55) k) ?_
      show Go p e below s Q 6 22 (s₁.setTop (mkF m 56 #[.val (.int x0), .val (.int x1), .val (.int x2), .val (.int x3), .val (.int x4), .val (.int v14), .val (.int v17), .val (.int j18), .val (.int j27), .unset, .unset, .unset, .unset, .unset, .unset, .unset, .unset, .unset, .unset, .unset] [(.int (0 : Int32))]))
      exact J38 (0 : Int32) (by omega)
    ·
      refine Go.st (fun _ k => XS.ifNo X0.here hx rfl (hb hby at_48) rfl ((if0 _ _).trans (feq (neI rfl liI_0 c42)).1) k) ?_
      show Go p e below s Q 6 22 (s₁.setTop (mkF m 51 #[.val (.int x0), .val (.int x1), .val (.int x2), .val (.int x3), .val (.int x4), .val (.int v14), .val (.int v17), .val (.int j18), .val (.int j27), .unset, .unset, .unset, .unset, .unset, .unset, .unset, .unset, .unset, .unset, .unset] []))
      refine Go.st (fun _ k => XS.iconst X0.here hx rfl (hb hby at_51) k) ?_
      show Go p e below s Q 6 22 (s₁.setTop (mkF m 52 #[.val (.int x0), .val (.int x1), .val (.int x2), .val (.int x3), .val (.int x4), .val (.int v14), .val (.int v17), .val (.int j18), .val (.int j27), .unset, .unset, .unset, .unset, .unset, .unset, .unset, .unset, .unset, .unset, .unset] [(.int (1 : Int32))]))
      refine Go.st (fun _ k => XS.goto X0.here hx rfl (pc0 := 52) (pc' := 56) rfl (hb hby at_52) (by decide) (by decide) k) ?_
      show Go p e below s Q 6 22 (s₁.setTop (mkF m 56 #[.val (.int x0), .val (.int x1), .val (.int x2), .val (.int x3), .val (.int x4), .val (.int v14), .val (.int v17), .val (.int j18), .val (.int j27), .unset, .unset, .unset, .unset, .unset, .unset, .unset, .unset, .unset, .unset, .unset] [(.int (1 : Int32))]))
      have f43 := liI_1
      exact J38 (1 : Int32) (by omega)
  intro j37 f44
  have f45 := rng32 j37
  refine Go.st (fun _ k => XS.istore X0.here hx rfl (hb hby at_56) rfl (l' := #[.val (.int x0), .val (.int x1), .val (.int x2), .val (.int x3), .val (.int x4), .val (.int v14), .val (.int v17), .val (.int j18), .val (.int j27), .val (.int j37), .unset, .unset, .unset, .unset, .unset, .unset, .unset, .unset, .unset, .unset]) rfl k) ?_
  show Go p e below s Q 6 22 (s₁.setTop (mkF m 58 #[.val (.int x0), .val (.int x1), .val (.int x2), .val (.int x3), .val (.int x4), .val (.int v14), .val (.int v17), .val (.int j18), .val (.int j27), .val (.int j37), .unset, .unset, .unset, .unset, .unset, .unset, .unset, .unset, .unset, .unset] []))
  refine Go.st (fun _ k => XS.iload X0.here hx rfl (hb hby at_58) rfl k) ?_
  show Go p e below s Q 6 22 (s₁.setTop (mkF m 60 #[.val (.int x0), .val (.int x1), .val (.int x2), .val (.int x3), .val (.int x4), .val (.int v14), .val (.int v17), .val (.int j18), .val (.int j27), .val (.int j37), .unset, .unset, .unset, .unset, .unset, .unset, .unset, .unset, .unset, .unset] [(.int v17)]))
  refine Go.st (fun _ k => XS.bipush X0.here hx rfl (hb hby at_60) k) ?_
  show Go p e below s Q 6 22 (s₁.setTop (mkF m 62 #[.val (.int x0), .val (.int x1), .val (.int x2), .val (.int x3), .val (.int x4), .val (.int v14), .val (.int v17), .val (.int j18), .val (.int j27), .val (.int j37), .unset, .unset, .unset, .unset, .unset, .unset, .unset, .unset, .unset, .unset] [(.int (8 : Int32)), (.int v17)]))
  refine Go.st (fun _ k => XS.iand X0.here hx rfl (hb hby at_62) rfl k) ?_
  show Go p e below s Q 6 22 (s₁.setTop (mkF m 63 #[.val (.int x0), .val (.int x1), .val (.int x2), .val (.int x3), .val (.int x4), .val (.int v14), .val (.int v17), .val (.int j18), .val (.int j27), .val (.int j37), .unset, .unset, .unset, .unset, .unset, .unset, .unset, .unset, .unset, .unset] [(.int (v17 &&& (8 : Int32)))]))
  suffices J47 : ∀ (j46 : Int32), (j46.toInt = 0 ∨ j46.toInt = 1) → Go p e below s Q 6 22 (s₁.setTop (mkF m 71 #[.val (.int x0), .val (.int x1), .val (.int x2), .val (.int x3), .val (.int x4), .val (.int v14), .val (.int v17), .val (.int j18), .val (.int j27), .val (.int j37), .unset, .unset, .unset, .unset, .unset, .unset, .unset, .unset, .unset, .unset] [(.int j46)])) by
    have f49 := liI_8
    have f50 := c_and v17 (8 : Int32) (by decide)
    have f51 := liI_0
    by_cases c52 : (v17 &&& (8 : Int32)).toInt = 0
    ·
      refine Go.st (fun _ k => XS.ifYes X0.here hx rfl (pc0 := 63) (pc' := 70) rfl (hb hby at_63) rfl ((if0 _ _).trans (teq (eqI rfl liI_0 c52)).1) (by decide) (by decide) k) ?_
      show Go p e below s Q 6 22 (s₁.setTop (mkF m 70 #[.val (.int x0), .val (.int x1), .val (.int x2), .val (.int x3), .val (.int x4), .val (.int v14), .val (.int v17), .val (.int j18), .val (.int j27), .val (.int j37), .unset, .unset, .unset, .unset, .unset, .unset, .unset, .unset, .unset, .unset] []))
      refine Go.st (fun _ k => XS.iconst X0.here hx rfl (hb hby at_70) k) ?_
      show Go p e below s Q 6 22 (s₁.setTop (mkF m 71 #[.val (.int x0), .val (.int x1), .val (.int x2), .val (.int x3), .val (.int x4), .val (.int v14), .val (.int v17), .val (.int j18), .val (.int j27), .val (.int j37), .unset, .unset, .unset, .unset, .unset, .unset, .unset, .unset, .unset, .unset] [(.int (0 : Int32))]))
      exact J47 (0 : Int32) (by omega)
    ·
      refine Go.st (fun _ k => XS.ifNo X0.here hx rfl (hb hby at_63) rfl ((if0 _ _).trans (feq (neI rfl liI_0 c52)).1) k) ?_
      show Go p e below s Q 6 22 (s₁.setTop (mkF m 66 #[.val (.int x0), .val (.int x1), .val (.int x2), .val (.int x3), .val (.int x4), .val (.int v14), .val (.int v17), .val (.int j18), .val (.int j27), .val (.int j37), .unset, .unset, .unset, .unset, .unset, .unset, .unset, .unset, .unset, .unset] []))
      refine Go.st (fun _ k => XS.iconst X0.here hx rfl (hb hby at_66) k) ?_
      show Go p e below s Q 6 22 (s₁.setTop (mkF m 67 #[.val (.int x0), .val (.int x1), .val (.int x2), .val (.int x3), .val (.int x4), .val (.int v14), .val (.int v17), .val (.int j18), .val (.int j27), .val (.int j37), .unset, .unset, .unset, .unset, .unset, .unset, .unset, .unset, .unset, .unset] [(.int (1 : Int32))]))
      refine Go.st (fun _ k => XS.goto X0.here hx rfl (pc0 := 67) (pc' := 71) rfl (hb hby at_67) (by decide) (by decide) k) ?_
      show Go p e below s Q 6 22 (s₁.setTop (mkF m 71 #[.val (.int x0), .val (.int x1), .val (.int x2), .val (.int x3), .val (.int x4), .val (.int v14), .val (.int v17), .val (.int j18), .val (.int j27), .val (.int j37), .unset, .unset, .unset, .unset, .unset, .unset, .unset, .unset, .unset, .unset] [(.int (1 : Int32))]))
      have f53 := liI_1
      exact J47 (1 : Int32) (by omega)
  intro j46 f54
  have f55 := rng32 j46
  refine Go.st (fun _ k => XS.istore X0.here hx rfl (hb hby at_71) rfl (l' := #[.val (.int x0), .val (.int x1), .val (.int x2), .val (.int x3), .val (.int x4), .val (.int v14), .val (.int v17), .val (.int j18), .val (.int j27), .val (.int j37), .val (.int j46), .unset, .unset, .unset, .unset, .unset, .unset, .unset, .unset, .unset]) rfl k) ?_
  show Go p e below s Q 6 22 (s₁.setTop (mkF m 73 #[.val (.int x0), .val (.int x1), .val (.int x2), .val (.int x3), .val (.int x4), .val (.int v14), .val (.int v17), .val (.int j18), .val (.int j27), .val (.int j37), .val (.int j46), .unset, .unset, .unset, .unset, .unset, .unset, .unset, .unset, .unset] []))
  refine Go.st (fun _ k => XS.iconst X0.here hx rfl (hb hby at_73) k) ?_
  show Go p e below s Q 6 22 (s₁.setTop (mkF m 74 #[.val (.int x0), .val (.int x1), .val (.int x2), .val (.int x3), .val (.int x4), .val (.int v14), .val (.int v17), .val (.int j18), .val (.int j27), .val (.int j37), .val (.int j46), .unset, .unset, .unset, .unset, .unset, .unset, .unset, .unset, .unset] [(.int (0 : Int32))]))
  refine Go.st (fun _ k => XS.istore X0.here hx rfl (hb hby at_74) rfl (l' := #[.val (.int x0), .val (.int x1), .val (.int x2), .val (.int x3), .val (.int x4), .val (.int v14), .val (.int v17), .val (.int j18), .val (.int j27), .val (.int j37), .val (.int j46), .val (.int (0 : Int32)), .unset, .unset, .unset, .unset, .unset, .unset, .unset, .unset]) rfl k) ?_
  show Go p e below s Q 6 22 (s₁.setTop (mkF m 76 #[.val (.int x0), .val (.int x1), .val (.int x2), .val (.int x3), .val (.int x4), .val (.int v14), .val (.int v17), .val (.int j18), .val (.int j27), .val (.int j37), .val (.int j46), .val (.int (0 : Int32)), .unset, .unset, .unset, .unset, .unset, .unset, .unset, .unset] []))
  refine Go.st (fun _ k => XS.iload X0.here hx rfl (hb hby at_76) rfl k) ?_
  show Go p e below s Q 6 22 (s₁.setTop (mkF m 78 #[.val (.int x0), .val (.int x1), .val (.int x2), .val (.int x3), .val (.int x4), .val (.int v14), .val (.int v17), .val (.int j18), .val (.int j27), .val (.int j37), .val (.int j46), .val (.int (0 : Int32)), .unset, .unset, .unset, .unset, .unset, .unset, .unset, .unset] [(.int v14)]))
  suffices J57 : ∀ (j56 : Int32), ((0 < v14.toInt ∧ ¬ j18.toInt = 0 ∧ j56.toInt = 0 + 1) ∨ (¬ (0 < v14.toInt ∧ ¬ j18.toInt = 0) ∧ j56.toInt = 0)) → Go p e below s Q 6 22 (s₁.setTop (mkF m 89 #[.val (.int x0), .val (.int x1), .val (.int x2), .val (.int x3), .val (.int x4), .val (.int v14), .val (.int v17), .val (.int j18), .val (.int j27), .val (.int j37), .val (.int j46), .val (.int j56), .unset, .unset, .unset, .unset, .unset, .unset, .unset, .unset] [])) by
    have f59 := liI_0
    by_cases c60 : 0 < v14.toInt
    ·
      refine Go.st (fun _ k => XS.ifNo X0.here hx rfl (hb hby at_78) rfl ((if0 _ _).trans (tlt (ltI liI_0 rfl c60)).2.2.2) k) ?_
      show Go p e below s Q 6 22 (s₁.setTop (mkF m 81 #[.val (.int x0), .val (.int x1), .val (.int x2), .val (.int x3), .val (.int x4), .val (.int v14), .val (.int v17), .val (.int j18), .val (.int j27), .val (.int j37), .val (.int j46), .val (.int (0 : Int32)), .unset, .unset, .unset, .unset, .unset, .unset, .unset, .unset] []))
      refine Go.st (fun _ k => XS.iload X0.here hx rfl (hb hby at_81) rfl k) ?_
      show Go p e below s Q 6 22 (s₁.setTop (mkF m 83 #[.val (.int x0), .val (.int x1), .val (.int x2), .val (.int x3), .val (.int x4), .val (.int v14), .val (.int v17), .val (.int j18), .val (.int j27), .val (.int j37), .val (.int j46), .val (.int (0 : Int32)), .unset, .unset, .unset, .unset, .unset, .unset, .unset, .unset] [(.int j18)]))
      by_cases c61 : j18.toInt = 0
      ·
        refine Go.st (fun _ k => XS.ifYes X0.here hx rfl (pc0 := 83) (pc' := 89) rfl (hb hby at_83) rfl ((if0 _ _).trans (teq (eqI rfl liI_0 c61)).1) (by decide) (by decide) k) ?_
        show Go p e below s Q 6 22 (s₁.setTop (mkF m 89 #[.val (.int x0), .val (.int x1), .val (.int x2), .val (.int x3), .val (.int x4), .val (.int v14), .val (.int v17), .val (.int j18), .val (.int j27), .val (.int j37), .val (.int j46), .val (.int (0 : Int32)), .unset, .unset, .unset, .unset, .unset, .unset, .unset, .unset] []))
        exact J57 (0 : Int32) (by omega)
      ·
        refine Go.st (fun _ k => XS.ifNo X0.here hx rfl (hb hby at_83) rfl ((if0 _ _).trans (feq (neI rfl liI_0 c61)).1) k) ?_
        show Go p e below s Q 6 22 (s₁.setTop (mkF m 86 #[.val (.int x0), .val (.int x1), .val (.int x2), .val (.int x3), .val (.int x4), .val (.int v14), .val (.int v17), .val (.int j18), .val (.int j27), .val (.int j37), .val (.int j46), .val (.int (0 : Int32)), .unset, .unset, .unset, .unset, .unset, .unset, .unset, .unset] []))
        refine Go.st (fun _ k => XS.iinc X0.here hx rfl (hb hby at_86) rfl (l' := #[.val (.int x0), .val (.int x1), .val (.int x2), .val (.int x3), .val (.int x4), .val (.int v14), .val (.int v17), .val (.int j18), .val (.int j27), .val (.int j37), .val (.int j46), .val (.int ((0 : Int32) + (1 : Int32))), .unset, .unset, .unset, .unset, .unset, .unset, .unset, .unset]) rfl k) ?_
        show Go p e below s Q 6 22 (s₁.setTop (mkF m 89 #[.val (.int x0), .val (.int x1), .val (.int x2), .val (.int x3), .val (.int x4), .val (.int v14), .val (.int v17), .val (.int j18), .val (.int j27), .val (.int j37), .val (.int j46), .val (.int ((0 : Int32) + (1 : Int32))), .unset, .unset, .unset, .unset, .unset, .unset, .unset, .unset] []))
        have f62 := liI_1
        have f63 := c_iadd (0 : Int32) (1 : Int32)
        have f64 := rng32 ((0 : Int32) + (1 : Int32))
        exact J57 ((0 : Int32) + (1 : Int32)) (by omega)
    ·
      refine Go.st (fun _ k => XS.ifYes X0.here hx rfl (pc0 := 78) (pc' := 89) rfl (hb hby at_78) rfl ((if0 _ _).trans (flt (nltI liI_0 rfl c60)).2.2.2) (by decide) (by decide) k) ?_
      show Go p e below s Q 6 22 (s₁.setTop (mkF m 89 #[.val (.int x0), .val (.int x1), .val (.int x2), .val (.int x3), .val (.int x4), .val (.int v14), .val (.int v17), .val (.int j18), .val (.int j27), .val (.int j37), .val (.int j46), .val (.int (0 : Int32)), .unset, .unset, .unset, .unset, .unset, .unset, .unset, .unset] []))
      exact J57 (0 : Int32) (by omega)
  intro j56 f65
  have f66 := rng32 j56
  refine Go.st (fun _ k => XS.iload X0.here hx rfl (hb hby at_89) rfl k) ?_
  show Go p e below s Q 6 22 (s₁.setTop (mkF m 91 #[.val (.int x0), .val (.int x1), .val (.int x2), .val (.int x3), .val (.int x4), .val (.int v14), .val (.int v17), .val (.int j18), .val (.int j27), .val (.int j37), .val (.int j46), .val (.int j56), .unset, .unset, .unset, .unset, .unset, .unset, .unset, .unset] [(.int v14)]))
  refine Go.st (fun _ k => XS.iconst X0.here hx rfl (hb hby at_91) k) ?_
  show Go p e below s Q 6 22 (s₁.setTop (mkF m 92 #[.val (.int x0), .val (.int x1), .val (.int x2), .val (.int x3), .val (.int x4), .val (.int v14), .val (.int v17), .val (.int j18), .val (.int j27), .val (.int j37), .val (.int j46), .val (.int j56), .unset, .unset, .unset, .unset, .unset, .unset, .unset, .unset] [(.int (1 : Int32)), (.int v14)]))
  suffices J68 : ∀ (j67 : Int32), ((1 < v14.toInt ∧ ¬ j27.toInt = 0 ∧ j67.toInt = j56.toInt + 1) ∨ (¬ (1 < v14.toInt ∧ ¬ j27.toInt = 0) ∧ j67.toInt = j56.toInt)) → Go p e below s Q 6 22 (s₁.setTop (mkF m 103 #[.val (.int x0), .val (.int x1), .val (.int x2), .val (.int x3), .val (.int x4), .val (.int v14), .val (.int v17), .val (.int j18), .val (.int j27), .val (.int j37), .val (.int j46), .val (.int j67), .unset, .unset, .unset, .unset, .unset, .unset, .unset, .unset] [])) by
    have f70 := liI_1
    by_cases c71 : 1 < v14.toInt
    ·
      refine Go.st (fun _ k => XS.icmpNo X0.here hx rfl (hb hby at_92) rfl (tlt (ltI liI_1 rfl c71)).2.2.2 k) ?_
      show Go p e below s Q 6 22 (s₁.setTop (mkF m 95 #[.val (.int x0), .val (.int x1), .val (.int x2), .val (.int x3), .val (.int x4), .val (.int v14), .val (.int v17), .val (.int j18), .val (.int j27), .val (.int j37), .val (.int j46), .val (.int j56), .unset, .unset, .unset, .unset, .unset, .unset, .unset, .unset] []))
      refine Go.st (fun _ k => XS.iload X0.here hx rfl (hb hby at_95) rfl k) ?_
      show Go p e below s Q 6 22 (s₁.setTop (mkF m 97 #[.val (.int x0), .val (.int x1), .val (.int x2), .val (.int x3), .val (.int x4), .val (.int v14), .val (.int v17), .val (.int j18), .val (.int j27), .val (.int j37), .val (.int j46), .val (.int j56), .unset, .unset, .unset, .unset, .unset, .unset, .unset, .unset] [(.int j27)]))
      have f72 := liI_0
      by_cases c73 : j27.toInt = 0
      ·
        refine Go.st (fun _ k => XS.ifYes X0.here hx rfl (pc0 := 97) (pc' := 103) rfl (hb hby at_97) rfl ((if0 _ _).trans (teq (eqI rfl liI_0 c73)).1) (by decide) (by decide) k) ?_
        show Go p e below s Q 6 22 (s₁.setTop (mkF m 103 #[.val (.int x0), .val (.int x1), .val (.int x2), .val (.int x3), .val (.int x4), .val (.int v14), .val (.int v17), .val (.int j18), .val (.int j27), .val (.int j37), .val (.int j46), .val (.int j56), .unset, .unset, .unset, .unset, .unset, .unset, .unset, .unset] []))
        exact J68 j56 (by omega)
      ·
        refine Go.st (fun _ k => XS.ifNo X0.here hx rfl (hb hby at_97) rfl ((if0 _ _).trans (feq (neI rfl liI_0 c73)).1) k) ?_
        show Go p e below s Q 6 22 (s₁.setTop (mkF m 100 #[.val (.int x0), .val (.int x1), .val (.int x2), .val (.int x3), .val (.int x4), .val (.int v14), .val (.int v17), .val (.int j18), .val (.int j27), .val (.int j37), .val (.int j46), .val (.int j56), .unset, .unset, .unset, .unset, .unset, .unset, .unset, .unset] []))
        refine Go.st (fun _ k => XS.iinc X0.here hx rfl (hb hby at_100) rfl (l' := #[.val (.int x0), .val (.int x1), .val (.int x2), .val (.int x3), .val (.int x4), .val (.int v14), .val (.int v17), .val (.int j18), .val (.int j27), .val (.int j37), .val (.int j46), .val (.int (j56 + (1 : Int32))), .unset, .unset, .unset, .unset, .unset, .unset, .unset, .unset]) rfl k) ?_
        show Go p e below s Q 6 22 (s₁.setTop (mkF m 103 #[.val (.int x0), .val (.int x1), .val (.int x2), .val (.int x3), .val (.int x4), .val (.int v14), .val (.int v17), .val (.int j18), .val (.int j27), .val (.int j37), .val (.int j46), .val (.int (j56 + (1 : Int32))), .unset, .unset, .unset, .unset, .unset, .unset, .unset, .unset] []))
        have f74 := c_iadd j56 (1 : Int32)
        have f75 := rng32 (j56 + (1 : Int32))
        exact J68 (j56 + (1 : Int32)) (by omega)
    ·
      refine Go.st (fun _ k => XS.icmpYes X0.here hx rfl (pc0 := 92) (pc' := 103) rfl (hb hby at_92) rfl (flt (nltI liI_1 rfl c71)).2.2.2 (by decide) (by decide) k) ?_
      show Go p e below s Q 6 22 (s₁.setTop (mkF m 103 #[.val (.int x0), .val (.int x1), .val (.int x2), .val (.int x3), .val (.int x4), .val (.int v14), .val (.int v17), .val (.int j18), .val (.int j27), .val (.int j37), .val (.int j46), .val (.int j56), .unset, .unset, .unset, .unset, .unset, .unset, .unset, .unset] []))
      exact J68 j56 (by omega)
  intro j67 f76
  have f77 := rng32 j67
  refine Go.st (fun _ k => XS.iload X0.here hx rfl (hb hby at_103) rfl k) ?_
  show Go p e below s Q 6 22 (s₁.setTop (mkF m 105 #[.val (.int x0), .val (.int x1), .val (.int x2), .val (.int x3), .val (.int x4), .val (.int v14), .val (.int v17), .val (.int j18), .val (.int j27), .val (.int j37), .val (.int j46), .val (.int j67), .unset, .unset, .unset, .unset, .unset, .unset, .unset, .unset] [(.int v14)]))
  refine Go.st (fun _ k => XS.iconst X0.here hx rfl (hb hby at_105) k) ?_
  show Go p e below s Q 6 22 (s₁.setTop (mkF m 106 #[.val (.int x0), .val (.int x1), .val (.int x2), .val (.int x3), .val (.int x4), .val (.int v14), .val (.int v17), .val (.int j18), .val (.int j27), .val (.int j37), .val (.int j46), .val (.int j67), .unset, .unset, .unset, .unset, .unset, .unset, .unset, .unset] [(.int (2 : Int32)), (.int v14)]))
  suffices J79 : ∀ (j78 : Int32), ((2 < v14.toInt ∧ ¬ j37.toInt = 0 ∧ j78.toInt = j67.toInt + 1) ∨ (¬ (2 < v14.toInt ∧ ¬ j37.toInt = 0) ∧ j78.toInt = j67.toInt)) → Go p e below s Q 6 22 (s₁.setTop (mkF m 117 #[.val (.int x0), .val (.int x1), .val (.int x2), .val (.int x3), .val (.int x4), .val (.int v14), .val (.int v17), .val (.int j18), .val (.int j27), .val (.int j37), .val (.int j46), .val (.int j78), .unset, .unset, .unset, .unset, .unset, .unset, .unset, .unset] [])) by
    have f81 := liI_2
    by_cases c82 : 2 < v14.toInt
    ·
      refine Go.st (fun _ k => XS.icmpNo X0.here hx rfl (hb hby at_106) rfl (tlt (ltI liI_2 rfl c82)).2.2.2 k) ?_
      show Go p e below s Q 6 22 (s₁.setTop (mkF m 109 #[.val (.int x0), .val (.int x1), .val (.int x2), .val (.int x3), .val (.int x4), .val (.int v14), .val (.int v17), .val (.int j18), .val (.int j27), .val (.int j37), .val (.int j46), .val (.int j67), .unset, .unset, .unset, .unset, .unset, .unset, .unset, .unset] []))
      refine Go.st (fun _ k => XS.iload X0.here hx rfl (hb hby at_109) rfl k) ?_
      show Go p e below s Q 6 22 (s₁.setTop (mkF m 111 #[.val (.int x0), .val (.int x1), .val (.int x2), .val (.int x3), .val (.int x4), .val (.int v14), .val (.int v17), .val (.int j18), .val (.int j27), .val (.int j37), .val (.int j46), .val (.int j67), .unset, .unset, .unset, .unset, .unset, .unset, .unset, .unset] [(.int j37)]))
      have f83 := liI_0
      by_cases c84 : j37.toInt = 0
      ·
        refine Go.st (fun _ k => XS.ifYes X0.here hx rfl (pc0 := 111) (pc' := 117) rfl (hb hby at_111) rfl ((if0 _ _).trans (teq (eqI rfl liI_0 c84)).1) (by decide) (by decide) k) ?_
        show Go p e below s Q 6 22 (s₁.setTop (mkF m 117 #[.val (.int x0), .val (.int x1), .val (.int x2), .val (.int x3), .val (.int x4), .val (.int v14), .val (.int v17), .val (.int j18), .val (.int j27), .val (.int j37), .val (.int j46), .val (.int j67), .unset, .unset, .unset, .unset, .unset, .unset, .unset, .unset] []))
        exact J79 j67 (by omega)
      ·
        refine Go.st (fun _ k => XS.ifNo X0.here hx rfl (hb hby at_111) rfl ((if0 _ _).trans (feq (neI rfl liI_0 c84)).1) k) ?_
        show Go p e below s Q 6 22 (s₁.setTop (mkF m 114 #[.val (.int x0), .val (.int x1), .val (.int x2), .val (.int x3), .val (.int x4), .val (.int v14), .val (.int v17), .val (.int j18), .val (.int j27), .val (.int j37), .val (.int j46), .val (.int j67), .unset, .unset, .unset, .unset, .unset, .unset, .unset, .unset] []))
        refine Go.st (fun _ k => XS.iinc X0.here hx rfl (hb hby at_114) rfl (l' := #[.val (.int x0), .val (.int x1), .val (.int x2), .val (.int x3), .val (.int x4), .val (.int v14), .val (.int v17), .val (.int j18), .val (.int j27), .val (.int j37), .val (.int j46), .val (.int (j67 + (1 : Int32))), .unset, .unset, .unset, .unset, .unset, .unset, .unset, .unset]) rfl k) ?_
        show Go p e below s Q 6 22 (s₁.setTop (mkF m 117 #[.val (.int x0), .val (.int x1), .val (.int x2), .val (.int x3), .val (.int x4), .val (.int v14), .val (.int v17), .val (.int j18), .val (.int j27), .val (.int j37), .val (.int j46), .val (.int (j67 + (1 : Int32))), .unset, .unset, .unset, .unset, .unset, .unset, .unset, .unset] []))
        have f85 := liI_1
        have f86 := c_iadd j67 (1 : Int32)
        have f87 := rng32 (j67 + (1 : Int32))
        exact J79 (j67 + (1 : Int32)) (by omega)
    ·
      refine Go.st (fun _ k => XS.icmpYes X0.here hx rfl (pc0 := 106) (pc' := 117) rfl (hb hby at_106) rfl (flt (nltI liI_2 rfl c82)).2.2.2 (by decide) (by decide) k) ?_
      show Go p e below s Q 6 22 (s₁.setTop (mkF m 117 #[.val (.int x0), .val (.int x1), .val (.int x2), .val (.int x3), .val (.int x4), .val (.int v14), .val (.int v17), .val (.int j18), .val (.int j27), .val (.int j37), .val (.int j46), .val (.int j67), .unset, .unset, .unset, .unset, .unset, .unset, .unset, .unset] []))
      exact J79 j67 (by omega)
  intro j78 f88
  have f89 := rng32 j78
  refine Go.st (fun _ k => XS.iload X0.here hx rfl (hb hby at_117) rfl k) ?_
  show Go p e below s Q 6 22 (s₁.setTop (mkF m 119 #[.val (.int x0), .val (.int x1), .val (.int x2), .val (.int x3), .val (.int x4), .val (.int v14), .val (.int v17), .val (.int j18), .val (.int j27), .val (.int j37), .val (.int j46), .val (.int j78), .unset, .unset, .unset, .unset, .unset, .unset, .unset, .unset] [(.int v14)]))
  refine Go.st (fun _ k => XS.iconst X0.here hx rfl (hb hby at_119) k) ?_
  show Go p e below s Q 6 22 (s₁.setTop (mkF m 120 #[.val (.int x0), .val (.int x1), .val (.int x2), .val (.int x3), .val (.int x4), .val (.int v14), .val (.int v17), .val (.int j18), .val (.int j27), .val (.int j37), .val (.int j46), .val (.int j78), .unset, .unset, .unset, .unset, .unset, .unset, .unset, .unset] [(.int (3 : Int32)), (.int v14)]))
  suffices J91 : ∀ (j90 : Int32), ((3 < v14.toInt ∧ ¬ j46.toInt = 0 ∧ j90.toInt = j78.toInt + 1) ∨ (¬ (3 < v14.toInt ∧ ¬ j46.toInt = 0) ∧ j90.toInt = j78.toInt)) → Go p e below s Q 6 22 (s₁.setTop (mkF m 131 #[.val (.int x0), .val (.int x1), .val (.int x2), .val (.int x3), .val (.int x4), .val (.int v14), .val (.int v17), .val (.int j18), .val (.int j27), .val (.int j37), .val (.int j46), .val (.int j90), .unset, .unset, .unset, .unset, .unset, .unset, .unset, .unset] [])) by
    have f93 := liI_3
    by_cases c94 : 3 < v14.toInt
    ·
      refine Go.st (fun _ k => XS.icmpNo X0.here hx rfl (hb hby at_120) rfl (tlt (ltI liI_3 rfl c94)).2.2.2 k) ?_
      show Go p e below s Q 6 22 (s₁.setTop (mkF m 123 #[.val (.int x0), .val (.int x1), .val (.int x2), .val (.int x3), .val (.int x4), .val (.int v14), .val (.int v17), .val (.int j18), .val (.int j27), .val (.int j37), .val (.int j46), .val (.int j78), .unset, .unset, .unset, .unset, .unset, .unset, .unset, .unset] []))
      refine Go.st (fun _ k => XS.iload X0.here hx rfl (hb hby at_123) rfl k) ?_
      show Go p e below s Q 6 22 (s₁.setTop (mkF m 125 #[.val (.int x0), .val (.int x1), .val (.int x2), .val (.int x3), .val (.int x4), .val (.int v14), .val (.int v17), .val (.int j18), .val (.int j27), .val (.int j37), .val (.int j46), .val (.int j78), .unset, .unset, .unset, .unset, .unset, .unset, .unset, .unset] [(.int j46)]))
      have f95 := liI_0
      by_cases c96 : j46.toInt = 0
      ·
        refine Go.st (fun _ k => XS.ifYes X0.here hx rfl (pc0 := 125) (pc' := 131) rfl (hb hby at_125) rfl ((if0 _ _).trans (teq (eqI rfl liI_0 c96)).1) (by decide) (by decide) k) ?_
        show Go p e below s Q 6 22 (s₁.setTop (mkF m 131 #[.val (.int x0), .val (.int x1), .val (.int x2), .val (.int x3), .val (.int x4), .val (.int v14), .val (.int v17), .val (.int j18), .val (.int j27), .val (.int j37), .val (.int j46), .val (.int j78), .unset, .unset, .unset, .unset, .unset, .unset, .unset, .unset] []))
        exact J91 j78 (by omega)
      ·
        refine Go.st (fun _ k => XS.ifNo X0.here hx rfl (hb hby at_125) rfl ((if0 _ _).trans (feq (neI rfl liI_0 c96)).1) k) ?_
        show Go p e below s Q 6 22 (s₁.setTop (mkF m 128 #[.val (.int x0), .val (.int x1), .val (.int x2), .val (.int x3), .val (.int x4), .val (.int v14), .val (.int v17), .val (.int j18), .val (.int j27), .val (.int j37), .val (.int j46), .val (.int j78), .unset, .unset, .unset, .unset, .unset, .unset, .unset, .unset] []))
        refine Go.st (fun _ k => XS.iinc X0.here hx rfl (hb hby at_128) rfl (l' := #[.val (.int x0), .val (.int x1), .val (.int x2), .val (.int x3), .val (.int x4), .val (.int v14), .val (.int v17), .val (.int j18), .val (.int j27), .val (.int j37), .val (.int j46), .val (.int (j78 + (1 : Int32))), .unset, .unset, .unset, .unset, .unset, .unset, .unset, .unset]) rfl k) ?_
        show Go p e below s Q 6 22 (s₁.setTop (mkF m 131 #[.val (.int x0), .val (.int x1), .val (.int x2), .val (.int x3), .val (.int x4), .val (.int v14), .val (.int v17), .val (.int j18), .val (.int j27), .val (.int j37), .val (.int j46), .val (.int (j78 + (1 : Int32))), .unset, .unset, .unset, .unset, .unset, .unset, .unset, .unset] []))
        have f97 := liI_1
        have f98 := c_iadd j78 (1 : Int32)
        have f99 := rng32 (j78 + (1 : Int32))
        exact J91 (j78 + (1 : Int32)) (by omega)
    ·
      refine Go.st (fun _ k => XS.icmpYes X0.here hx rfl (pc0 := 120) (pc' := 131) rfl (hb hby at_120) rfl (flt (nltI liI_3 rfl c94)).2.2.2 (by decide) (by decide) k) ?_
      show Go p e below s Q 6 22 (s₁.setTop (mkF m 131 #[.val (.int x0), .val (.int x1), .val (.int x2), .val (.int x3), .val (.int x4), .val (.int v14), .val (.int v17), .val (.int j18), .val (.int j27), .val (.int j37), .val (.int j46), .val (.int j78), .unset, .unset, .unset, .unset, .unset, .unset, .unset, .unset] []))
      exact J91 j78 (by omega)
  intro j90 f100
  have f101 := rng32 j90
  have hid_0 : Hid ((0 < v14.toInt → j90.toInt - j56.toInt ≤ v14.toInt - 1) ∧ (0 < v14.toInt → ¬ j18.toInt = 0 → j56.toInt = 0 + 1) ∧ (0 < v14.toInt → j18.toInt = 0 → j56.toInt = 0) ∧ (¬ 0 < v14.toInt → j56.toInt = 0)) := by unfold Hid; omega
  have hid_1 : Hid ((1 < v14.toInt → j90.toInt - j67.toInt ≤ v14.toInt - 2) ∧ (1 < v14.toInt → ¬ j27.toInt = 0 → j67.toInt = j56.toInt + 1) ∧ (1 < v14.toInt → j27.toInt = 0 → j67.toInt = j56.toInt) ∧ (¬ 1 < v14.toInt → j67.toInt = j56.toInt)) := by unfold Hid; omega
  have hid_2 : Hid ((2 < v14.toInt → j90.toInt - j78.toInt ≤ v14.toInt - 3) ∧ (2 < v14.toInt → ¬ j37.toInt = 0 → j78.toInt = j67.toInt + 1) ∧ (2 < v14.toInt → j37.toInt = 0 → j78.toInt = j67.toInt) ∧ (¬ 2 < v14.toInt → j78.toInt = j67.toInt)) := by unfold Hid; omega
  have hid_3 : Hid ((3 < v14.toInt → j90.toInt - j90.toInt ≤ v14.toInt - 4) ∧ (3 < v14.toInt → ¬ j46.toInt = 0 → j90.toInt = j78.toInt + 1) ∧ (3 < v14.toInt → j46.toInt = 0 → j90.toInt = j78.toInt) ∧ (¬ 3 < v14.toInt → j90.toInt = j78.toInt)) := by unfold Hid; omega
  have f102 : 0 ≤ v14.toInt ∧ v14.toInt ≤ 4 := by omega
  have f103 : 0 ≤ j56.toInt ∧ j56.toInt ≤ 0 + 1 := by omega
  have f104 : j56.toInt ≤ j67.toInt ∧ j67.toInt ≤ j56.toInt + 1 := by omega
  have f105 : j67.toInt ≤ j78.toInt ∧ j78.toInt ≤ j67.toInt + 1 := by omega
  have f106 : j78.toInt ≤ j90.toInt ∧ j90.toInt ≤ j78.toInt + 1 := by omega
  have f107 : j90.toInt ≤ v14.toInt := by omega
  clear f1 f2 f3 f4 f5 f6 f7 f8 f9 f10 f11 f12 f13 f15 f16 f26 f25 f36 f35 f45 f44 f55 f54 f66 f65 f77 f76 f89 f88 f101 f100
  refine Go.st (fun _ k => XS.iload X0.here hx rfl (hb hby at_131) rfl k) ?_
  show Go p e below s Q 6 22 (s₁.setTop (mkF m 133 #[.val (.int x0), .val (.int x1), .val (.int x2), .val (.int x3), .val (.int x4), .val (.int v14), .val (.int v17), .val (.int j18), .val (.int j27), .val (.int j37), .val (.int j46), .val (.int j90), .unset, .unset, .unset, .unset, .unset, .unset, .unset, .unset] [(.int v14)]))
  refine Go.st (fun _ k => XS.iload X0.here hx rfl (hb hby at_133) rfl k) ?_
  show Go p e below s Q 6 22 (s₁.setTop (mkF m 135 #[.val (.int x0), .val (.int x1), .val (.int x2), .val (.int x3), .val (.int x4), .val (.int v14), .val (.int v17), .val (.int j18), .val (.int j27), .val (.int j37), .val (.int j46), .val (.int j90), .unset, .unset, .unset, .unset, .unset, .unset, .unset, .unset] [(.int j90), (.int v14)]))
  refine Go.st (fun _ k => XS.isub X0.here hx rfl (hb hby at_135) rfl k) ?_
  show Go p e below s Q 6 22 (s₁.setTop (mkF m 136 #[.val (.int x0), .val (.int x1), .val (.int x2), .val (.int x3), .val (.int x4), .val (.int v14), .val (.int v17), .val (.int j18), .val (.int j27), .val (.int j37), .val (.int j46), .val (.int j90), .unset, .unset, .unset, .unset, .unset, .unset, .unset, .unset] [(.int (v14 - j90))]))
  refine Go.st (fun _ k => XS.istore X0.here hx rfl (hb hby at_136) rfl (l' := #[.val (.int x0), .val (.int x1), .val (.int x2), .val (.int x3), .val (.int x4), .val (.int v14), .val (.int v17), .val (.int j18), .val (.int j27), .val (.int j37), .val (.int j46), .val (.int j90), .val (.int (v14 - j90)), .unset, .unset, .unset, .unset, .unset, .unset, .unset]) rfl k) ?_
  show Go p e below s Q 6 22 (s₁.setTop (mkF m 138 #[.val (.int x0), .val (.int x1), .val (.int x2), .val (.int x3), .val (.int x4), .val (.int v14), .val (.int v17), .val (.int j18), .val (.int j27), .val (.int j37), .val (.int j46), .val (.int j90), .val (.int (v14 - j90)), .unset, .unset, .unset, .unset, .unset, .unset, .unset] []))
  have f108 := c_isub v14 j90
  have f109 := rng32 (v14 - j90)
  generalize hv_v110 : (v14 - j90) = v110 at f108 f109 ⊢
  refine Go.st (fun _ k => XS.iload X0.here hx rfl (hb hby at_138) rfl k) ?_
  show Go p e below s Q 6 22 (s₁.setTop (mkF m 140 #[.val (.int x0), .val (.int x1), .val (.int x2), .val (.int x3), .val (.int x4), .val (.int v14), .val (.int v17), .val (.int j18), .val (.int j27), .val (.int j37), .val (.int j46), .val (.int j90), .val (.int v110), .unset, .unset, .unset, .unset, .unset, .unset, .unset] [(.int j90)]))
  have r112 : 0 ≤ j90.toInt := by omega
  have r113 : j90.toNatClampNeg ≤ 4 := by rw [nat_cl]; omega
  obtain ⟨T111, h111, k111, X111, e111, E111, A111, st111⟩ := newP X0 hx hZ (hw _ (List.mem_of_getElem? (i := 0) rfl)) e0 (g := (mkF m 140 #[.val (.int x0), .val (.int x1), .val (.int x2), .val (.int x3), .val (.int x4), .val (.int v14), .val (.int v17), .val (.int j18), .val (.int j27), .val (.int j37), .val (.int j46), .val (.int j90), .val (.int v110), .unset, .unset, .unset, .unset, .unset, .unset, .unset] [(.int j90)])) rfl (hb hby at_140) rfl (not_neg r112) (cap := 4) r113 (by decide) (by decide) (by decide)
  obtain ⟨b111, g111⟩ : ∃ z, z = h0.size := ⟨_, rfl⟩
  rw [← g111] at A111 st111
  have Gb111 : n0 ≤ b111 := Nat.le_trans (Nat.le_trans Z0 K0.1) (Nat.le_of_eq g111.symm)
  have szb111 : h0.size ≤ b111 := Nat.le_trans K0.1 (Nat.le_of_eq g111.symm)
  have K111 : Keep h0 h111 [] := K0.ext E111
  have h114 : Vec Z h111 b111 .int j90 (ints (fun _ => (0 : Int32))) := Vec.new A111 r112
  refine Go.st st111 ?_
  show Go p e below s Q 6 22 (T111.setTop (mkF m 142 #[.val (.int x0), .val (.int x1), .val (.int x2), .val (.int x3), .val (.int x4), .val (.int v14), .val (.int v17), .val (.int j18), .val (.int j27), .val (.int j37), .val (.int j46), .val (.int j90), .val (.int v110), .unset, .unset, .unset, .unset, .unset, .unset, .unset] [(.ref b111)]))
  refine Go.st (fun _ k => XS.astore X111.here hx rfl (hb hby at_142) rfl rfl (l' := #[.val (.int x0), .val (.int x1), .val (.int x2), .val (.int x3), .val (.int x4), .val (.int v14), .val (.int v17), .val (.int j18), .val (.int j27), .val (.int j37), .val (.int j46), .val (.int j90), .val (.int v110), .val (.ref b111), .unset, .unset, .unset, .unset, .unset, .unset]) rfl k) ?_
  show Go p e below s Q 6 22 (T111.setTop (mkF m 144 #[.val (.int x0), .val (.int x1), .val (.int x2), .val (.int x3), .val (.int x4), .val (.int v14), .val (.int v17), .val (.int j18), .val (.int j27), .val (.int j37), .val (.int j46), .val (.int j90), .val (.int v110), .val (.ref b111), .unset, .unset, .unset, .unset, .unset, .unset] []))
  refine Go.st (fun _ k => XS.iload X111.here hx rfl (hb hby at_144) rfl k) ?_
  show Go p e below s Q 6 22 (T111.setTop (mkF m 146 #[.val (.int x0), .val (.int x1), .val (.int x2), .val (.int x3), .val (.int x4), .val (.int v14), .val (.int v17), .val (.int j18), .val (.int j27), .val (.int j37), .val (.int j46), .val (.int j90), .val (.int v110), .val (.ref b111), .unset, .unset, .unset, .unset, .unset, .unset] [(.int v110)]))
  have r116 : 0 ≤ v110.toInt := by omega
  have r117 : v110.toNatClampNeg ≤ 4 := by rw [nat_cl]; omega
  obtain ⟨T115, h115, k115, X115, e115, E115, A115, st115⟩ := newP X111 hx hZ (hw _ (List.mem_of_getElem? (i := 0) rfl)) e111 (g := (mkF m 146 #[.val (.int x0), .val (.int x1), .val (.int x2), .val (.int x3), .val (.int x4), .val (.int v14), .val (.int v17), .val (.int j18), .val (.int j27), .val (.int j37), .val (.int j46), .val (.int j90), .val (.int v110), .val (.ref b111), .unset, .unset, .unset, .unset, .unset, .unset] [(.int v110)])) rfl (hb hby at_146) rfl (not_neg r116) (cap := 4) r117 (by decide) (by decide) (by decide)
  obtain ⟨b115, g115⟩ : ∃ z, z = h111.size := ⟨_, rfl⟩
  rw [← g115] at A115 st115
  have q118 : b111 ≠ b115 := Nat.ne_of_lt (Nat.lt_of_lt_of_le h114.lt (Nat.le_of_eq g115.symm))
  have h119 : Vec Z h115 b111 .int j90 (ints (fun _ => (0 : Int32))) := h114.ext E115
  have Gb115 : n0 ≤ b115 := Nat.le_trans (Nat.le_trans Z0 K111.1) (Nat.le_of_eq g115.symm)
  have szb115 : h0.size ≤ b115 := Nat.le_trans K111.1 (Nat.le_of_eq g115.symm)
  have K115 : Keep h0 h115 [] := K111.ext E115
  have h120 : Vec Z h115 b115 .int v110 (ints (fun _ => (0 : Int32))) := Vec.new A115 r116
  refine Go.st st115 ?_
  show Go p e below s Q 6 22 (T115.setTop (mkF m 148 #[.val (.int x0), .val (.int x1), .val (.int x2), .val (.int x3), .val (.int x4), .val (.int v14), .val (.int v17), .val (.int j18), .val (.int j27), .val (.int j37), .val (.int j46), .val (.int j90), .val (.int v110), .val (.ref b111), .unset, .unset, .unset, .unset, .unset, .unset] [(.ref b115)]))
  refine Go.st (fun _ k => XS.astore X115.here hx rfl (hb hby at_148) rfl rfl (l' := #[.val (.int x0), .val (.int x1), .val (.int x2), .val (.int x3), .val (.int x4), .val (.int v14), .val (.int v17), .val (.int j18), .val (.int j27), .val (.int j37), .val (.int j46), .val (.int j90), .val (.int v110), .val (.ref b111), .val (.ref b115), .unset, .unset, .unset, .unset, .unset]) rfl k) ?_
  show Go p e below s Q 6 22 (T115.setTop (mkF m 150 #[.val (.int x0), .val (.int x1), .val (.int x2), .val (.int x3), .val (.int x4), .val (.int v14), .val (.int v17), .val (.int j18), .val (.int j27), .val (.int j37), .val (.int j46), .val (.int j90), .val (.int v110), .val (.ref b111), .val (.ref b115), .unset, .unset, .unset, .unset, .unset] []))
  refine Go.st (fun _ k => XS.iload X115.here hx rfl (hb hby at_150) rfl k) ?_
  show Go p e below s Q 6 22 (T115.setTop (mkF m 152 #[.val (.int x0), .val (.int x1), .val (.int x2), .val (.int x3), .val (.int x4), .val (.int v14), .val (.int v17), .val (.int j18), .val (.int j27), .val (.int j37), .val (.int j46), .val (.int j90), .val (.int v110), .val (.ref b111), .val (.ref b115), .unset, .unset, .unset, .unset, .unset] [(.int j90)]))
  have r122 : 0 ≤ j90.toInt := by omega
  have r123 : j90.toNatClampNeg ≤ 4 := by rw [nat_cl]; omega
  obtain ⟨T121, h121, k121, X121, e121, E121, A121, st121⟩ := newP X115 hx hZ (hw _ (List.mem_of_getElem? (i := 0) rfl)) e115 (g := (mkF m 152 #[.val (.int x0), .val (.int x1), .val (.int x2), .val (.int x3), .val (.int x4), .val (.int v14), .val (.int v17), .val (.int j18), .val (.int j27), .val (.int j37), .val (.int j46), .val (.int j90), .val (.int v110), .val (.ref b111), .val (.ref b115), .unset, .unset, .unset, .unset, .unset] [(.int j90)])) rfl (hb hby at_152) rfl (not_neg r122) (cap := 4) r123 (by decide) (by decide) (by decide)
  obtain ⟨b121, g121⟩ : ∃ z, z = h115.size := ⟨_, rfl⟩
  rw [← g121] at A121 st121
  have q124 : b111 ≠ b121 := Nat.ne_of_lt (Nat.lt_of_lt_of_le h119.lt (Nat.le_of_eq g121.symm))
  have q125 : b115 ≠ b121 := Nat.ne_of_lt (Nat.lt_of_lt_of_le h120.lt (Nat.le_of_eq g121.symm))
  have h126 : Vec Z h121 b111 .int j90 (ints (fun _ => (0 : Int32))) := h119.ext E121
  have h127 : Vec Z h121 b115 .int v110 (ints (fun _ => (0 : Int32))) := h120.ext E121
  have Gb121 : n0 ≤ b121 := Nat.le_trans (Nat.le_trans Z0 K115.1) (Nat.le_of_eq g121.symm)
  have szb121 : h0.size ≤ b121 := Nat.le_trans K115.1 (Nat.le_of_eq g121.symm)
  have K121 : Keep h0 h121 [] := K115.ext E121
  have h128 : Vec Z h121 b121 .int j90 (ints (fun _ => (0 : Int32))) := Vec.new A121 r122
  refine Go.st st121 ?_
  show Go p e below s Q 6 22 (T121.setTop (mkF m 154 #[.val (.int x0), .val (.int x1), .val (.int x2), .val (.int x3), .val (.int x4), .val (.int v14), .val (.int v17), .val (.int j18), .val (.int j27), .val (.int j37), .val (.int j46), .val (.int j90), .val (.int v110), .val (.ref b111), .val (.ref b115), .unset, .unset, .unset, .unset, .unset] [(.ref b121)]))
  refine Go.st (fun _ k => XS.astore X121.here hx rfl (hb hby at_154) rfl rfl (l' := #[.val (.int x0), .val (.int x1), .val (.int x2), .val (.int x3), .val (.int x4), .val (.int v14), .val (.int v17), .val (.int j18), .val (.int j27), .val (.int j37), .val (.int j46), .val (.int j90), .val (.int v110), .val (.ref b111), .val (.ref b115), .val (.ref b121), .unset, .unset, .unset, .unset]) rfl k) ?_
  show Go p e below s Q 6 22 (T121.setTop (mkF m 156 #[.val (.int x0), .val (.int x1), .val (.int x2), .val (.int x3), .val (.int x4), .val (.int v14), .val (.int v17), .val (.int j18), .val (.int j27), .val (.int j37), .val (.int j46), .val (.int j90), .val (.int v110), .val (.ref b111), .val (.ref b115), .val (.ref b121), .unset, .unset, .unset, .unset] []))
  refine Go.st (fun _ k => XS.iload X121.here hx rfl (hb hby at_156) rfl k) ?_
  show Go p e below s Q 6 22 (T121.setTop (mkF m 158 #[.val (.int x0), .val (.int x1), .val (.int x2), .val (.int x3), .val (.int x4), .val (.int v14), .val (.int v17), .val (.int j18), .val (.int j27), .val (.int j37), .val (.int j46), .val (.int j90), .val (.int v110), .val (.ref b111), .val (.ref b115), .val (.ref b121), .unset, .unset, .unset, .unset] [(.int v110)]))
  have r130 : 0 ≤ v110.toInt := by omega
  have r131 : v110.toNatClampNeg ≤ 4 := by rw [nat_cl]; omega
  obtain ⟨T129, h129, k129, X129, e129, E129, A129, st129⟩ := newP X121 hx hZ (hw _ (List.mem_of_getElem? (i := 0) rfl)) e121 (g := (mkF m 158 #[.val (.int x0), .val (.int x1), .val (.int x2), .val (.int x3), .val (.int x4), .val (.int v14), .val (.int v17), .val (.int j18), .val (.int j27), .val (.int j37), .val (.int j46), .val (.int j90), .val (.int v110), .val (.ref b111), .val (.ref b115), .val (.ref b121), .unset, .unset, .unset, .unset] [(.int v110)])) rfl (hb hby at_158) rfl (not_neg r130) (cap := 4) r131 (by decide) (by decide) (by decide)
  obtain ⟨b129, g129⟩ : ∃ z, z = h121.size := ⟨_, rfl⟩
  rw [← g129] at A129 st129
  have q132 : b111 ≠ b129 := Nat.ne_of_lt (Nat.lt_of_lt_of_le h126.lt (Nat.le_of_eq g129.symm))
  have q133 : b115 ≠ b129 := Nat.ne_of_lt (Nat.lt_of_lt_of_le h127.lt (Nat.le_of_eq g129.symm))
  have q134 : b121 ≠ b129 := Nat.ne_of_lt (Nat.lt_of_lt_of_le h128.lt (Nat.le_of_eq g129.symm))
  have h135 : Vec Z h129 b111 .int j90 (ints (fun _ => (0 : Int32))) := h126.ext E129
  have h136 : Vec Z h129 b115 .int v110 (ints (fun _ => (0 : Int32))) := h127.ext E129
  have h137 : Vec Z h129 b121 .int j90 (ints (fun _ => (0 : Int32))) := h128.ext E129
  have Gb129 : n0 ≤ b129 := Nat.le_trans (Nat.le_trans Z0 K121.1) (Nat.le_of_eq g129.symm)
  have szb129 : h0.size ≤ b129 := Nat.le_trans K121.1 (Nat.le_of_eq g129.symm)
  have K129 : Keep h0 h129 [] := K121.ext E129
  have h138 : Vec Z h129 b129 .int v110 (ints (fun _ => (0 : Int32))) := Vec.new A129 r130
  refine Go.st st129 ?_
  show Go p e below s Q 6 22 (T129.setTop (mkF m 160 #[.val (.int x0), .val (.int x1), .val (.int x2), .val (.int x3), .val (.int x4), .val (.int v14), .val (.int v17), .val (.int j18), .val (.int j27), .val (.int j37), .val (.int j46), .val (.int j90), .val (.int v110), .val (.ref b111), .val (.ref b115), .val (.ref b121), .unset, .unset, .unset, .unset] [(.ref b129)]))
  refine Go.st (fun _ k => XS.astore X129.here hx rfl (hb hby at_160) rfl rfl (l' := #[.val (.int x0), .val (.int x1), .val (.int x2), .val (.int x3), .val (.int x4), .val (.int v14), .val (.int v17), .val (.int j18), .val (.int j27), .val (.int j37), .val (.int j46), .val (.int j90), .val (.int v110), .val (.ref b111), .val (.ref b115), .val (.ref b121), .val (.ref b129), .unset, .unset, .unset]) rfl k) ?_
  show Go p e below s Q 6 22 (T129.setTop (mkF m 162 #[.val (.int x0), .val (.int x1), .val (.int x2), .val (.int x3), .val (.int x4), .val (.int v14), .val (.int v17), .val (.int j18), .val (.int j27), .val (.int j37), .val (.int j46), .val (.int j90), .val (.int v110), .val (.ref b111), .val (.ref b115), .val (.ref b121), .val (.ref b129), .unset, .unset, .unset] []))
  refine Go.st (fun _ k => XS.iconst X129.here hx rfl (hb hby at_162) k) ?_
  show Go p e below s Q 6 22 (T129.setTop (mkF m 163 #[.val (.int x0), .val (.int x1), .val (.int x2), .val (.int x3), .val (.int x4), .val (.int v14), .val (.int v17), .val (.int j18), .val (.int j27), .val (.int j37), .val (.int j46), .val (.int j90), .val (.int v110), .val (.ref b111), .val (.ref b115), .val (.ref b121), .val (.ref b129), .unset, .unset, .unset] [(.int (0 : Int32))]))
  refine Go.st (fun _ k => XS.istore X129.here hx rfl (hb hby at_163) rfl (l' := #[.val (.int x0), .val (.int x1), .val (.int x2), .val (.int x3), .val (.int x4), .val (.int v14), .val (.int v17), .val (.int j18), .val (.int j27), .val (.int j37), .val (.int j46), .val (.int j90), .val (.int v110), .val (.ref b111), .val (.ref b115), .val (.ref b121), .val (.ref b129), .val (.int (0 : Int32)), .unset, .unset]) rfl k) ?_
  show Go p e below s Q 6 22 (T129.setTop (mkF m 165 #[.val (.int x0), .val (.int x1), .val (.int x2), .val (.int x3), .val (.int x4), .val (.int v14), .val (.int v17), .val (.int j18), .val (.int j27), .val (.int j37), .val (.int j46), .val (.int j90), .val (.int v110), .val (.ref b111), .val (.ref b115), .val (.ref b121), .val (.ref b129), .val (.int (0 : Int32)), .unset, .unset] []))
  refine Go.st (fun _ k => XS.iconst X129.here hx rfl (hb hby at_165) k) ?_
  show Go p e below s Q 6 22 (T129.setTop (mkF m 166 #[.val (.int x0), .val (.int x1), .val (.int x2), .val (.int x3), .val (.int x4), .val (.int v14), .val (.int v17), .val (.int j18), .val (.int j27), .val (.int j37), .val (.int j46), .val (.int j90), .val (.int v110), .val (.ref b111), .val (.ref b115), .val (.ref b121), .val (.ref b129), .val (.int (0 : Int32)), .unset, .unset] [(.int (0 : Int32))]))
  refine Go.st (fun _ k => XS.istore X129.here hx rfl (hb hby at_166) rfl (l' := #[.val (.int x0), .val (.int x1), .val (.int x2), .val (.int x3), .val (.int x4), .val (.int v14), .val (.int v17), .val (.int j18), .val (.int j27), .val (.int j37), .val (.int j46), .val (.int j90), .val (.int v110), .val (.ref b111), .val (.ref b115), .val (.ref b121), .val (.ref b129), .val (.int (0 : Int32)), .val (.int (0 : Int32)), .unset]) rfl k) ?_
  show Go p e below s Q 6 22 (T129.setTop (mkF m 168 #[.val (.int x0), .val (.int x1), .val (.int x2), .val (.int x3), .val (.int x4), .val (.int v14), .val (.int v17), .val (.int j18), .val (.int j27), .val (.int j37), .val (.int j46), .val (.int j90), .val (.int v110), .val (.ref b111), .val (.ref b115), .val (.ref b121), .val (.ref b129), .val (.int (0 : Int32)), .val (.int (0 : Int32)), .unset] []))
  suffices J140 : ∀ (Tg139 : State) (hg139 : Heap) (Lgg139 : List Loc) (Xg139 : Stand p l e room_1 s m #[(.int x0), (.int x1), (.int x2), (.int x3), (.int x4)] below meth c Tg139 Lgg139 4 16) (eg139 : Tg139.heap = hg139) (Ng139 : Fr n0 Lgg139) (Kg139 : Keep h0 hg139 []) (li1 : Int32) (hi1 : Int32) (kt1 : Int) (fa1 : Nat → Int32) (fb1 : Nat → Int32) (ga1 : Nat → Int32) (gb1 : Nat → Int32) (hfg139_0 : Vec Z hg139 b111 .int j90 (ints fa1)) (hfg139_1 : Vec Z hg139 b115 .int v110 (ints fb1)) (hfg139_2 : Vec Z hg139 b121 .int j90 (ints ga1)) (hfg139_3 : Vec Z hg139 b129 .int v110 (ints gb1)) (hpg139_0 : li1.toInt = j56.toInt) (hpg139_1 : li1.toInt + hi1.toInt = kt1) (hpg139_2 : Hid ((1 ≤ v14.toInt ∧ kt1 = 1) ∨ (v14.toInt < 1 ∧ kt1 = v14.toInt))) (hpg139_3 : FInv kt1 li1.toInt hi1.toInt fa1 fb1 ga1 gb1 (lst [x1, x2, x3, x4])), Go p e below s Q 6 22 (Tg139.setTop (mkF m 211 #[.val (.int x0), .val (.int x1), .val (.int x2), .val (.int x3), .val (.int x4), .val (.int v14), .val (.int v17), .val (.int j18), .val (.int j27), .val (.int j37), .val (.int j46), .val (.int j90), .val (.int v110), .val (.ref b111), .val (.ref b115), .val (.ref b121), .val (.ref b129), .val (.int li1), .val (.int hi1), .unset] [])) by
    have hu1 := hid_0
    unfold Hid at hu1
    have l0 := liI_0
    refine Go.st (fun _ k => XS.iload X129.here hx rfl (hb hby at_168) rfl k) ?_
    show Go p e below s Q 6 22 (T129.setTop (mkF m 170 #[.val (.int x0), .val (.int x1), .val (.int x2), .val (.int x3), .val (.int x4), .val (.int v14), .val (.int v17), .val (.int j18), .val (.int j27), .val (.int j37), .val (.int j46), .val (.int j90), .val (.int v110), .val (.ref b111), .val (.ref b115), .val (.ref b121), .val (.ref b129), .val (.int (0 : Int32)), .val (.int (0 : Int32)), .unset] [(.int v14)]))
    have f141 := liI_0
    by_cases c142 : 0 < v14.toInt
    ·
      refine Go.st (fun _ k => XS.ifNo X129.here hx rfl (hb hby at_170) rfl ((if0 _ _).trans (tlt (ltI liI_0 rfl c142)).2.2.2) k) ?_
      show Go p e below s Q 6 22 (T129.setTop (mkF m 173 #[.val (.int x0), .val (.int x1), .val (.int x2), .val (.int x3), .val (.int x4), .val (.int v14), .val (.int v17), .val (.int j18), .val (.int j27), .val (.int j37), .val (.int j46), .val (.int j90), .val (.int v110), .val (.ref b111), .val (.ref b115), .val (.ref b121), .val (.ref b129), .val (.int (0 : Int32)), .val (.int (0 : Int32)), .unset] []))
      refine Go.st (fun _ k => XS.iload X129.here hx rfl (hb hby at_173) rfl k) ?_
      show Go p e below s Q 6 22 (T129.setTop (mkF m 175 #[.val (.int x0), .val (.int x1), .val (.int x2), .val (.int x3), .val (.int x4), .val (.int v14), .val (.int v17), .val (.int j18), .val (.int j27), .val (.int j37), .val (.int j46), .val (.int j90), .val (.int v110), .val (.ref b111), .val (.ref b115), .val (.ref b121), .val (.ref b129), .val (.int (0 : Int32)), .val (.int (0 : Int32)), .unset] [(.int j18)]))
      by_cases c143 : j18.toInt = 0
      ·
        refine Go.st (fun _ k => XS.ifYes X129.here hx rfl (pc0 := 175) (pc' := 196) rfl (hb hby at_175) rfl ((if0 _ _).trans (teq (eqI rfl liI_0 c143)).1) (by decide) (by decide) k) ?_
        show Go p e below s Q 6 22 (T129.setTop (mkF m 196 #[.val (.int x0), .val (.int x1), .val (.int x2), .val (.int x3), .val (.int x4), .val (.int v14), .val (.int v17), .val (.int j18), .val (.int j27), .val (.int j37), .val (.int j46), .val (.int j90), .val (.int v110), .val (.ref b111), .val (.ref b115), .val (.ref b121), .val (.ref b129), .val (.int (0 : Int32)), .val (.int (0 : Int32)), .unset] []))
        refine Go.st (fun _ k => XS.aload X129.here hx rfl (hb hby at_196) rfl rfl k) ?_
        show Go p e below s Q 6 22 (T129.setTop (mkF m 198 #[.val (.int x0), .val (.int x1), .val (.int x2), .val (.int x3), .val (.int x4), .val (.int v14), .val (.int v17), .val (.int j18), .val (.int j27), .val (.int j37), .val (.int j46), .val (.int j90), .val (.int v110), .val (.ref b111), .val (.ref b115), .val (.ref b121), .val (.ref b129), .val (.int (0 : Int32)), .val (.int (0 : Int32)), .unset] [(.ref b115)]))
        refine Go.st (fun _ k => XS.iload X129.here hx rfl (hb hby at_198) rfl k) ?_
        show Go p e below s Q 6 22 (T129.setTop (mkF m 200 #[.val (.int x0), .val (.int x1), .val (.int x2), .val (.int x3), .val (.int x4), .val (.int v14), .val (.int v17), .val (.int j18), .val (.int j27), .val (.int j37), .val (.int j46), .val (.int j90), .val (.int v110), .val (.ref b111), .val (.ref b115), .val (.ref b121), .val (.ref b129), .val (.int (0 : Int32)), .val (.int (0 : Int32)), .unset] [(.int (0 : Int32)), (.ref b115)]))
        refine Go.st (fun _ k => XS.iconst X129.here hx rfl (hb hby at_200) k) ?_
        show Go p e below s Q 6 22 (T129.setTop (mkF m 201 #[.val (.int x0), .val (.int x1), .val (.int x2), .val (.int x3), .val (.int x4), .val (.int v14), .val (.int v17), .val (.int j18), .val (.int j27), .val (.int j37), .val (.int j46), .val (.int j90), .val (.int v110), .val (.ref b111), .val (.ref b115), .val (.ref b121), .val (.ref b129), .val (.int (0 : Int32)), .val (.int (0 : Int32)), .unset] [(.int (0 : Int32)), (.int (0 : Int32)), (.ref b115)]))
        have r145 : 0 ≤ (0 : Int32).toInt := by omega
        have r146 : (0 : Int32).toInt < v110.toInt := by omega
        obtain ⟨T144, h144, X144, e144, W144, V144, st144⟩ := Vec.istI X129 hx hZ e129 h136 (j := (0 : Int32)) r145 r146 (g := (mkF m 201 #[.val (.int x0), .val (.int x1), .val (.int x2), .val (.int x3), .val (.int x4), .val (.int v14), .val (.int v17), .val (.int j18), .val (.int j27), .val (.int j37), .val (.int j46), .val (.int j90), .val (.int v110), .val (.ref b111), .val (.ref b115), .val (.ref b121), .val (.ref b129), .val (.int (0 : Int32)), .val (.int (0 : Int32)), .unset] [(.int (0 : Int32)), (.int (0 : Int32)), (.ref b115)])) rfl rfl (hb hby at_201)
        have h147 : Vec Z h144 b111 .int j90 (ints (fun _ => (0 : Int32))) := h135.other W144 q118
        have h148 : Vec Z h144 b115 .int v110 (ints (updF (fun _ => (0 : Int32)) 0 (0 : Int32))) := V144
        have h149 : Vec Z h144 b121 .int j90 (ints (fun _ => (0 : Int32))) := h137.other W144 (Ne.symm q125)
        have h150 : Vec Z h144 b129 .int v110 (ints (fun _ => (0 : Int32))) := h138.other W144 (Ne.symm q133)
        have K144 : Keep h0 h144 [] := K129.wr W144 (Or.inr szb115)
        have N144 := Fr.snoc X144 N0 Gb115
        refine Go.st st144 ?_
        show Go p e below s Q 6 22 (T144.setTop (mkF m 202 #[.val (.int x0), .val (.int x1), .val (.int x2), .val (.int x3), .val (.int x4), .val (.int v14), .val (.int v17), .val (.int j18), .val (.int j27), .val (.int j37), .val (.int j46), .val (.int j90), .val (.int v110), .val (.ref b111), .val (.ref b115), .val (.ref b121), .val (.ref b129), .val (.int (0 : Int32)), .val (.int (0 : Int32)), .unset] []))
        refine Go.st (fun _ k => XS.aload X144.here hx rfl (hb hby at_202) rfl rfl k) ?_
        show Go p e below s Q 6 22 (T144.setTop (mkF m 204 #[.val (.int x0), .val (.int x1), .val (.int x2), .val (.int x3), .val (.int x4), .val (.int v14), .val (.int v17), .val (.int j18), .val (.int j27), .val (.int j37), .val (.int j46), .val (.int j90), .val (.int v110), .val (.ref b111), .val (.ref b115), .val (.ref b121), .val (.ref b129), .val (.int (0 : Int32)), .val (.int (0 : Int32)), .unset] [(.ref b129)]))
        refine Go.st (fun _ k => XS.iload X144.here hx rfl (hb hby at_204) rfl k) ?_
        show Go p e below s Q 6 22 (T144.setTop (mkF m 206 #[.val (.int x0), .val (.int x1), .val (.int x2), .val (.int x3), .val (.int x4), .val (.int v14), .val (.int v17), .val (.int j18), .val (.int j27), .val (.int j37), .val (.int j46), .val (.int j90), .val (.int v110), .val (.ref b111), .val (.ref b115), .val (.ref b121), .val (.ref b129), .val (.int (0 : Int32)), .val (.int (0 : Int32)), .unset] [(.int (0 : Int32)), (.ref b129)]))
        refine Go.st (fun _ k => XS.iloadN X144.here hx rfl (hb hby at_206) rfl k) ?_
        show Go p e below s Q 6 22 (T144.setTop (mkF m 207 #[.val (.int x0), .val (.int x1), .val (.int x2), .val (.int x3), .val (.int x4), .val (.int v14), .val (.int v17), .val (.int j18), .val (.int j27), .val (.int j37), .val (.int j46), .val (.int j90), .val (.int v110), .val (.ref b111), .val (.ref b115), .val (.ref b121), .val (.ref b129), .val (.int (0 : Int32)), .val (.int (0 : Int32)), .unset] [(.int x1), (.int (0 : Int32)), (.ref b129)]))
        have r152 : 0 ≤ (0 : Int32).toInt := by omega
        have r153 : (0 : Int32).toInt < v110.toInt := by omega
        obtain ⟨T151, h151, X151, e151, W151, V151, st151⟩ := Vec.istI X144 hx hZ e144 h150 (j := (0 : Int32)) r152 r153 (g := (mkF m 207 #[.val (.int x0), .val (.int x1), .val (.int x2), .val (.int x3), .val (.int x4), .val (.int v14), .val (.int v17), .val (.int j18), .val (.int j27), .val (.int j37), .val (.int j46), .val (.int j90), .val (.int v110), .val (.ref b111), .val (.ref b115), .val (.ref b121), .val (.ref b129), .val (.int (0 : Int32)), .val (.int (0 : Int32)), .unset] [(.int x1), (.int (0 : Int32)), (.ref b129)])) rfl rfl (hb hby at_207)
        have h154 : Vec Z h151 b111 .int j90 (ints (fun _ => (0 : Int32))) := h147.other W151 q132
        have h155 : Vec Z h151 b115 .int v110 (ints (updF (fun _ => (0 : Int32)) 0 (0 : Int32))) := h148.other W151 q133
        have h156 : Vec Z h151 b121 .int j90 (ints (fun _ => (0 : Int32))) := h149.other W151 q134
        have h157 : Vec Z h151 b129 .int v110 (ints (updF (fun _ => (0 : Int32)) 0 x1)) := V151
        have K151 : Keep h0 h151 [] := K144.wr W151 (Or.inr szb129)
        have N151 := Fr.snoc X151 N144 Gb129
        refine Go.st st151 ?_
        show Go p e below s Q 6 22 (T151.setTop (mkF m 208 #[.val (.int x0), .val (.int x1), .val (.int x2), .val (.int x3), .val (.int x4), .val (.int v14), .val (.int v17), .val (.int j18), .val (.int j27), .val (.int j37), .val (.int j46), .val (.int j90), .val (.int v110), .val (.ref b111), .val (.ref b115), .val (.ref b121), .val (.ref b129), .val (.int (0 : Int32)), .val (.int (0 : Int32)), .unset] []))
        refine Go.st (fun _ k => XS.iinc X151.here hx rfl (hb hby at_208) rfl (l' := #[.val (.int x0), .val (.int x1), .val (.int x2), .val (.int x3), .val (.int x4), .val (.int v14), .val (.int v17), .val (.int j18), .val (.int j27), .val (.int j37), .val (.int j46), .val (.int j90), .val (.int v110), .val (.ref b111), .val (.ref b115), .val (.ref b121), .val (.ref b129), .val (.int (0 : Int32)), .val (.int ((0 : Int32) + (1 : Int32))), .unset]) rfl k) ?_
        show Go p e below s Q 6 22 (T151.setTop (mkF m 211 #[.val (.int x0), .val (.int x1), .val (.int x2), .val (.int x3), .val (.int x4), .val (.int v14), .val (.int v17), .val (.int j18), .val (.int j27), .val (.int j37), .val (.int j46), .val (.int j90), .val (.int v110), .val (.ref b111), .val (.ref b115), .val (.ref b121), .val (.ref b129), .val (.int (0 : Int32)), .val (.int ((0 : Int32) + (1 : Int32))), .unset] []))
        have f158 := liI_1
        have f159 := c_iadd (0 : Int32) (1 : Int32)
        have f160 := rng32 ((0 : Int32) + (1 : Int32))
        generalize hv_v161 : ((0 : Int32) + (1 : Int32)) = v161 at f159 f160 ⊢
        exact J140 T151 h151 _ (up X151 (by decide) (by decide)) e151 N151 K151 (0 : Int32) v161 (0 + 1) (fun _ => (0 : Int32)) (updF (fun _ => (0 : Int32)) 0 (0 : Int32)) (fun _ => (0 : Int32)) (updF (fun _ => (0 : Int32)) 0 x1) h154 h155 h156 h157 (by omega) (by omega) (by unfold Hid; omega) (by exact FInv.cast (FInv.right 0 FInv.start (by omega) (by omega) (by omega) rfl) (by omega) (by omega) (by omega))
      ·
        refine Go.st (fun _ k => XS.ifNo X129.here hx rfl (hb hby at_175) rfl ((if0 _ _).trans (feq (neI rfl liI_0 c143)).1) k) ?_
        show Go p e below s Q 6 22 (T129.setTop (mkF m 178 #[.val (.int x0), .val (.int x1), .val (.int x2), .val (.int x3), .val (.int x4), .val (.int v14), .val (.int v17), .val (.int j18), .val (.int j27), .val (.int j37), .val (.int j46), .val (.int j90), .val (.int v110), .val (.ref b111), .val (.ref b115), .val (.ref b121), .val (.ref b129), .val (.int (0 : Int32)), .val (.int (0 : Int32)), .unset] []))
        refine Go.st (fun _ k => XS.aload X129.here hx rfl (hb hby at_178) rfl rfl k) ?_
        show Go p e below s Q 6 22 (T129.setTop (mkF m 180 #[.val (.int x0), .val (.int x1), .val (.int x2), .val (.int x3), .val (.int x4), .val (.int v14), .val (.int v17), .val (.int j18), .val (.int j27), .val (.int j37), .val (.int j46), .val (.int j90), .val (.int v110), .val (.ref b111), .val (.ref b115), .val (.ref b121), .val (.ref b129), .val (.int (0 : Int32)), .val (.int (0 : Int32)), .unset] [(.ref b111)]))
        refine Go.st (fun _ k => XS.iload X129.here hx rfl (hb hby at_180) rfl k) ?_
        show Go p e below s Q 6 22 (T129.setTop (mkF m 182 #[.val (.int x0), .val (.int x1), .val (.int x2), .val (.int x3), .val (.int x4), .val (.int v14), .val (.int v17), .val (.int j18), .val (.int j27), .val (.int j37), .val (.int j46), .val (.int j90), .val (.int v110), .val (.ref b111), .val (.ref b115), .val (.ref b121), .val (.ref b129), .val (.int (0 : Int32)), .val (.int (0 : Int32)), .unset] [(.int (0 : Int32)), (.ref b111)]))
        refine Go.st (fun _ k => XS.iconst X129.here hx rfl (hb hby at_182) k) ?_
        show Go p e below s Q 6 22 (T129.setTop (mkF m 183 #[.val (.int x0), .val (.int x1), .val (.int x2), .val (.int x3), .val (.int x4), .val (.int v14), .val (.int v17), .val (.int j18), .val (.int j27), .val (.int j37), .val (.int j46), .val (.int j90), .val (.int v110), .val (.ref b111), .val (.ref b115), .val (.ref b121), .val (.ref b129), .val (.int (0 : Int32)), .val (.int (0 : Int32)), .unset] [(.int (0 : Int32)), (.int (0 : Int32)), (.ref b111)]))
        have r163 : 0 ≤ (0 : Int32).toInt := by omega
        have r164 : (0 : Int32).toInt < j90.toInt := by omega
        obtain ⟨T162, h162, X162, e162, W162, V162, st162⟩ := Vec.istI X129 hx hZ e129 h135 (j := (0 : Int32)) r163 r164 (g := (mkF m 183 #[.val (.int x0), .val (.int x1), .val (.int x2), .val (.int x3), .val (.int x4), .val (.int v14), .val (.int v17), .val (.int j18), .val (.int j27), .val (.int j37), .val (.int j46), .val (.int j90), .val (.int v110), .val (.ref b111), .val (.ref b115), .val (.ref b121), .val (.ref b129), .val (.int (0 : Int32)), .val (.int (0 : Int32)), .unset] [(.int (0 : Int32)), (.int (0 : Int32)), (.ref b111)])) rfl rfl (hb hby at_183)
        have h165 : Vec Z h162 b111 .int j90 (ints (updF (fun _ => (0 : Int32)) 0 (0 : Int32))) := V162
        have h166 : Vec Z h162 b115 .int v110 (ints (fun _ => (0 : Int32))) := h136.other W162 (Ne.symm q118)
        have h167 : Vec Z h162 b121 .int j90 (ints (fun _ => (0 : Int32))) := h137.other W162 (Ne.symm q124)
        have h168 : Vec Z h162 b129 .int v110 (ints (fun _ => (0 : Int32))) := h138.other W162 (Ne.symm q132)
        have K162 : Keep h0 h162 [] := K129.wr W162 (Or.inr szb111)
        have N162 := Fr.snoc X162 N0 Gb111
        refine Go.st st162 ?_
        show Go p e below s Q 6 22 (T162.setTop (mkF m 184 #[.val (.int x0), .val (.int x1), .val (.int x2), .val (.int x3), .val (.int x4), .val (.int v14), .val (.int v17), .val (.int j18), .val (.int j27), .val (.int j37), .val (.int j46), .val (.int j90), .val (.int v110), .val (.ref b111), .val (.ref b115), .val (.ref b121), .val (.ref b129), .val (.int (0 : Int32)), .val (.int (0 : Int32)), .unset] []))
        refine Go.st (fun _ k => XS.aload X162.here hx rfl (hb hby at_184) rfl rfl k) ?_
        show Go p e below s Q 6 22 (T162.setTop (mkF m 186 #[.val (.int x0), .val (.int x1), .val (.int x2), .val (.int x3), .val (.int x4), .val (.int v14), .val (.int v17), .val (.int j18), .val (.int j27), .val (.int j37), .val (.int j46), .val (.int j90), .val (.int v110), .val (.ref b111), .val (.ref b115), .val (.ref b121), .val (.ref b129), .val (.int (0 : Int32)), .val (.int (0 : Int32)), .unset] [(.ref b121)]))
        refine Go.st (fun _ k => XS.iload X162.here hx rfl (hb hby at_186) rfl k) ?_
        show Go p e below s Q 6 22 (T162.setTop (mkF m 188 #[.val (.int x0), .val (.int x1), .val (.int x2), .val (.int x3), .val (.int x4), .val (.int v14), .val (.int v17), .val (.int j18), .val (.int j27), .val (.int j37), .val (.int j46), .val (.int j90), .val (.int v110), .val (.ref b111), .val (.ref b115), .val (.ref b121), .val (.ref b129), .val (.int (0 : Int32)), .val (.int (0 : Int32)), .unset] [(.int (0 : Int32)), (.ref b121)]))
        refine Go.st (fun _ k => XS.iloadN X162.here hx rfl (hb hby at_188) rfl k) ?_
        show Go p e below s Q 6 22 (T162.setTop (mkF m 189 #[.val (.int x0), .val (.int x1), .val (.int x2), .val (.int x3), .val (.int x4), .val (.int v14), .val (.int v17), .val (.int j18), .val (.int j27), .val (.int j37), .val (.int j46), .val (.int j90), .val (.int v110), .val (.ref b111), .val (.ref b115), .val (.ref b121), .val (.ref b129), .val (.int (0 : Int32)), .val (.int (0 : Int32)), .unset] [(.int x1), (.int (0 : Int32)), (.ref b121)]))
        have r170 : 0 ≤ (0 : Int32).toInt := by omega
        have r171 : (0 : Int32).toInt < j90.toInt := by omega
        obtain ⟨T169, h169, X169, e169, W169, V169, st169⟩ := Vec.istI X162 hx hZ e162 h167 (j := (0 : Int32)) r170 r171 (g := (mkF m 189 #[.val (.int x0), .val (.int x1), .val (.int x2), .val (.int x3), .val (.int x4), .val (.int v14), .val (.int v17), .val (.int j18), .val (.int j27), .val (.int j37), .val (.int j46), .val (.int j90), .val (.int v110), .val (.ref b111), .val (.ref b115), .val (.ref b121), .val (.ref b129), .val (.int (0 : Int32)), .val (.int (0 : Int32)), .unset] [(.int x1), (.int (0 : Int32)), (.ref b121)])) rfl rfl (hb hby at_189)
        have h172 : Vec Z h169 b111 .int j90 (ints (updF (fun _ => (0 : Int32)) 0 (0 : Int32))) := h165.other W169 q124
        have h173 : Vec Z h169 b115 .int v110 (ints (fun _ => (0 : Int32))) := h166.other W169 q125
        have h174 : Vec Z h169 b121 .int j90 (ints (updF (fun _ => (0 : Int32)) 0 x1)) := V169
        have h175 : Vec Z h169 b129 .int v110 (ints (fun _ => (0 : Int32))) := h168.other W169 (Ne.symm q134)
        have K169 : Keep h0 h169 [] := K162.wr W169 (Or.inr szb121)
        have N169 := Fr.snoc X169 N162 Gb121
        refine Go.st st169 ?_
        show Go p e below s Q 6 22 (T169.setTop (mkF m 190 #[.val (.int x0), .val (.int x1), .val (.int x2), .val (.int x3), .val (.int x4), .val (.int v14), .val (.int v17), .val (.int j18), .val (.int j27), .val (.int j37), .val (.int j46), .val (.int j90), .val (.int v110), .val (.ref b111), .val (.ref b115), .val (.ref b121), .val (.ref b129), .val (.int (0 : Int32)), .val (.int (0 : Int32)), .unset] []))
        refine Go.st (fun _ k => XS.iinc X169.here hx rfl (hb hby at_190) rfl (l' := #[.val (.int x0), .val (.int x1), .val (.int x2), .val (.int x3), .val (.int x4), .val (.int v14), .val (.int v17), .val (.int j18), .val (.int j27), .val (.int j37), .val (.int j46), .val (.int j90), .val (.int v110), .val (.ref b111), .val (.ref b115), .val (.ref b121), .val (.ref b129), .val (.int ((0 : Int32) + (1 : Int32))), .val (.int (0 : Int32)), .unset]) rfl k) ?_
        show Go p e below s Q 6 22 (T169.setTop (mkF m 193 #[.val (.int x0), .val (.int x1), .val (.int x2), .val (.int x3), .val (.int x4), .val (.int v14), .val (.int v17), .val (.int j18), .val (.int j27), .val (.int j37), .val (.int j46), .val (.int j90), .val (.int v110), .val (.ref b111), .val (.ref b115), .val (.ref b121), .val (.ref b129), .val (.int ((0 : Int32) + (1 : Int32))), .val (.int (0 : Int32)), .unset] []))
        have f176 := liI_1
        have f177 := c_iadd (0 : Int32) (1 : Int32)
        have f178 := rng32 ((0 : Int32) + (1 : Int32))
        generalize hv_v179 : ((0 : Int32) + (1 : Int32)) = v179 at f177 f178 ⊢
        refine Go.st (fun _ k => XS.goto X169.here hx rfl (pc0 := 193) (pc' := 211) rfl (hb hby at_193) (by decide) (by decide) k) ?_
        show Go p e below s Q 6 22 (T169.setTop (mkF m 211 #[.val (.int x0), .val (.int x1), .val (.int x2), .val (.int x3), .val (.int x4), .val (.int v14), .val (.int v17), .val (.int j18), .val (.int j27), .val (.int j37), .val (.int j46), .val (.int j90), .val (.int v110), .val (.ref b111), .val (.ref b115), .val (.ref b121), .val (.ref b129), .val (.int v179), .val (.int (0 : Int32)), .unset] []))
        exact J140 T169 h169 _ (up X169 (by decide) (by decide)) e169 N169 K169 v179 (0 : Int32) (0 + 1) (updF (fun _ => (0 : Int32)) 0 (0 : Int32)) (fun _ => (0 : Int32)) (updF (fun _ => (0 : Int32)) 0 x1) (fun _ => (0 : Int32)) h172 h173 h174 h175 (by omega) (by omega) (by unfold Hid; omega) (by exact FInv.cast (FInv.left 0 FInv.start (by omega) (by omega) (by omega) rfl) (by omega) (by omega) (by omega))
    ·
      refine Go.st (fun _ k => XS.ifYes X129.here hx rfl (pc0 := 170) (pc' := 211) rfl (hb hby at_170) rfl ((if0 _ _).trans (flt (nltI liI_0 rfl c142)).2.2.2) (by decide) (by decide) k) ?_
      show Go p e below s Q 6 22 (T129.setTop (mkF m 211 #[.val (.int x0), .val (.int x1), .val (.int x2), .val (.int x3), .val (.int x4), .val (.int v14), .val (.int v17), .val (.int j18), .val (.int j27), .val (.int j37), .val (.int j46), .val (.int j90), .val (.int v110), .val (.ref b111), .val (.ref b115), .val (.ref b121), .val (.ref b129), .val (.int (0 : Int32)), .val (.int (0 : Int32)), .unset] []))
      exact J140 T129 h129 _ (up X129 (by decide) (by decide)) e129 N0 K129 (0 : Int32) (0 : Int32) (0) (fun _ => (0 : Int32)) (fun _ => (0 : Int32)) (fun _ => (0 : Int32)) (fun _ => (0 : Int32)) h135 h136 h137 h138 (by omega) (by omega) (by unfold Hid; omega) (by exact FInv.cast FInv.start (by omega) (by omega) (by omega))
  intro Tg139 hg139 Lgg139 Xg139 eg139 Ng139 Kg139 li1 hi1 kt1 fa1 fb1 ga1 gb1 hfg139_0 hfg139_1 hfg139_2 hfg139_3 hpg139_0 hpg139_1 hpg139_2 hpg139_3
  have f180 := rng32 li1
  have f181 := rng32 hi1
  suffices J183 : ∀ (Tg182 : State) (hg182 : Heap) (Lgg182 : List Loc) (Xg182 : Stand p l e room_1 s m #[(.int x0), (.int x1), (.int x2), (.int x3), (.int x4)] below meth c Tg182 Lgg182 4 16) (eg182 : Tg182.heap = hg182) (Ng182 : Fr n0 Lgg182) (Kg182 : Keep h0 hg182 []) (li2 : Int32) (hi2 : Int32) (kt2 : Int) (fa2 : Nat → Int32) (fb2 : Nat → Int32) (ga2 : Nat → Int32) (gb2 : Nat → Int32) (hfg182_0 : Vec Z hg182 b111 .int j90 (ints fa2)) (hfg182_1 : Vec Z hg182 b115 .int v110 (ints fb2)) (hfg182_2 : Vec Z hg182 b121 .int j90 (ints ga2)) (hfg182_3 : Vec Z hg182 b129 .int v110 (ints gb2)) (hpg182_0 : li2.toInt = j67.toInt) (hpg182_1 : li2.toInt + hi2.toInt = kt2) (hpg182_2 : Hid ((2 ≤ v14.toInt ∧ kt2 = 2) ∨ (v14.toInt < 2 ∧ kt2 = v14.toInt))) (hpg182_3 : FInv kt2 li2.toInt hi2.toInt fa2 fb2 ga2 gb2 (lst [x1, x2, x3, x4])), Go p e below s Q 6 22 (Tg182.setTop (mkF m 255 #[.val (.int x0), .val (.int x1), .val (.int x2), .val (.int x3), .val (.int x4), .val (.int v14), .val (.int v17), .val (.int j18), .val (.int j27), .val (.int j37), .val (.int j46), .val (.int j90), .val (.int v110), .val (.ref b111), .val (.ref b115), .val (.ref b121), .val (.ref b129), .val (.int li2), .val (.int hi2), .unset] [])) by
    have hu1 := hid_1
    unfold Hid at hu1
    have l0 := liI_1
    have hu2 := hpg139_2
    unfold Hid at hu2
    refine Go.st (fun _ k => XS.iload Xg139.here hx rfl (hb hby at_211) rfl k) ?_
    show Go p e below s Q 6 22 (Tg139.setTop (mkF m 213 #[.val (.int x0), .val (.int x1), .val (.int x2), .val (.int x3), .val (.int x4), .val (.int v14), .val (.int v17), .val (.int j18), .val (.int j27), .val (.int j37), .val (.int j46), .val (.int j90), .val (.int v110), .val (.ref b111), .val (.ref b115), .val (.ref b121), .val (.ref b129), .val (.int li1), .val (.int hi1), .unset] [(.int v14)]))
    refine Go.st (fun _ k => XS.iconst Xg139.here hx rfl (hb hby at_213) k) ?_
    show Go p e below s Q 6 22 (Tg139.setTop (mkF m 214 #[.val (.int x0), .val (.int x1), .val (.int x2), .val (.int x3), .val (.int x4), .val (.int v14), .val (.int v17), .val (.int j18), .val (.int j27), .val (.int j37), .val (.int j46), .val (.int j90), .val (.int v110), .val (.ref b111), .val (.ref b115), .val (.ref b121), .val (.ref b129), .val (.int li1), .val (.int hi1), .unset] [(.int (1 : Int32)), (.int v14)]))
    have f184 := liI_1
    by_cases c185 : 1 < v14.toInt
    ·
      refine Go.st (fun _ k => XS.icmpNo Xg139.here hx rfl (hb hby at_214) rfl (tlt (ltI liI_1 rfl c185)).2.2.2 k) ?_
      show Go p e below s Q 6 22 (Tg139.setTop (mkF m 217 #[.val (.int x0), .val (.int x1), .val (.int x2), .val (.int x3), .val (.int x4), .val (.int v14), .val (.int v17), .val (.int j18), .val (.int j27), .val (.int j37), .val (.int j46), .val (.int j90), .val (.int v110), .val (.ref b111), .val (.ref b115), .val (.ref b121), .val (.ref b129), .val (.int li1), .val (.int hi1), .unset] []))
      refine Go.st (fun _ k => XS.iload Xg139.here hx rfl (hb hby at_217) rfl k) ?_
      show Go p e below s Q 6 22 (Tg139.setTop (mkF m 219 #[.val (.int x0), .val (.int x1), .val (.int x2), .val (.int x3), .val (.int x4), .val (.int v14), .val (.int v17), .val (.int j18), .val (.int j27), .val (.int j37), .val (.int j46), .val (.int j90), .val (.int v110), .val (.ref b111), .val (.ref b115), .val (.ref b121), .val (.ref b129), .val (.int li1), .val (.int hi1), .unset] [(.int j27)]))
      have f186 := liI_0
      by_cases c187 : j27.toInt = 0
      ·
        refine Go.st (fun _ k => XS.ifYes Xg139.here hx rfl (pc0 := 219) (pc' := 240) rfl (hb hby at_219) rfl ((if0 _ _).trans (teq (eqI rfl liI_0 c187)).1) (by decide) (by decide) k) ?_
        show Go p e below s Q 6 22 (Tg139.setTop (mkF m 240 #[.val (.int x0), .val (.int x1), .val (.int x2), .val (.int x3), .val (.int x4), .val (.int v14), .val (.int v17), .val (.int j18), .val (.int j27), .val (.int j37), .val (.int j46), .val (.int j90), .val (.int v110), .val (.ref b111), .val (.ref b115), .val (.ref b121), .val (.ref b129), .val (.int li1), .val (.int hi1), .unset] []))
        refine Go.st (fun _ k => XS.aload Xg139.here hx rfl (hb hby at_240) rfl rfl k) ?_
        show Go p e below s Q 6 22 (Tg139.setTop (mkF m 242 #[.val (.int x0), .val (.int x1), .val (.int x2), .val (.int x3), .val (.int x4), .val (.int v14), .val (.int v17), .val (.int j18), .val (.int j27), .val (.int j37), .val (.int j46), .val (.int j90), .val (.int v110), .val (.ref b111), .val (.ref b115), .val (.ref b121), .val (.ref b129), .val (.int li1), .val (.int hi1), .unset] [(.ref b115)]))
        refine Go.st (fun _ k => XS.iload Xg139.here hx rfl (hb hby at_242) rfl k) ?_
        show Go p e below s Q 6 22 (Tg139.setTop (mkF m 244 #[.val (.int x0), .val (.int x1), .val (.int x2), .val (.int x3), .val (.int x4), .val (.int v14), .val (.int v17), .val (.int j18), .val (.int j27), .val (.int j37), .val (.int j46), .val (.int j90), .val (.int v110), .val (.ref b111), .val (.ref b115), .val (.ref b121), .val (.ref b129), .val (.int li1), .val (.int hi1), .unset] [(.int hi1), (.ref b115)]))
        refine Go.st (fun _ k => XS.iconst Xg139.here hx rfl (hb hby at_244) k) ?_
        show Go p e below s Q 6 22 (Tg139.setTop (mkF m 245 #[.val (.int x0), .val (.int x1), .val (.int x2), .val (.int x3), .val (.int x4), .val (.int v14), .val (.int v17), .val (.int j18), .val (.int j27), .val (.int j37), .val (.int j46), .val (.int j90), .val (.int v110), .val (.ref b111), .val (.ref b115), .val (.ref b121), .val (.ref b129), .val (.int li1), .val (.int hi1), .unset] [(.int (1 : Int32)), (.int hi1), (.ref b115)]))
        have r189 : 0 ≤ hi1.toInt := by omega
        have r190 : hi1.toInt < v110.toInt := by omega
        obtain ⟨T188, h188, X188, e188, W188, V188, st188⟩ := Vec.istI Xg139 hx hZ eg139 hfg139_1 (j := hi1) r189 r190 (g := (mkF m 245 #[.val (.int x0), .val (.int x1), .val (.int x2), .val (.int x3), .val (.int x4), .val (.int v14), .val (.int v17), .val (.int j18), .val (.int j27), .val (.int j37), .val (.int j46), .val (.int j90), .val (.int v110), .val (.ref b111), .val (.ref b115), .val (.ref b121), .val (.ref b129), .val (.int li1), .val (.int hi1), .unset] [(.int (1 : Int32)), (.int hi1), (.ref b115)])) rfl rfl (hb hby at_245)
        have h191 : Vec Z h188 b111 .int j90 (ints fa1) := hfg139_0.other W188 q118
        have h192 : Vec Z h188 b115 .int v110 (ints (updF fb1 hi1.toInt.toNat (1 : Int32))) := V188
        have h193 : Vec Z h188 b121 .int j90 (ints ga1) := hfg139_2.other W188 (Ne.symm q125)
        have h194 : Vec Z h188 b129 .int v110 (ints gb1) := hfg139_3.other W188 (Ne.symm q133)
        have K188 : Keep h0 h188 [] := Kg139.wr W188 (Or.inr szb115)
        have N188 := Fr.snoc X188 Ng139 Gb115
        refine Go.st st188 ?_
        show Go p e below s Q 6 22 (T188.setTop (mkF m 246 #[.val (.int x0), .val (.int x1), .val (.int x2), .val (.int x3), .val (.int x4), .val (.int v14), .val (.int v17), .val (.int j18), .val (.int j27), .val (.int j37), .val (.int j46), .val (.int j90), .val (.int v110), .val (.ref b111), .val (.ref b115), .val (.ref b121), .val (.ref b129), .val (.int li1), .val (.int hi1), .unset] []))
        refine Go.st (fun _ k => XS.aload X188.here hx rfl (hb hby at_246) rfl rfl k) ?_
        show Go p e below s Q 6 22 (T188.setTop (mkF m 248 #[.val (.int x0), .val (.int x1), .val (.int x2), .val (.int x3), .val (.int x4), .val (.int v14), .val (.int v17), .val (.int j18), .val (.int j27), .val (.int j37), .val (.int j46), .val (.int j90), .val (.int v110), .val (.ref b111), .val (.ref b115), .val (.ref b121), .val (.ref b129), .val (.int li1), .val (.int hi1), .unset] [(.ref b129)]))
        refine Go.st (fun _ k => XS.iload X188.here hx rfl (hb hby at_248) rfl k) ?_
        show Go p e below s Q 6 22 (T188.setTop (mkF m 250 #[.val (.int x0), .val (.int x1), .val (.int x2), .val (.int x3), .val (.int x4), .val (.int v14), .val (.int v17), .val (.int j18), .val (.int j27), .val (.int j37), .val (.int j46), .val (.int j90), .val (.int v110), .val (.ref b111), .val (.ref b115), .val (.ref b121), .val (.ref b129), .val (.int li1), .val (.int hi1), .unset] [(.int hi1), (.ref b129)]))
        refine Go.st (fun _ k => XS.iloadN X188.here hx rfl (hb hby at_250) rfl k) ?_
        show Go p e below s Q 6 22 (T188.setTop (mkF m 251 #[.val (.int x0), .val (.int x1), .val (.int x2), .val (.int x3), .val (.int x4), .val (.int v14), .val (.int v17), .val (.int j18), .val (.int j27), .val (.int j37), .val (.int j46), .val (.int j90), .val (.int v110), .val (.ref b111), .val (.ref b115), .val (.ref b121), .val (.ref b129), .val (.int li1), .val (.int hi1), .unset] [(.int x2), (.int hi1), (.ref b129)]))
        have r196 : 0 ≤ hi1.toInt := by omega
        have r197 : hi1.toInt < v110.toInt := by omega
        obtain ⟨T195, h195, X195, e195, W195, V195, st195⟩ := Vec.istI X188 hx hZ e188 h194 (j := hi1) r196 r197 (g := (mkF m 251 #[.val (.int x0), .val (.int x1), .val (.int x2), .val (.int x3), .val (.int x4), .val (.int v14), .val (.int v17), .val (.int j18), .val (.int j27), .val (.int j37), .val (.int j46), .val (.int j90), .val (.int v110), .val (.ref b111), .val (.ref b115), .val (.ref b121), .val (.ref b129), .val (.int li1), .val (.int hi1), .unset] [(.int x2), (.int hi1), (.ref b129)])) rfl rfl (hb hby at_251)
        have h198 : Vec Z h195 b111 .int j90 (ints fa1) := h191.other W195 q132
        have h199 : Vec Z h195 b115 .int v110 (ints (updF fb1 hi1.toInt.toNat (1 : Int32))) := h192.other W195 q133
        have h200 : Vec Z h195 b121 .int j90 (ints ga1) := h193.other W195 q134
        have h201 : Vec Z h195 b129 .int v110 (ints (updF gb1 hi1.toInt.toNat x2)) := V195
        have K195 : Keep h0 h195 [] := K188.wr W195 (Or.inr szb129)
        have N195 := Fr.snoc X195 N188 Gb129
        refine Go.st st195 ?_
        show Go p e below s Q 6 22 (T195.setTop (mkF m 252 #[.val (.int x0), .val (.int x1), .val (.int x2), .val (.int x3), .val (.int x4), .val (.int v14), .val (.int v17), .val (.int j18), .val (.int j27), .val (.int j37), .val (.int j46), .val (.int j90), .val (.int v110), .val (.ref b111), .val (.ref b115), .val (.ref b121), .val (.ref b129), .val (.int li1), .val (.int hi1), .unset] []))
        refine Go.st (fun _ k => XS.iinc X195.here hx rfl (hb hby at_252) rfl (l' := #[.val (.int x0), .val (.int x1), .val (.int x2), .val (.int x3), .val (.int x4), .val (.int v14), .val (.int v17), .val (.int j18), .val (.int j27), .val (.int j37), .val (.int j46), .val (.int j90), .val (.int v110), .val (.ref b111), .val (.ref b115), .val (.ref b121), .val (.ref b129), .val (.int li1), .val (.int (hi1 + (1 : Int32))), .unset]) rfl k) ?_
        show Go p e below s Q 6 22 (T195.setTop (mkF m 255 #[.val (.int x0), .val (.int x1), .val (.int x2), .val (.int x3), .val (.int x4), .val (.int v14), .val (.int v17), .val (.int j18), .val (.int j27), .val (.int j37), .val (.int j46), .val (.int j90), .val (.int v110), .val (.ref b111), .val (.ref b115), .val (.ref b121), .val (.ref b129), .val (.int li1), .val (.int (hi1 + (1 : Int32))), .unset] []))
        have f202 := c_iadd hi1 (1 : Int32)
        have f203 := rng32 (hi1 + (1 : Int32))
        generalize hv_v204 : (hi1 + (1 : Int32)) = v204 at f202 f203 ⊢
        exact J183 T195 h195 _ (up X195 (by decide) (by decide)) e195 N195 K195 li1 v204 (kt1 + 1) fa1 (updF fb1 hi1.toInt.toNat (1 : Int32)) ga1 (updF gb1 hi1.toInt.toNat x2) h198 h199 h200 h201 (by omega) (by omega) (by unfold Hid; omega) (by exact FInv.cast (FInv.right 1 hpg139_3 (by omega) (by omega) (by omega) rfl) (by omega) (by omega) (by omega))
      ·
        refine Go.st (fun _ k => XS.ifNo Xg139.here hx rfl (hb hby at_219) rfl ((if0 _ _).trans (feq (neI rfl liI_0 c187)).1) k) ?_
        show Go p e below s Q 6 22 (Tg139.setTop (mkF m 222 #[.val (.int x0), .val (.int x1), .val (.int x2), .val (.int x3), .val (.int x4), .val (.int v14), .val (.int v17), .val (.int j18), .val (.int j27), .val (.int j37), .val (.int j46), .val (.int j90), .val (.int v110), .val (.ref b111), .val (.ref b115), .val (.ref b121), .val (.ref b129), .val (.int li1), .val (.int hi1), .unset] []))
        refine Go.st (fun _ k => XS.aload Xg139.here hx rfl (hb hby at_222) rfl rfl k) ?_
        show Go p e below s Q 6 22 (Tg139.setTop (mkF m 224 #[.val (.int x0), .val (.int x1), .val (.int x2), .val (.int x3), .val (.int x4), .val (.int v14), .val (.int v17), .val (.int j18), .val (.int j27), .val (.int j37), .val (.int j46), .val (.int j90), .val (.int v110), .val (.ref b111), .val (.ref b115), .val (.ref b121), .val (.ref b129), .val (.int li1), .val (.int hi1), .unset] [(.ref b111)]))
        refine Go.st (fun _ k => XS.iload Xg139.here hx rfl (hb hby at_224) rfl k) ?_
        show Go p e below s Q 6 22 (Tg139.setTop (mkF m 226 #[.val (.int x0), .val (.int x1), .val (.int x2), .val (.int x3), .val (.int x4), .val (.int v14), .val (.int v17), .val (.int j18), .val (.int j27), .val (.int j37), .val (.int j46), .val (.int j90), .val (.int v110), .val (.ref b111), .val (.ref b115), .val (.ref b121), .val (.ref b129), .val (.int li1), .val (.int hi1), .unset] [(.int li1), (.ref b111)]))
        refine Go.st (fun _ k => XS.iconst Xg139.here hx rfl (hb hby at_226) k) ?_
        show Go p e below s Q 6 22 (Tg139.setTop (mkF m 227 #[.val (.int x0), .val (.int x1), .val (.int x2), .val (.int x3), .val (.int x4), .val (.int v14), .val (.int v17), .val (.int j18), .val (.int j27), .val (.int j37), .val (.int j46), .val (.int j90), .val (.int v110), .val (.ref b111), .val (.ref b115), .val (.ref b121), .val (.ref b129), .val (.int li1), .val (.int hi1), .unset] [(.int (1 : Int32)), (.int li1), (.ref b111)]))
        have r206 : 0 ≤ li1.toInt := by omega
        have r207 : li1.toInt < j90.toInt := by omega
        obtain ⟨T205, h205, X205, e205, W205, V205, st205⟩ := Vec.istI Xg139 hx hZ eg139 hfg139_0 (j := li1) r206 r207 (g := (mkF m 227 #[.val (.int x0), .val (.int x1), .val (.int x2), .val (.int x3), .val (.int x4), .val (.int v14), .val (.int v17), .val (.int j18), .val (.int j27), .val (.int j37), .val (.int j46), .val (.int j90), .val (.int v110), .val (.ref b111), .val (.ref b115), .val (.ref b121), .val (.ref b129), .val (.int li1), .val (.int hi1), .unset] [(.int (1 : Int32)), (.int li1), (.ref b111)])) rfl rfl (hb hby at_227)
        have h208 : Vec Z h205 b111 .int j90 (ints (updF fa1 li1.toInt.toNat (1 : Int32))) := V205
        have h209 : Vec Z h205 b115 .int v110 (ints fb1) := hfg139_1.other W205 (Ne.symm q118)
        have h210 : Vec Z h205 b121 .int j90 (ints ga1) := hfg139_2.other W205 (Ne.symm q124)
        have h211 : Vec Z h205 b129 .int v110 (ints gb1) := hfg139_3.other W205 (Ne.symm q132)
        have K205 : Keep h0 h205 [] := Kg139.wr W205 (Or.inr szb111)
        have N205 := Fr.snoc X205 Ng139 Gb111
        refine Go.st st205 ?_
        show Go p e below s Q 6 22 (T205.setTop (mkF m 228 #[.val (.int x0), .val (.int x1), .val (.int x2), .val (.int x3), .val (.int x4), .val (.int v14), .val (.int v17), .val (.int j18), .val (.int j27), .val (.int j37), .val (.int j46), .val (.int j90), .val (.int v110), .val (.ref b111), .val (.ref b115), .val (.ref b121), .val (.ref b129), .val (.int li1), .val (.int hi1), .unset] []))
        refine Go.st (fun _ k => XS.aload X205.here hx rfl (hb hby at_228) rfl rfl k) ?_
        show Go p e below s Q 6 22 (T205.setTop (mkF m 230 #[.val (.int x0), .val (.int x1), .val (.int x2), .val (.int x3), .val (.int x4), .val (.int v14), .val (.int v17), .val (.int j18), .val (.int j27), .val (.int j37), .val (.int j46), .val (.int j90), .val (.int v110), .val (.ref b111), .val (.ref b115), .val (.ref b121), .val (.ref b129), .val (.int li1), .val (.int hi1), .unset] [(.ref b121)]))
        refine Go.st (fun _ k => XS.iload X205.here hx rfl (hb hby at_230) rfl k) ?_
        show Go p e below s Q 6 22 (T205.setTop (mkF m 232 #[.val (.int x0), .val (.int x1), .val (.int x2), .val (.int x3), .val (.int x4), .val (.int v14), .val (.int v17), .val (.int j18), .val (.int j27), .val (.int j37), .val (.int j46), .val (.int j90), .val (.int v110), .val (.ref b111), .val (.ref b115), .val (.ref b121), .val (.ref b129), .val (.int li1), .val (.int hi1), .unset] [(.int li1), (.ref b121)]))
        refine Go.st (fun _ k => XS.iloadN X205.here hx rfl (hb hby at_232) rfl k) ?_
        show Go p e below s Q 6 22 (T205.setTop (mkF m 233 #[.val (.int x0), .val (.int x1), .val (.int x2), .val (.int x3), .val (.int x4), .val (.int v14), .val (.int v17), .val (.int j18), .val (.int j27), .val (.int j37), .val (.int j46), .val (.int j90), .val (.int v110), .val (.ref b111), .val (.ref b115), .val (.ref b121), .val (.ref b129), .val (.int li1), .val (.int hi1), .unset] [(.int x2), (.int li1), (.ref b121)]))
        have r213 : 0 ≤ li1.toInt := by omega
        have r214 : li1.toInt < j90.toInt := by omega
        obtain ⟨T212, h212, X212, e212, W212, V212, st212⟩ := Vec.istI X205 hx hZ e205 h210 (j := li1) r213 r214 (g := (mkF m 233 #[.val (.int x0), .val (.int x1), .val (.int x2), .val (.int x3), .val (.int x4), .val (.int v14), .val (.int v17), .val (.int j18), .val (.int j27), .val (.int j37), .val (.int j46), .val (.int j90), .val (.int v110), .val (.ref b111), .val (.ref b115), .val (.ref b121), .val (.ref b129), .val (.int li1), .val (.int hi1), .unset] [(.int x2), (.int li1), (.ref b121)])) rfl rfl (hb hby at_233)
        have h215 : Vec Z h212 b111 .int j90 (ints (updF fa1 li1.toInt.toNat (1 : Int32))) := h208.other W212 q124
        have h216 : Vec Z h212 b115 .int v110 (ints fb1) := h209.other W212 q125
        have h217 : Vec Z h212 b121 .int j90 (ints (updF ga1 li1.toInt.toNat x2)) := V212
        have h218 : Vec Z h212 b129 .int v110 (ints gb1) := h211.other W212 (Ne.symm q134)
        have K212 : Keep h0 h212 [] := K205.wr W212 (Or.inr szb121)
        have N212 := Fr.snoc X212 N205 Gb121
        refine Go.st st212 ?_
        show Go p e below s Q 6 22 (T212.setTop (mkF m 234 #[.val (.int x0), .val (.int x1), .val (.int x2), .val (.int x3), .val (.int x4), .val (.int v14), .val (.int v17), .val (.int j18), .val (.int j27), .val (.int j37), .val (.int j46), .val (.int j90), .val (.int v110), .val (.ref b111), .val (.ref b115), .val (.ref b121), .val (.ref b129), .val (.int li1), .val (.int hi1), .unset] []))
        refine Go.st (fun _ k => XS.iinc X212.here hx rfl (hb hby at_234) rfl (l' := #[.val (.int x0), .val (.int x1), .val (.int x2), .val (.int x3), .val (.int x4), .val (.int v14), .val (.int v17), .val (.int j18), .val (.int j27), .val (.int j37), .val (.int j46), .val (.int j90), .val (.int v110), .val (.ref b111), .val (.ref b115), .val (.ref b121), .val (.ref b129), .val (.int (li1 + (1 : Int32))), .val (.int hi1), .unset]) rfl k) ?_
        show Go p e below s Q 6 22 (T212.setTop (mkF m 237 #[.val (.int x0), .val (.int x1), .val (.int x2), .val (.int x3), .val (.int x4), .val (.int v14), .val (.int v17), .val (.int j18), .val (.int j27), .val (.int j37), .val (.int j46), .val (.int j90), .val (.int v110), .val (.ref b111), .val (.ref b115), .val (.ref b121), .val (.ref b129), .val (.int (li1 + (1 : Int32))), .val (.int hi1), .unset] []))
        have f219 := c_iadd li1 (1 : Int32)
        have f220 := rng32 (li1 + (1 : Int32))
        generalize hv_v221 : (li1 + (1 : Int32)) = v221 at f219 f220 ⊢
        refine Go.st (fun _ k => XS.goto X212.here hx rfl (pc0 := 237) (pc' := 255) rfl (hb hby at_237) (by decide) (by decide) k) ?_
        show Go p e below s Q 6 22 (T212.setTop (mkF m 255 #[.val (.int x0), .val (.int x1), .val (.int x2), .val (.int x3), .val (.int x4), .val (.int v14), .val (.int v17), .val (.int j18), .val (.int j27), .val (.int j37), .val (.int j46), .val (.int j90), .val (.int v110), .val (.ref b111), .val (.ref b115), .val (.ref b121), .val (.ref b129), .val (.int v221), .val (.int hi1), .unset] []))
        exact J183 T212 h212 _ (up X212 (by decide) (by decide)) e212 N212 K212 v221 hi1 (kt1 + 1) (updF fa1 li1.toInt.toNat (1 : Int32)) fb1 (updF ga1 li1.toInt.toNat x2) gb1 h215 h216 h217 h218 (by omega) (by omega) (by unfold Hid; omega) (by exact FInv.cast (FInv.left 1 hpg139_3 (by omega) (by omega) (by omega) rfl) (by omega) (by omega) (by omega))
    ·
      refine Go.st (fun _ k => XS.icmpYes Xg139.here hx rfl (pc0 := 214) (pc' := 255) rfl (hb hby at_214) rfl (flt (nltI liI_1 rfl c185)).2.2.2 (by decide) (by decide) k) ?_
      show Go p e below s Q 6 22 (Tg139.setTop (mkF m 255 #[.val (.int x0), .val (.int x1), .val (.int x2), .val (.int x3), .val (.int x4), .val (.int v14), .val (.int v17), .val (.int j18), .val (.int j27), .val (.int j37), .val (.int j46), .val (.int j90), .val (.int v110), .val (.ref b111), .val (.ref b115), .val (.ref b121), .val (.ref b129), .val (.int li1), .val (.int hi1), .unset] []))
      exact J183 Tg139 hg139 _ (up Xg139 (by decide) (by decide)) eg139 Ng139 Kg139 li1 hi1 (kt1) fa1 fb1 ga1 gb1 hfg139_0 hfg139_1 hfg139_2 hfg139_3 (by omega) (by omega) (by unfold Hid; omega) (by exact FInv.cast hpg139_3 (by omega) (by omega) (by omega))
  intro Tg182 hg182 Lgg182 Xg182 eg182 Ng182 Kg182 li2 hi2 kt2 fa2 fb2 ga2 gb2 hfg182_0 hfg182_1 hfg182_2 hfg182_3 hpg182_0 hpg182_1 hpg182_2 hpg182_3
  have f222 := rng32 li2
  have f223 := rng32 hi2
  suffices J225 : ∀ (Tg224 : State) (hg224 : Heap) (Lgg224 : List Loc) (Xg224 : Stand p l e room_1 s m #[(.int x0), (.int x1), (.int x2), (.int x3), (.int x4)] below meth c Tg224 Lgg224 4 16) (eg224 : Tg224.heap = hg224) (Ng224 : Fr n0 Lgg224) (Kg224 : Keep h0 hg224 []) (li3 : Int32) (hi3 : Int32) (kt3 : Int) (fa3 : Nat → Int32) (fb3 : Nat → Int32) (ga3 : Nat → Int32) (gb3 : Nat → Int32) (hfg224_0 : Vec Z hg224 b111 .int j90 (ints fa3)) (hfg224_1 : Vec Z hg224 b115 .int v110 (ints fb3)) (hfg224_2 : Vec Z hg224 b121 .int j90 (ints ga3)) (hfg224_3 : Vec Z hg224 b129 .int v110 (ints gb3)) (hpg224_0 : li3.toInt = j78.toInt) (hpg224_1 : li3.toInt + hi3.toInt = kt3) (hpg224_2 : Hid ((3 ≤ v14.toInt ∧ kt3 = 3) ∨ (v14.toInt < 3 ∧ kt3 = v14.toInt))) (hpg224_3 : FInv kt3 li3.toInt hi3.toInt fa3 fb3 ga3 gb3 (lst [x1, x2, x3, x4])), Go p e below s Q 6 22 (Tg224.setTop (mkF m 299 #[.val (.int x0), .val (.int x1), .val (.int x2), .val (.int x3), .val (.int x4), .val (.int v14), .val (.int v17), .val (.int j18), .val (.int j27), .val (.int j37), .val (.int j46), .val (.int j90), .val (.int v110), .val (.ref b111), .val (.ref b115), .val (.ref b121), .val (.ref b129), .val (.int li3), .val (.int hi3), .unset] [])) by
    have hu1 := hid_2
    unfold Hid at hu1
    have l0 := liI_2
    have hu2 := hpg182_2
    unfold Hid at hu2
    refine Go.st (fun _ k => XS.iload Xg182.here hx rfl (hb hby at_255) rfl k) ?_
    show Go p e below s Q 6 22 (Tg182.setTop (mkF m 257 #[.val (.int x0), .val (.int x1), .val (.int x2), .val (.int x3), .val (.int x4), .val (.int v14), .val (.int v17), .val (.int j18), .val (.int j27), .val (.int j37), .val (.int j46), .val (.int j90), .val (.int v110), .val (.ref b111), .val (.ref b115), .val (.ref b121), .val (.ref b129), .val (.int li2), .val (.int hi2), .unset] [(.int v14)]))
    refine Go.st (fun _ k => XS.iconst Xg182.here hx rfl (hb hby at_257) k) ?_
    show Go p e below s Q 6 22 (Tg182.setTop (mkF m 258 #[.val (.int x0), .val (.int x1), .val (.int x2), .val (.int x3), .val (.int x4), .val (.int v14), .val (.int v17), .val (.int j18), .val (.int j27), .val (.int j37), .val (.int j46), .val (.int j90), .val (.int v110), .val (.ref b111), .val (.ref b115), .val (.ref b121), .val (.ref b129), .val (.int li2), .val (.int hi2), .unset] [(.int (2 : Int32)), (.int v14)]))
    have f226 := liI_2
    by_cases c227 : 2 < v14.toInt
    ·
      refine Go.st (fun _ k => XS.icmpNo Xg182.here hx rfl (hb hby at_258) rfl (tlt (ltI liI_2 rfl c227)).2.2.2 k) ?_
      show Go p e below s Q 6 22 (Tg182.setTop (mkF m 261 #[.val (.int x0), .val (.int x1), .val (.int x2), .val (.int x3), .val (.int x4), .val (.int v14), .val (.int v17), .val (.int j18), .val (.int j27), .val (.int j37), .val (.int j46), .val (.int j90), .val (.int v110), .val (.ref b111), .val (.ref b115), .val (.ref b121), .val (.ref b129), .val (.int li2), .val (.int hi2), .unset] []))
      refine Go.st (fun _ k => XS.iload Xg182.here hx rfl (hb hby at_261) rfl k) ?_
      show Go p e below s Q 6 22 (Tg182.setTop (mkF m 263 #[.val (.int x0), .val (.int x1), .val (.int x2), .val (.int x3), .val (.int x4), .val (.int v14), .val (.int v17), .val (.int j18), .val (.int j27), .val (.int j37), .val (.int j46), .val (.int j90), .val (.int v110), .val (.ref b111), .val (.ref b115), .val (.ref b121), .val (.ref b129), .val (.int li2), .val (.int hi2), .unset] [(.int j37)]))
      have f228 := liI_0
      by_cases c229 : j37.toInt = 0
      ·
        refine Go.st (fun _ k => XS.ifYes Xg182.here hx rfl (pc0 := 263) (pc' := 284) rfl (hb hby at_263) rfl ((if0 _ _).trans (teq (eqI rfl liI_0 c229)).1) (by decide) (by decide) k) ?_
        show Go p e below s Q 6 22 (Tg182.setTop (mkF m 284 #[.val (.int x0), .val (.int x1), .val (.int x2), .val (.int x3), .val (.int x4), .val (.int v14), .val (.int v17), .val (.int j18), .val (.int j27), .val (.int j37), .val (.int j46), .val (.int j90), .val (.int v110), .val (.ref b111), .val (.ref b115), .val (.ref b121), .val (.ref b129), .val (.int li2), .val (.int hi2), .unset] []))
        refine Go.st (fun _ k => XS.aload Xg182.here hx rfl (hb hby at_284) rfl rfl k) ?_
        show Go p e below s Q 6 22 (Tg182.setTop (mkF m 286 #[.val (.int x0), .val (.int x1), .val (.int x2), .val (.int x3), .val (.int x4), .val (.int v14), .val (.int v17), .val (.int j18), .val (.int j27), .val (.int j37), .val (.int j46), .val (.int j90), .val (.int v110), .val (.ref b111), .val (.ref b115), .val (.ref b121), .val (.ref b129), .val (.int li2), .val (.int hi2), .unset] [(.ref b115)]))
        refine Go.st (fun _ k => XS.iload Xg182.here hx rfl (hb hby at_286) rfl k) ?_
        show Go p e below s Q 6 22 (Tg182.setTop (mkF m 288 #[.val (.int x0), .val (.int x1), .val (.int x2), .val (.int x3), .val (.int x4), .val (.int v14), .val (.int v17), .val (.int j18), .val (.int j27), .val (.int j37), .val (.int j46), .val (.int j90), .val (.int v110), .val (.ref b111), .val (.ref b115), .val (.ref b121), .val (.ref b129), .val (.int li2), .val (.int hi2), .unset] [(.int hi2), (.ref b115)]))
        refine Go.st (fun _ k => XS.iconst Xg182.here hx rfl (hb hby at_288) k) ?_
        show Go p e below s Q 6 22 (Tg182.setTop (mkF m 289 #[.val (.int x0), .val (.int x1), .val (.int x2), .val (.int x3), .val (.int x4), .val (.int v14), .val (.int v17), .val (.int j18), .val (.int j27), .val (.int j37), .val (.int j46), .val (.int j90), .val (.int v110), .val (.ref b111), .val (.ref b115), .val (.ref b121), .val (.ref b129), .val (.int li2), .val (.int hi2), .unset] [(.int (2 : Int32)), (.int hi2), (.ref b115)]))
        have r231 : 0 ≤ hi2.toInt := by omega
        have r232 : hi2.toInt < v110.toInt := by omega
        obtain ⟨T230, h230, X230, e230, W230, V230, st230⟩ := Vec.istI Xg182 hx hZ eg182 hfg182_1 (j := hi2) r231 r232 (g := (mkF m 289 #[.val (.int x0), .val (.int x1), .val (.int x2), .val (.int x3), .val (.int x4), .val (.int v14), .val (.int v17), .val (.int j18), .val (.int j27), .val (.int j37), .val (.int j46), .val (.int j90), .val (.int v110), .val (.ref b111), .val (.ref b115), .val (.ref b121), .val (.ref b129), .val (.int li2), .val (.int hi2), .unset] [(.int (2 : Int32)), (.int hi2), (.ref b115)])) rfl rfl (hb hby at_289)
        have h233 : Vec Z h230 b111 .int j90 (ints fa2) := hfg182_0.other W230 q118
        have h234 : Vec Z h230 b115 .int v110 (ints (updF fb2 hi2.toInt.toNat (2 : Int32))) := V230
        have h235 : Vec Z h230 b121 .int j90 (ints ga2) := hfg182_2.other W230 (Ne.symm q125)
        have h236 : Vec Z h230 b129 .int v110 (ints gb2) := hfg182_3.other W230 (Ne.symm q133)
        have K230 : Keep h0 h230 [] := Kg182.wr W230 (Or.inr szb115)
        have N230 := Fr.snoc X230 Ng182 Gb115
        refine Go.st st230 ?_
        show Go p e below s Q 6 22 (T230.setTop (mkF m 290 #[.val (.int x0), .val (.int x1), .val (.int x2), .val (.int x3), .val (.int x4), .val (.int v14), .val (.int v17), .val (.int j18), .val (.int j27), .val (.int j37), .val (.int j46), .val (.int j90), .val (.int v110), .val (.ref b111), .val (.ref b115), .val (.ref b121), .val (.ref b129), .val (.int li2), .val (.int hi2), .unset] []))
        refine Go.st (fun _ k => XS.aload X230.here hx rfl (hb hby at_290) rfl rfl k) ?_
        show Go p e below s Q 6 22 (T230.setTop (mkF m 292 #[.val (.int x0), .val (.int x1), .val (.int x2), .val (.int x3), .val (.int x4), .val (.int v14), .val (.int v17), .val (.int j18), .val (.int j27), .val (.int j37), .val (.int j46), .val (.int j90), .val (.int v110), .val (.ref b111), .val (.ref b115), .val (.ref b121), .val (.ref b129), .val (.int li2), .val (.int hi2), .unset] [(.ref b129)]))
        refine Go.st (fun _ k => XS.iload X230.here hx rfl (hb hby at_292) rfl k) ?_
        show Go p e below s Q 6 22 (T230.setTop (mkF m 294 #[.val (.int x0), .val (.int x1), .val (.int x2), .val (.int x3), .val (.int x4), .val (.int v14), .val (.int v17), .val (.int j18), .val (.int j27), .val (.int j37), .val (.int j46), .val (.int j90), .val (.int v110), .val (.ref b111), .val (.ref b115), .val (.ref b121), .val (.ref b129), .val (.int li2), .val (.int hi2), .unset] [(.int hi2), (.ref b129)]))
        refine Go.st (fun _ k => XS.iloadN X230.here hx rfl (hb hby at_294) rfl k) ?_
        show Go p e below s Q 6 22 (T230.setTop (mkF m 295 #[.val (.int x0), .val (.int x1), .val (.int x2), .val (.int x3), .val (.int x4), .val (.int v14), .val (.int v17), .val (.int j18), .val (.int j27), .val (.int j37), .val (.int j46), .val (.int j90), .val (.int v110), .val (.ref b111), .val (.ref b115), .val (.ref b121), .val (.ref b129), .val (.int li2), .val (.int hi2), .unset] [(.int x3), (.int hi2), (.ref b129)]))
        have r238 : 0 ≤ hi2.toInt := by omega
        have r239 : hi2.toInt < v110.toInt := by omega
        obtain ⟨T237, h237, X237, e237, W237, V237, st237⟩ := Vec.istI X230 hx hZ e230 h236 (j := hi2) r238 r239 (g := (mkF m 295 #[.val (.int x0), .val (.int x1), .val (.int x2), .val (.int x3), .val (.int x4), .val (.int v14), .val (.int v17), .val (.int j18), .val (.int j27), .val (.int j37), .val (.int j46), .val (.int j90), .val (.int v110), .val (.ref b111), .val (.ref b115), .val (.ref b121), .val (.ref b129), .val (.int li2), .val (.int hi2), .unset] [(.int x3), (.int hi2), (.ref b129)])) rfl rfl (hb hby at_295)
        have h240 : Vec Z h237 b111 .int j90 (ints fa2) := h233.other W237 q132
        have h241 : Vec Z h237 b115 .int v110 (ints (updF fb2 hi2.toInt.toNat (2 : Int32))) := h234.other W237 q133
        have h242 : Vec Z h237 b121 .int j90 (ints ga2) := h235.other W237 q134
        have h243 : Vec Z h237 b129 .int v110 (ints (updF gb2 hi2.toInt.toNat x3)) := V237
        have K237 : Keep h0 h237 [] := K230.wr W237 (Or.inr szb129)
        have N237 := Fr.snoc X237 N230 Gb129
        refine Go.st st237 ?_
        show Go p e below s Q 6 22 (T237.setTop (mkF m 296 #[.val (.int x0), .val (.int x1), .val (.int x2), .val (.int x3), .val (.int x4), .val (.int v14), .val (.int v17), .val (.int j18), .val (.int j27), .val (.int j37), .val (.int j46), .val (.int j90), .val (.int v110), .val (.ref b111), .val (.ref b115), .val (.ref b121), .val (.ref b129), .val (.int li2), .val (.int hi2), .unset] []))
        refine Go.st (fun _ k => XS.iinc X237.here hx rfl (hb hby at_296) rfl (l' := #[.val (.int x0), .val (.int x1), .val (.int x2), .val (.int x3), .val (.int x4), .val (.int v14), .val (.int v17), .val (.int j18), .val (.int j27), .val (.int j37), .val (.int j46), .val (.int j90), .val (.int v110), .val (.ref b111), .val (.ref b115), .val (.ref b121), .val (.ref b129), .val (.int li2), .val (.int (hi2 + (1 : Int32))), .unset]) rfl k) ?_
        show Go p e below s Q 6 22 (T237.setTop (mkF m 299 #[.val (.int x0), .val (.int x1), .val (.int x2), .val (.int x3), .val (.int x4), .val (.int v14), .val (.int v17), .val (.int j18), .val (.int j27), .val (.int j37), .val (.int j46), .val (.int j90), .val (.int v110), .val (.ref b111), .val (.ref b115), .val (.ref b121), .val (.ref b129), .val (.int li2), .val (.int (hi2 + (1 : Int32))), .unset] []))
        have f244 := liI_1
        have f245 := c_iadd hi2 (1 : Int32)
        have f246 := rng32 (hi2 + (1 : Int32))
        generalize hv_v247 : (hi2 + (1 : Int32)) = v247 at f245 f246 ⊢
        exact J225 T237 h237 _ (up X237 (by decide) (by decide)) e237 N237 K237 li2 v247 (kt2 + 1) fa2 (updF fb2 hi2.toInt.toNat (2 : Int32)) ga2 (updF gb2 hi2.toInt.toNat x3) h240 h241 h242 h243 (by omega) (by omega) (by unfold Hid; omega) (by exact FInv.cast (FInv.right 2 hpg182_3 (by omega) (by omega) (by omega) rfl) (by omega) (by omega) (by omega))
      ·
        refine Go.st (fun _ k => XS.ifNo Xg182.here hx rfl (hb hby at_263) rfl ((if0 _ _).trans (feq (neI rfl liI_0 c229)).1) k) ?_
        show Go p e below s Q 6 22 (Tg182.setTop (mkF m 266 #[.val (.int x0), .val (.int x1), .val (.int x2), .val (.int x3), .val (.int x4), .val (.int v14), .val (.int v17), .val (.int j18), .val (.int j27), .val (.int j37), .val (.int j46), .val (.int j90), .val (.int v110), .val (.ref b111), .val (.ref b115), .val (.ref b121), .val (.ref b129), .val (.int li2), .val (.int hi2), .unset] []))
        refine Go.st (fun _ k => XS.aload Xg182.here hx rfl (hb hby at_266) rfl rfl k) ?_
        show Go p e below s Q 6 22 (Tg182.setTop (mkF m 268 #[.val (.int x0), .val (.int x1), .val (.int x2), .val (.int x3), .val (.int x4), .val (.int v14), .val (.int v17), .val (.int j18), .val (.int j27), .val (.int j37), .val (.int j46), .val (.int j90), .val (.int v110), .val (.ref b111), .val (.ref b115), .val (.ref b121), .val (.ref b129), .val (.int li2), .val (.int hi2), .unset] [(.ref b111)]))
        refine Go.st (fun _ k => XS.iload Xg182.here hx rfl (hb hby at_268) rfl k) ?_
        show Go p e below s Q 6 22 (Tg182.setTop (mkF m 270 #[.val (.int x0), .val (.int x1), .val (.int x2), .val (.int x3), .val (.int x4), .val (.int v14), .val (.int v17), .val (.int j18), .val (.int j27), .val (.int j37), .val (.int j46), .val (.int j90), .val (.int v110), .val (.ref b111), .val (.ref b115), .val (.ref b121), .val (.ref b129), .val (.int li2), .val (.int hi2), .unset] [(.int li2), (.ref b111)]))
        refine Go.st (fun _ k => XS.iconst Xg182.here hx rfl (hb hby at_270) k) ?_
        show Go p e below s Q 6 22 (Tg182.setTop (mkF m 271 #[.val (.int x0), .val (.int x1), .val (.int x2), .val (.int x3), .val (.int x4), .val (.int v14), .val (.int v17), .val (.int j18), .val (.int j27), .val (.int j37), .val (.int j46), .val (.int j90), .val (.int v110), .val (.ref b111), .val (.ref b115), .val (.ref b121), .val (.ref b129), .val (.int li2), .val (.int hi2), .unset] [(.int (2 : Int32)), (.int li2), (.ref b111)]))
        have r249 : 0 ≤ li2.toInt := by omega
        have r250 : li2.toInt < j90.toInt := by omega
        obtain ⟨T248, h248, X248, e248, W248, V248, st248⟩ := Vec.istI Xg182 hx hZ eg182 hfg182_0 (j := li2) r249 r250 (g := (mkF m 271 #[.val (.int x0), .val (.int x1), .val (.int x2), .val (.int x3), .val (.int x4), .val (.int v14), .val (.int v17), .val (.int j18), .val (.int j27), .val (.int j37), .val (.int j46), .val (.int j90), .val (.int v110), .val (.ref b111), .val (.ref b115), .val (.ref b121), .val (.ref b129), .val (.int li2), .val (.int hi2), .unset] [(.int (2 : Int32)), (.int li2), (.ref b111)])) rfl rfl (hb hby at_271)
        have h251 : Vec Z h248 b111 .int j90 (ints (updF fa2 li2.toInt.toNat (2 : Int32))) := V248
        have h252 : Vec Z h248 b115 .int v110 (ints fb2) := hfg182_1.other W248 (Ne.symm q118)
        have h253 : Vec Z h248 b121 .int j90 (ints ga2) := hfg182_2.other W248 (Ne.symm q124)
        have h254 : Vec Z h248 b129 .int v110 (ints gb2) := hfg182_3.other W248 (Ne.symm q132)
        have K248 : Keep h0 h248 [] := Kg182.wr W248 (Or.inr szb111)
        have N248 := Fr.snoc X248 Ng182 Gb111
        refine Go.st st248 ?_
        show Go p e below s Q 6 22 (T248.setTop (mkF m 272 #[.val (.int x0), .val (.int x1), .val (.int x2), .val (.int x3), .val (.int x4), .val (.int v14), .val (.int v17), .val (.int j18), .val (.int j27), .val (.int j37), .val (.int j46), .val (.int j90), .val (.int v110), .val (.ref b111), .val (.ref b115), .val (.ref b121), .val (.ref b129), .val (.int li2), .val (.int hi2), .unset] []))
        refine Go.st (fun _ k => XS.aload X248.here hx rfl (hb hby at_272) rfl rfl k) ?_
        show Go p e below s Q 6 22 (T248.setTop (mkF m 274 #[.val (.int x0), .val (.int x1), .val (.int x2), .val (.int x3), .val (.int x4), .val (.int v14), .val (.int v17), .val (.int j18), .val (.int j27), .val (.int j37), .val (.int j46), .val (.int j90), .val (.int v110), .val (.ref b111), .val (.ref b115), .val (.ref b121), .val (.ref b129), .val (.int li2), .val (.int hi2), .unset] [(.ref b121)]))
        refine Go.st (fun _ k => XS.iload X248.here hx rfl (hb hby at_274) rfl k) ?_
        show Go p e below s Q 6 22 (T248.setTop (mkF m 276 #[.val (.int x0), .val (.int x1), .val (.int x2), .val (.int x3), .val (.int x4), .val (.int v14), .val (.int v17), .val (.int j18), .val (.int j27), .val (.int j37), .val (.int j46), .val (.int j90), .val (.int v110), .val (.ref b111), .val (.ref b115), .val (.ref b121), .val (.ref b129), .val (.int li2), .val (.int hi2), .unset] [(.int li2), (.ref b121)]))
        refine Go.st (fun _ k => XS.iloadN X248.here hx rfl (hb hby at_276) rfl k) ?_
        show Go p e below s Q 6 22 (T248.setTop (mkF m 277 #[.val (.int x0), .val (.int x1), .val (.int x2), .val (.int x3), .val (.int x4), .val (.int v14), .val (.int v17), .val (.int j18), .val (.int j27), .val (.int j37), .val (.int j46), .val (.int j90), .val (.int v110), .val (.ref b111), .val (.ref b115), .val (.ref b121), .val (.ref b129), .val (.int li2), .val (.int hi2), .unset] [(.int x3), (.int li2), (.ref b121)]))
        have r256 : 0 ≤ li2.toInt := by omega
        have r257 : li2.toInt < j90.toInt := by omega
        obtain ⟨T255, h255, X255, e255, W255, V255, st255⟩ := Vec.istI X248 hx hZ e248 h253 (j := li2) r256 r257 (g := (mkF m 277 #[.val (.int x0), .val (.int x1), .val (.int x2), .val (.int x3), .val (.int x4), .val (.int v14), .val (.int v17), .val (.int j18), .val (.int j27), .val (.int j37), .val (.int j46), .val (.int j90), .val (.int v110), .val (.ref b111), .val (.ref b115), .val (.ref b121), .val (.ref b129), .val (.int li2), .val (.int hi2), .unset] [(.int x3), (.int li2), (.ref b121)])) rfl rfl (hb hby at_277)
        have h258 : Vec Z h255 b111 .int j90 (ints (updF fa2 li2.toInt.toNat (2 : Int32))) := h251.other W255 q124
        have h259 : Vec Z h255 b115 .int v110 (ints fb2) := h252.other W255 q125
        have h260 : Vec Z h255 b121 .int j90 (ints (updF ga2 li2.toInt.toNat x3)) := V255
        have h261 : Vec Z h255 b129 .int v110 (ints gb2) := h254.other W255 (Ne.symm q134)
        have K255 : Keep h0 h255 [] := K248.wr W255 (Or.inr szb121)
        have N255 := Fr.snoc X255 N248 Gb121
        refine Go.st st255 ?_
        show Go p e below s Q 6 22 (T255.setTop (mkF m 278 #[.val (.int x0), .val (.int x1), .val (.int x2), .val (.int x3), .val (.int x4), .val (.int v14), .val (.int v17), .val (.int j18), .val (.int j27), .val (.int j37), .val (.int j46), .val (.int j90), .val (.int v110), .val (.ref b111), .val (.ref b115), .val (.ref b121), .val (.ref b129), .val (.int li2), .val (.int hi2), .unset] []))
        refine Go.st (fun _ k => XS.iinc X255.here hx rfl (hb hby at_278) rfl (l' := #[.val (.int x0), .val (.int x1), .val (.int x2), .val (.int x3), .val (.int x4), .val (.int v14), .val (.int v17), .val (.int j18), .val (.int j27), .val (.int j37), .val (.int j46), .val (.int j90), .val (.int v110), .val (.ref b111), .val (.ref b115), .val (.ref b121), .val (.ref b129), .val (.int (li2 + (1 : Int32))), .val (.int hi2), .unset]) rfl k) ?_
        show Go p e below s Q 6 22 (T255.setTop (mkF m 281 #[.val (.int x0), .val (.int x1), .val (.int x2), .val (.int x3), .val (.int x4), .val (.int v14), .val (.int v17), .val (.int j18), .val (.int j27), .val (.int j37), .val (.int j46), .val (.int j90), .val (.int v110), .val (.ref b111), .val (.ref b115), .val (.ref b121), .val (.ref b129), .val (.int (li2 + (1 : Int32))), .val (.int hi2), .unset] []))
        have f262 := liI_1
        have f263 := c_iadd li2 (1 : Int32)
        have f264 := rng32 (li2 + (1 : Int32))
        generalize hv_v265 : (li2 + (1 : Int32)) = v265 at f263 f264 ⊢
        refine Go.st (fun _ k => XS.goto X255.here hx rfl (pc0 := 281) (pc' := 299) rfl (hb hby at_281) (by decide) (by decide) k) ?_
        show Go p e below s Q 6 22 (T255.setTop (mkF m 299 #[.val (.int x0), .val (.int x1), .val (.int x2), .val (.int x3), .val (.int x4), .val (.int v14), .val (.int v17), .val (.int j18), .val (.int j27), .val (.int j37), .val (.int j46), .val (.int j90), .val (.int v110), .val (.ref b111), .val (.ref b115), .val (.ref b121), .val (.ref b129), .val (.int v265), .val (.int hi2), .unset] []))
        exact J225 T255 h255 _ (up X255 (by decide) (by decide)) e255 N255 K255 v265 hi2 (kt2 + 1) (updF fa2 li2.toInt.toNat (2 : Int32)) fb2 (updF ga2 li2.toInt.toNat x3) gb2 h258 h259 h260 h261 (by omega) (by omega) (by unfold Hid; omega) (by exact FInv.cast (FInv.left 2 hpg182_3 (by omega) (by omega) (by omega) rfl) (by omega) (by omega) (by omega))
    ·
      refine Go.st (fun _ k => XS.icmpYes Xg182.here hx rfl (pc0 := 258) (pc' := 299) rfl (hb hby at_258) rfl (flt (nltI liI_2 rfl c227)).2.2.2 (by decide) (by decide) k) ?_
      show Go p e below s Q 6 22 (Tg182.setTop (mkF m 299 #[.val (.int x0), .val (.int x1), .val (.int x2), .val (.int x3), .val (.int x4), .val (.int v14), .val (.int v17), .val (.int j18), .val (.int j27), .val (.int j37), .val (.int j46), .val (.int j90), .val (.int v110), .val (.ref b111), .val (.ref b115), .val (.ref b121), .val (.ref b129), .val (.int li2), .val (.int hi2), .unset] []))
      exact J225 Tg182 hg182 _ (up Xg182 (by decide) (by decide)) eg182 Ng182 Kg182 li2 hi2 (kt2) fa2 fb2 ga2 gb2 hfg182_0 hfg182_1 hfg182_2 hfg182_3 (by omega) (by omega) (by unfold Hid; omega) (by exact FInv.cast hpg182_3 (by omega) (by omega) (by omega))
  intro Tg224 hg224 Lgg224 Xg224 eg224 Ng224 Kg224 li3 hi3 kt3 fa3 fb3 ga3 gb3 hfg224_0 hfg224_1 hfg224_2 hfg224_3 hpg224_0 hpg224_1 hpg224_2 hpg224_3
  have f266 := rng32 li3
  have f267 := rng32 hi3
  suffices J269 : ∀ (Tg268 : State) (hg268 : Heap) (Lgg268 : List Loc) (Xg268 : Stand p l e room_1 s m #[(.int x0), (.int x1), (.int x2), (.int x3), (.int x4)] below meth c Tg268 Lgg268 4 16) (eg268 : Tg268.heap = hg268) (Ng268 : Fr n0 Lgg268) (Kg268 : Keep h0 hg268 []) (li4 : Int32) (hi4 : Int32) (kt4 : Int) (fa4 : Nat → Int32) (fb4 : Nat → Int32) (ga4 : Nat → Int32) (gb4 : Nat → Int32) (hfg268_0 : Vec Z hg268 b111 .int j90 (ints fa4)) (hfg268_1 : Vec Z hg268 b115 .int v110 (ints fb4)) (hfg268_2 : Vec Z hg268 b121 .int j90 (ints ga4)) (hfg268_3 : Vec Z hg268 b129 .int v110 (ints gb4)) (hpg268_0 : li4.toInt = j90.toInt) (hpg268_1 : li4.toInt + hi4.toInt = kt4) (hpg268_2 : Hid ((4 ≤ v14.toInt ∧ kt4 = 4) ∨ (v14.toInt < 4 ∧ kt4 = v14.toInt))) (hpg268_3 : FInv kt4 li4.toInt hi4.toInt fa4 fb4 ga4 gb4 (lst [x1, x2, x3, x4])), Go p e below s Q 6 22 (Tg268.setTop (mkF m 345 #[.val (.int x0), .val (.int x1), .val (.int x2), .val (.int x3), .val (.int x4), .val (.int v14), .val (.int v17), .val (.int j18), .val (.int j27), .val (.int j37), .val (.int j46), .val (.int j90), .val (.int v110), .val (.ref b111), .val (.ref b115), .val (.ref b121), .val (.ref b129), .val (.int li4), .val (.int hi4), .unset] [])) by
    have hu1 := hid_3
    unfold Hid at hu1
    have l0 := liI_3
    have hu2 := hpg224_2
    unfold Hid at hu2
    refine Go.st (fun _ k => XS.iload Xg224.here hx rfl (hb hby at_299) rfl k) ?_
    show Go p e below s Q 6 22 (Tg224.setTop (mkF m 301 #[.val (.int x0), .val (.int x1), .val (.int x2), .val (.int x3), .val (.int x4), .val (.int v14), .val (.int v17), .val (.int j18), .val (.int j27), .val (.int j37), .val (.int j46), .val (.int j90), .val (.int v110), .val (.ref b111), .val (.ref b115), .val (.ref b121), .val (.ref b129), .val (.int li3), .val (.int hi3), .unset] [(.int v14)]))
    refine Go.st (fun _ k => XS.iconst Xg224.here hx rfl (hb hby at_301) k) ?_
    show Go p e below s Q 6 22 (Tg224.setTop (mkF m 302 #[.val (.int x0), .val (.int x1), .val (.int x2), .val (.int x3), .val (.int x4), .val (.int v14), .val (.int v17), .val (.int j18), .val (.int j27), .val (.int j37), .val (.int j46), .val (.int j90), .val (.int v110), .val (.ref b111), .val (.ref b115), .val (.ref b121), .val (.ref b129), .val (.int li3), .val (.int hi3), .unset] [(.int (3 : Int32)), (.int v14)]))
    have f270 := liI_3
    by_cases c271 : 3 < v14.toInt
    ·
      refine Go.st (fun _ k => XS.icmpNo Xg224.here hx rfl (hb hby at_302) rfl (tlt (ltI liI_3 rfl c271)).2.2.2 k) ?_
      show Go p e below s Q 6 22 (Tg224.setTop (mkF m 305 #[.val (.int x0), .val (.int x1), .val (.int x2), .val (.int x3), .val (.int x4), .val (.int v14), .val (.int v17), .val (.int j18), .val (.int j27), .val (.int j37), .val (.int j46), .val (.int j90), .val (.int v110), .val (.ref b111), .val (.ref b115), .val (.ref b121), .val (.ref b129), .val (.int li3), .val (.int hi3), .unset] []))
      refine Go.st (fun _ k => XS.iload Xg224.here hx rfl (hb hby at_305) rfl k) ?_
      show Go p e below s Q 6 22 (Tg224.setTop (mkF m 307 #[.val (.int x0), .val (.int x1), .val (.int x2), .val (.int x3), .val (.int x4), .val (.int v14), .val (.int v17), .val (.int j18), .val (.int j27), .val (.int j37), .val (.int j46), .val (.int j90), .val (.int v110), .val (.ref b111), .val (.ref b115), .val (.ref b121), .val (.ref b129), .val (.int li3), .val (.int hi3), .unset] [(.int j46)]))
      have f272 := liI_0
      by_cases c273 : j46.toInt = 0
      ·
        refine Go.st (fun _ k => XS.ifYes Xg224.here hx rfl (pc0 := 307) (pc' := 329) rfl (hb hby at_307) rfl ((if0 _ _).trans (teq (eqI rfl liI_0 c273)).1) (by decide) (by decide) k) ?_
        show Go p e below s Q 6 22 (Tg224.setTop (mkF m 329 #[.val (.int x0), .val (.int x1), .val (.int x2), .val (.int x3), .val (.int x4), .val (.int v14), .val (.int v17), .val (.int j18), .val (.int j27), .val (.int j37), .val (.int j46), .val (.int j90), .val (.int v110), .val (.ref b111), .val (.ref b115), .val (.ref b121), .val (.ref b129), .val (.int li3), .val (.int hi3), .unset] []))
        refine Go.st (fun _ k => XS.aload Xg224.here hx rfl (hb hby at_329) rfl rfl k) ?_
        show Go p e below s Q 6 22 (Tg224.setTop (mkF m 331 #[.val (.int x0), .val (.int x1), .val (.int x2), .val (.int x3), .val (.int x4), .val (.int v14), .val (.int v17), .val (.int j18), .val (.int j27), .val (.int j37), .val (.int j46), .val (.int j90), .val (.int v110), .val (.ref b111), .val (.ref b115), .val (.ref b121), .val (.ref b129), .val (.int li3), .val (.int hi3), .unset] [(.ref b115)]))
        refine Go.st (fun _ k => XS.iload Xg224.here hx rfl (hb hby at_331) rfl k) ?_
        show Go p e below s Q 6 22 (Tg224.setTop (mkF m 333 #[.val (.int x0), .val (.int x1), .val (.int x2), .val (.int x3), .val (.int x4), .val (.int v14), .val (.int v17), .val (.int j18), .val (.int j27), .val (.int j37), .val (.int j46), .val (.int j90), .val (.int v110), .val (.ref b111), .val (.ref b115), .val (.ref b121), .val (.ref b129), .val (.int li3), .val (.int hi3), .unset] [(.int hi3), (.ref b115)]))
        refine Go.st (fun _ k => XS.iconst Xg224.here hx rfl (hb hby at_333) k) ?_
        show Go p e below s Q 6 22 (Tg224.setTop (mkF m 334 #[.val (.int x0), .val (.int x1), .val (.int x2), .val (.int x3), .val (.int x4), .val (.int v14), .val (.int v17), .val (.int j18), .val (.int j27), .val (.int j37), .val (.int j46), .val (.int j90), .val (.int v110), .val (.ref b111), .val (.ref b115), .val (.ref b121), .val (.ref b129), .val (.int li3), .val (.int hi3), .unset] [(.int (3 : Int32)), (.int hi3), (.ref b115)]))
        have r275 : 0 ≤ hi3.toInt := by omega
        have r276 : hi3.toInt < v110.toInt := by omega
        obtain ⟨T274, h274, X274, e274, W274, V274, st274⟩ := Vec.istI Xg224 hx hZ eg224 hfg224_1 (j := hi3) r275 r276 (g := (mkF m 334 #[.val (.int x0), .val (.int x1), .val (.int x2), .val (.int x3), .val (.int x4), .val (.int v14), .val (.int v17), .val (.int j18), .val (.int j27), .val (.int j37), .val (.int j46), .val (.int j90), .val (.int v110), .val (.ref b111), .val (.ref b115), .val (.ref b121), .val (.ref b129), .val (.int li3), .val (.int hi3), .unset] [(.int (3 : Int32)), (.int hi3), (.ref b115)])) rfl rfl (hb hby at_334)
        have h277 : Vec Z h274 b111 .int j90 (ints fa3) := hfg224_0.other W274 q118
        have h278 : Vec Z h274 b115 .int v110 (ints (updF fb3 hi3.toInt.toNat (3 : Int32))) := V274
        have h279 : Vec Z h274 b121 .int j90 (ints ga3) := hfg224_2.other W274 (Ne.symm q125)
        have h280 : Vec Z h274 b129 .int v110 (ints gb3) := hfg224_3.other W274 (Ne.symm q133)
        have K274 : Keep h0 h274 [] := Kg224.wr W274 (Or.inr szb115)
        have N274 := Fr.snoc X274 Ng224 Gb115
        refine Go.st st274 ?_
        show Go p e below s Q 6 22 (T274.setTop (mkF m 335 #[.val (.int x0), .val (.int x1), .val (.int x2), .val (.int x3), .val (.int x4), .val (.int v14), .val (.int v17), .val (.int j18), .val (.int j27), .val (.int j37), .val (.int j46), .val (.int j90), .val (.int v110), .val (.ref b111), .val (.ref b115), .val (.ref b121), .val (.ref b129), .val (.int li3), .val (.int hi3), .unset] []))
        refine Go.st (fun _ k => XS.aload X274.here hx rfl (hb hby at_335) rfl rfl k) ?_
        show Go p e below s Q 6 22 (T274.setTop (mkF m 337 #[.val (.int x0), .val (.int x1), .val (.int x2), .val (.int x3), .val (.int x4), .val (.int v14), .val (.int v17), .val (.int j18), .val (.int j27), .val (.int j37), .val (.int j46), .val (.int j90), .val (.int v110), .val (.ref b111), .val (.ref b115), .val (.ref b121), .val (.ref b129), .val (.int li3), .val (.int hi3), .unset] [(.ref b129)]))
        refine Go.st (fun _ k => XS.iload X274.here hx rfl (hb hby at_337) rfl k) ?_
        show Go p e below s Q 6 22 (T274.setTop (mkF m 339 #[.val (.int x0), .val (.int x1), .val (.int x2), .val (.int x3), .val (.int x4), .val (.int v14), .val (.int v17), .val (.int j18), .val (.int j27), .val (.int j37), .val (.int j46), .val (.int j90), .val (.int v110), .val (.ref b111), .val (.ref b115), .val (.ref b121), .val (.ref b129), .val (.int li3), .val (.int hi3), .unset] [(.int hi3), (.ref b129)]))
        refine Go.st (fun _ k => XS.iload X274.here hx rfl (hb hby at_339) rfl k) ?_
        show Go p e below s Q 6 22 (T274.setTop (mkF m 341 #[.val (.int x0), .val (.int x1), .val (.int x2), .val (.int x3), .val (.int x4), .val (.int v14), .val (.int v17), .val (.int j18), .val (.int j27), .val (.int j37), .val (.int j46), .val (.int j90), .val (.int v110), .val (.ref b111), .val (.ref b115), .val (.ref b121), .val (.ref b129), .val (.int li3), .val (.int hi3), .unset] [(.int x4), (.int hi3), (.ref b129)]))
        have r282 : 0 ≤ hi3.toInt := by omega
        have r283 : hi3.toInt < v110.toInt := by omega
        obtain ⟨T281, h281, X281, e281, W281, V281, st281⟩ := Vec.istI X274 hx hZ e274 h280 (j := hi3) r282 r283 (g := (mkF m 341 #[.val (.int x0), .val (.int x1), .val (.int x2), .val (.int x3), .val (.int x4), .val (.int v14), .val (.int v17), .val (.int j18), .val (.int j27), .val (.int j37), .val (.int j46), .val (.int j90), .val (.int v110), .val (.ref b111), .val (.ref b115), .val (.ref b121), .val (.ref b129), .val (.int li3), .val (.int hi3), .unset] [(.int x4), (.int hi3), (.ref b129)])) rfl rfl (hb hby at_341)
        have h284 : Vec Z h281 b111 .int j90 (ints fa3) := h277.other W281 q132
        have h285 : Vec Z h281 b115 .int v110 (ints (updF fb3 hi3.toInt.toNat (3 : Int32))) := h278.other W281 q133
        have h286 : Vec Z h281 b121 .int j90 (ints ga3) := h279.other W281 q134
        have h287 : Vec Z h281 b129 .int v110 (ints (updF gb3 hi3.toInt.toNat x4)) := V281
        have K281 : Keep h0 h281 [] := K274.wr W281 (Or.inr szb129)
        have N281 := Fr.snoc X281 N274 Gb129
        refine Go.st st281 ?_
        show Go p e below s Q 6 22 (T281.setTop (mkF m 342 #[.val (.int x0), .val (.int x1), .val (.int x2), .val (.int x3), .val (.int x4), .val (.int v14), .val (.int v17), .val (.int j18), .val (.int j27), .val (.int j37), .val (.int j46), .val (.int j90), .val (.int v110), .val (.ref b111), .val (.ref b115), .val (.ref b121), .val (.ref b129), .val (.int li3), .val (.int hi3), .unset] []))
        refine Go.st (fun _ k => XS.iinc X281.here hx rfl (hb hby at_342) rfl (l' := #[.val (.int x0), .val (.int x1), .val (.int x2), .val (.int x3), .val (.int x4), .val (.int v14), .val (.int v17), .val (.int j18), .val (.int j27), .val (.int j37), .val (.int j46), .val (.int j90), .val (.int v110), .val (.ref b111), .val (.ref b115), .val (.ref b121), .val (.ref b129), .val (.int li3), .val (.int (hi3 + (1 : Int32))), .unset]) rfl k) ?_
        show Go p e below s Q 6 22 (T281.setTop (mkF m 345 #[.val (.int x0), .val (.int x1), .val (.int x2), .val (.int x3), .val (.int x4), .val (.int v14), .val (.int v17), .val (.int j18), .val (.int j27), .val (.int j37), .val (.int j46), .val (.int j90), .val (.int v110), .val (.ref b111), .val (.ref b115), .val (.ref b121), .val (.ref b129), .val (.int li3), .val (.int (hi3 + (1 : Int32))), .unset] []))
        have f288 := liI_1
        have f289 := c_iadd hi3 (1 : Int32)
        have f290 := rng32 (hi3 + (1 : Int32))
        generalize hv_v291 : (hi3 + (1 : Int32)) = v291 at f289 f290 ⊢
        exact J269 T281 h281 _ (up X281 (by decide) (by decide)) e281 N281 K281 li3 v291 (kt3 + 1) fa3 (updF fb3 hi3.toInt.toNat (3 : Int32)) ga3 (updF gb3 hi3.toInt.toNat x4) h284 h285 h286 h287 (by omega) (by omega) (by unfold Hid; omega) (by exact FInv.cast (FInv.right 3 hpg224_3 (by omega) (by omega) (by omega) rfl) (by omega) (by omega) (by omega))
      ·
        refine Go.st (fun _ k => XS.ifNo Xg224.here hx rfl (hb hby at_307) rfl ((if0 _ _).trans (feq (neI rfl liI_0 c273)).1) k) ?_
        show Go p e below s Q 6 22 (Tg224.setTop (mkF m 310 #[.val (.int x0), .val (.int x1), .val (.int x2), .val (.int x3), .val (.int x4), .val (.int v14), .val (.int v17), .val (.int j18), .val (.int j27), .val (.int j37), .val (.int j46), .val (.int j90), .val (.int v110), .val (.ref b111), .val (.ref b115), .val (.ref b121), .val (.ref b129), .val (.int li3), .val (.int hi3), .unset] []))
        refine Go.st (fun _ k => XS.aload Xg224.here hx rfl (hb hby at_310) rfl rfl k) ?_
        show Go p e below s Q 6 22 (Tg224.setTop (mkF m 312 #[.val (.int x0), .val (.int x1), .val (.int x2), .val (.int x3), .val (.int x4), .val (.int v14), .val (.int v17), .val (.int j18), .val (.int j27), .val (.int j37), .val (.int j46), .val (.int j90), .val (.int v110), .val (.ref b111), .val (.ref b115), .val (.ref b121), .val (.ref b129), .val (.int li3), .val (.int hi3), .unset] [(.ref b111)]))
        refine Go.st (fun _ k => XS.iload Xg224.here hx rfl (hb hby at_312) rfl k) ?_
        show Go p e below s Q 6 22 (Tg224.setTop (mkF m 314 #[.val (.int x0), .val (.int x1), .val (.int x2), .val (.int x3), .val (.int x4), .val (.int v14), .val (.int v17), .val (.int j18), .val (.int j27), .val (.int j37), .val (.int j46), .val (.int j90), .val (.int v110), .val (.ref b111), .val (.ref b115), .val (.ref b121), .val (.ref b129), .val (.int li3), .val (.int hi3), .unset] [(.int li3), (.ref b111)]))
        refine Go.st (fun _ k => XS.iconst Xg224.here hx rfl (hb hby at_314) k) ?_
        show Go p e below s Q 6 22 (Tg224.setTop (mkF m 315 #[.val (.int x0), .val (.int x1), .val (.int x2), .val (.int x3), .val (.int x4), .val (.int v14), .val (.int v17), .val (.int j18), .val (.int j27), .val (.int j37), .val (.int j46), .val (.int j90), .val (.int v110), .val (.ref b111), .val (.ref b115), .val (.ref b121), .val (.ref b129), .val (.int li3), .val (.int hi3), .unset] [(.int (3 : Int32)), (.int li3), (.ref b111)]))
        have r293 : 0 ≤ li3.toInt := by omega
        have r294 : li3.toInt < j90.toInt := by omega
        obtain ⟨T292, h292, X292, e292, W292, V292, st292⟩ := Vec.istI Xg224 hx hZ eg224 hfg224_0 (j := li3) r293 r294 (g := (mkF m 315 #[.val (.int x0), .val (.int x1), .val (.int x2), .val (.int x3), .val (.int x4), .val (.int v14), .val (.int v17), .val (.int j18), .val (.int j27), .val (.int j37), .val (.int j46), .val (.int j90), .val (.int v110), .val (.ref b111), .val (.ref b115), .val (.ref b121), .val (.ref b129), .val (.int li3), .val (.int hi3), .unset] [(.int (3 : Int32)), (.int li3), (.ref b111)])) rfl rfl (hb hby at_315)
        have h295 : Vec Z h292 b111 .int j90 (ints (updF fa3 li3.toInt.toNat (3 : Int32))) := V292
        have h296 : Vec Z h292 b115 .int v110 (ints fb3) := hfg224_1.other W292 (Ne.symm q118)
        have h297 : Vec Z h292 b121 .int j90 (ints ga3) := hfg224_2.other W292 (Ne.symm q124)
        have h298 : Vec Z h292 b129 .int v110 (ints gb3) := hfg224_3.other W292 (Ne.symm q132)
        have K292 : Keep h0 h292 [] := Kg224.wr W292 (Or.inr szb111)
        have N292 := Fr.snoc X292 Ng224 Gb111
        refine Go.st st292 ?_
        show Go p e below s Q 6 22 (T292.setTop (mkF m 316 #[.val (.int x0), .val (.int x1), .val (.int x2), .val (.int x3), .val (.int x4), .val (.int v14), .val (.int v17), .val (.int j18), .val (.int j27), .val (.int j37), .val (.int j46), .val (.int j90), .val (.int v110), .val (.ref b111), .val (.ref b115), .val (.ref b121), .val (.ref b129), .val (.int li3), .val (.int hi3), .unset] []))
        refine Go.st (fun _ k => XS.aload X292.here hx rfl (hb hby at_316) rfl rfl k) ?_
        show Go p e below s Q 6 22 (T292.setTop (mkF m 318 #[.val (.int x0), .val (.int x1), .val (.int x2), .val (.int x3), .val (.int x4), .val (.int v14), .val (.int v17), .val (.int j18), .val (.int j27), .val (.int j37), .val (.int j46), .val (.int j90), .val (.int v110), .val (.ref b111), .val (.ref b115), .val (.ref b121), .val (.ref b129), .val (.int li3), .val (.int hi3), .unset] [(.ref b121)]))
        refine Go.st (fun _ k => XS.iload X292.here hx rfl (hb hby at_318) rfl k) ?_
        show Go p e below s Q 6 22 (T292.setTop (mkF m 320 #[.val (.int x0), .val (.int x1), .val (.int x2), .val (.int x3), .val (.int x4), .val (.int v14), .val (.int v17), .val (.int j18), .val (.int j27), .val (.int j37), .val (.int j46), .val (.int j90), .val (.int v110), .val (.ref b111), .val (.ref b115), .val (.ref b121), .val (.ref b129), .val (.int li3), .val (.int hi3), .unset] [(.int li3), (.ref b121)]))
        refine Go.st (fun _ k => XS.iload X292.here hx rfl (hb hby at_320) rfl k) ?_
        show Go p e below s Q 6 22 (T292.setTop (mkF m 322 #[.val (.int x0), .val (.int x1), .val (.int x2), .val (.int x3), .val (.int x4), .val (.int v14), .val (.int v17), .val (.int j18), .val (.int j27), .val (.int j37), .val (.int j46), .val (.int j90), .val (.int v110), .val (.ref b111), .val (.ref b115), .val (.ref b121), .val (.ref b129), .val (.int li3), .val (.int hi3), .unset] [(.int x4), (.int li3), (.ref b121)]))
        have r300 : 0 ≤ li3.toInt := by omega
        have r301 : li3.toInt < j90.toInt := by omega
        obtain ⟨T299, h299, X299, e299, W299, V299, st299⟩ := Vec.istI X292 hx hZ e292 h297 (j := li3) r300 r301 (g := (mkF m 322 #[.val (.int x0), .val (.int x1), .val (.int x2), .val (.int x3), .val (.int x4), .val (.int v14), .val (.int v17), .val (.int j18), .val (.int j27), .val (.int j37), .val (.int j46), .val (.int j90), .val (.int v110), .val (.ref b111), .val (.ref b115), .val (.ref b121), .val (.ref b129), .val (.int li3), .val (.int hi3), .unset] [(.int x4), (.int li3), (.ref b121)])) rfl rfl (hb hby at_322)
        have h302 : Vec Z h299 b111 .int j90 (ints (updF fa3 li3.toInt.toNat (3 : Int32))) := h295.other W299 q124
        have h303 : Vec Z h299 b115 .int v110 (ints fb3) := h296.other W299 q125
        have h304 : Vec Z h299 b121 .int j90 (ints (updF ga3 li3.toInt.toNat x4)) := V299
        have h305 : Vec Z h299 b129 .int v110 (ints gb3) := h298.other W299 (Ne.symm q134)
        have K299 : Keep h0 h299 [] := K292.wr W299 (Or.inr szb121)
        have N299 := Fr.snoc X299 N292 Gb121
        refine Go.st st299 ?_
        show Go p e below s Q 6 22 (T299.setTop (mkF m 323 #[.val (.int x0), .val (.int x1), .val (.int x2), .val (.int x3), .val (.int x4), .val (.int v14), .val (.int v17), .val (.int j18), .val (.int j27), .val (.int j37), .val (.int j46), .val (.int j90), .val (.int v110), .val (.ref b111), .val (.ref b115), .val (.ref b121), .val (.ref b129), .val (.int li3), .val (.int hi3), .unset] []))
        refine Go.st (fun _ k => XS.iinc X299.here hx rfl (hb hby at_323) rfl (l' := #[.val (.int x0), .val (.int x1), .val (.int x2), .val (.int x3), .val (.int x4), .val (.int v14), .val (.int v17), .val (.int j18), .val (.int j27), .val (.int j37), .val (.int j46), .val (.int j90), .val (.int v110), .val (.ref b111), .val (.ref b115), .val (.ref b121), .val (.ref b129), .val (.int (li3 + (1 : Int32))), .val (.int hi3), .unset]) rfl k) ?_
        show Go p e below s Q 6 22 (T299.setTop (mkF m 326 #[.val (.int x0), .val (.int x1), .val (.int x2), .val (.int x3), .val (.int x4), .val (.int v14), .val (.int v17), .val (.int j18), .val (.int j27), .val (.int j37), .val (.int j46), .val (.int j90), .val (.int v110), .val (.ref b111), .val (.ref b115), .val (.ref b121), .val (.ref b129), .val (.int (li3 + (1 : Int32))), .val (.int hi3), .unset] []))
        have f306 := liI_1
        have f307 := c_iadd li3 (1 : Int32)
        have f308 := rng32 (li3 + (1 : Int32))
        generalize hv_v309 : (li3 + (1 : Int32)) = v309 at f307 f308 ⊢
        refine Go.st (fun _ k => XS.goto X299.here hx rfl (pc0 := 326) (pc' := 345) rfl (hb hby at_326) (by decide) (by decide) k) ?_
        show Go p e below s Q 6 22 (T299.setTop (mkF m 345 #[.val (.int x0), .val (.int x1), .val (.int x2), .val (.int x3), .val (.int x4), .val (.int v14), .val (.int v17), .val (.int j18), .val (.int j27), .val (.int j37), .val (.int j46), .val (.int j90), .val (.int v110), .val (.ref b111), .val (.ref b115), .val (.ref b121), .val (.ref b129), .val (.int v309), .val (.int hi3), .unset] []))
        exact J269 T299 h299 _ (up X299 (by decide) (by decide)) e299 N299 K299 v309 hi3 (kt3 + 1) (updF fa3 li3.toInt.toNat (3 : Int32)) fb3 (updF ga3 li3.toInt.toNat x4) gb3 h302 h303 h304 h305 (by omega) (by omega) (by unfold Hid; omega) (by exact FInv.cast (FInv.left 3 hpg224_3 (by omega) (by omega) (by omega) rfl) (by omega) (by omega) (by omega))
    ·
      refine Go.st (fun _ k => XS.icmpYes Xg224.here hx rfl (pc0 := 302) (pc' := 345) rfl (hb hby at_302) rfl (flt (nltI liI_3 rfl c271)).2.2.2 (by decide) (by decide) k) ?_
      show Go p e below s Q 6 22 (Tg224.setTop (mkF m 345 #[.val (.int x0), .val (.int x1), .val (.int x2), .val (.int x3), .val (.int x4), .val (.int v14), .val (.int v17), .val (.int j18), .val (.int j27), .val (.int j37), .val (.int j46), .val (.int j90), .val (.int v110), .val (.ref b111), .val (.ref b115), .val (.ref b121), .val (.ref b129), .val (.int li3), .val (.int hi3), .unset] []))
      exact J269 Tg224 hg224 _ (up Xg224 (by decide) (by decide)) eg224 Ng224 Kg224 li3 hi3 (kt3) fa3 fb3 ga3 gb3 hfg224_0 hfg224_1 hfg224_2 hfg224_3 (by omega) (by omega) (by unfold Hid; omega) (by exact FInv.cast hpg224_3 (by omega) (by omega) (by omega))
  intro Tg268 hg268 Lgg268 Xg268 eg268 Ng268 Kg268 li4 hi4 kt4 fa4 fb4 ga4 gb4 hfg268_0 hfg268_1 hfg268_2 hfg268_3 hpg268_0 hpg268_1 hpg268_2 hpg268_3
  have f310 := rng32 li4
  have f311 := rng32 hi4
  obtain ⟨T312, h312, X312, e312, E312, A312, D312, -, st312⟩ := newO Xg268 hx hZ hown (hw _ (List.mem_of_getElem? (i := 1) rfl)) (hw _ (List.mem_of_getElem? (i := 2) rfl)) (hw _ (List.mem_of_getElem? (i := 3) rfl)) eg268 (g := (mkF m 345 #[.val (.int x0), .val (.int x1), .val (.int x2), .val (.int x3), .val (.int x4), .val (.int v14), .val (.int v17), .val (.int j18), .val (.int j27), .val (.int j37), .val (.int j46), .val (.int j90), .val (.int v110), .val (.ref b111), .val (.ref b115), .val (.ref b121), .val (.ref b129), .val (.int li4), .val (.int hi4), .unset] [])) rfl (hb hby at_345) (by decide) (by decide)
  obtain ⟨b312, g312⟩ : ∃ z, z = hg268.size := ⟨_, rfl⟩
  rw [← g312] at A312 D312 st312
  have q313 : b111 ≠ b312 := Nat.ne_of_lt (Nat.lt_of_lt_of_le hfg268_0.lt (Nat.le_of_eq g312.symm))
  have q314 : b115 ≠ b312 := Nat.ne_of_lt (Nat.lt_of_lt_of_le hfg268_1.lt (Nat.le_of_eq g312.symm))
  have q315 : b121 ≠ b312 := Nat.ne_of_lt (Nat.lt_of_lt_of_le hfg268_2.lt (Nat.le_of_eq g312.symm))
  have q316 : b129 ≠ b312 := Nat.ne_of_lt (Nat.lt_of_lt_of_le hfg268_3.lt (Nat.le_of_eq g312.symm))
  have h317 : Vec Z h312 b111 .int j90 (ints fa4) := hfg268_0.ext E312
  have h318 : Vec Z h312 b115 .int v110 (ints fb4) := hfg268_1.ext E312
  have h319 : Vec Z h312 b121 .int j90 (ints ga4) := hfg268_2.ext E312
  have h320 : Vec Z h312 b129 .int v110 (ints gb4) := hfg268_3.ext E312
  have Gb312 : n0 ≤ b312 := Nat.le_trans (Nat.le_trans Z0 Kg268.1) (Nat.le_of_eq g312.symm)
  have szb312 : h0.size ≤ b312 := Nat.le_trans Kg268.1 (Nat.le_of_eq g312.symm)
  have K312 : Keep h0 h312 [] := Kg268.ext E312
  have h321 : Fld Z h312 b312 "com/example/rackwise/rackwise/LoadBalancer$Split" "lighter" "[I" .null := D312 (Or.inr (hw _ (List.mem_of_getElem? (i := 16) rfl))) (ty := (.array .int)) (by decide)
  have h322 : Fld Z h312 b312 "com/example/rackwise/rackwise/LoadBalancer$Split" "heavier" "[I" .null := D312 (Or.inr (hw _ (List.mem_of_getElem? (i := 18) rfl))) (ty := (.array .int)) (by decide)
  refine Go.st st312 ?_
  show Go p e below s Q 6 22 (T312.setTop (mkF m 348 #[.val (.int x0), .val (.int x1), .val (.int x2), .val (.int x3), .val (.int x4), .val (.int v14), .val (.int v17), .val (.int j18), .val (.int j27), .val (.int j37), .val (.int j46), .val (.int j90), .val (.int v110), .val (.ref b111), .val (.ref b115), .val (.ref b121), .val (.ref b129), .val (.int li4), .val (.int hi4), .unset] [(.ref b312)]))
  refine Go.st (fun _ k => XS.dup X312.here hx rfl (hb hby at_348) rfl rfl k) ?_
  show Go p e below s Q 6 22 (T312.setTop (mkF m 349 #[.val (.int x0), .val (.int x1), .val (.int x2), .val (.int x3), .val (.int x4), .val (.int v14), .val (.int v17), .val (.int j18), .val (.int j27), .val (.int j37), .val (.int j46), .val (.int j90), .val (.int v110), .val (.ref b111), .val (.ref b115), .val (.ref b121), .val (.ref b129), .val (.int li4), .val (.int hi4), .unset] [(.ref b312), (.ref b312)]))
  refine Go.st (fun _ k => XS.aload X312.here hx rfl (hb hby at_349) rfl rfl k) ?_
  show Go p e below s Q 6 22 (T312.setTop (mkF m 351 #[.val (.int x0), .val (.int x1), .val (.int x2), .val (.int x3), .val (.int x4), .val (.int v14), .val (.int v17), .val (.int j18), .val (.int j27), .val (.int j37), .val (.int j46), .val (.int j90), .val (.int v110), .val (.ref b111), .val (.ref b115), .val (.ref b121), .val (.ref b129), .val (.int li4), .val (.int hi4), .unset] [(.ref b111), (.ref b312), (.ref b312)]))
  refine Go.st (fun _ k => XS.aload X312.here hx rfl (hb hby at_351) rfl rfl k) ?_
  show Go p e below s Q 6 22 (T312.setTop (mkF m 353 #[.val (.int x0), .val (.int x1), .val (.int x2), .val (.int x3), .val (.int x4), .val (.int v14), .val (.int v17), .val (.int j18), .val (.int j27), .val (.int j37), .val (.int j46), .val (.int j90), .val (.int v110), .val (.ref b111), .val (.ref b115), .val (.ref b121), .val (.ref b129), .val (.int li4), .val (.int hi4), .unset] [(.ref b115), (.ref b111), (.ref b312), (.ref b312)]))
  obtain ⟨_, _, ⟨T323, L323, k323, n323⟩, -, X323, ⟨Lc323, hQ323, l323, y323, z323⟩, st323⟩ := X312.specialBack hx (y := (⟨"com/example/rackwise/rackwise/LoadBalancer$Split", "<init>", "([I[I)V"⟩ : MethodName)) rfl hown (mvT hZ (hw _ (List.mem_of_getElem? (i := 4) rfl))) (mvT hZ (hw _ (List.mem_of_getElem? (i := 5) rfl))) (mvT hZ (hw _ (List.mem_of_getElem? (i := 6) rfl))) (by decide) (backOf (W := 1) (rm1 l Z a0 hw [] b312 b111 b115 (.null) (.null) h312 n0 (Nat.le_trans Z0 K312.1) A312 Gb312 h321 h322) hZ (hw _ (List.mem_of_getElem? (i := 6) rfl)) (hw _ (List.mem_of_getElem? (i := 3) rfl)) (by decide) (by decide)) (g := (mkF m 353 #[.val (.int x0), .val (.int x1), .val (.int x2), .val (.int x3), .val (.int x4), .val (.int v14), .val (.int v17), .val (.int j18), .val (.int j27), .val (.int j37), .val (.int j46), .val (.int j90), .val (.int v110), .val (.ref b111), .val (.ref b115), .val (.ref b121), .val (.ref b129), .val (.int li4), .val (.int hi4), .unset] [(.ref b115), (.ref b111), (.ref b312), (.ref b312)])) rfl (by rw [hml]; rfl) (Steps.refl _) (a := b312) (argsL := [(.ref b111), (.ref b115)]) (rest := [(.ref b312)]) (lenOf pd_1 rfl) rfl (by show 2 * 0 + _ ≤ _; exact Nat.le_of_eq rfl) (hb hby at_353) (fun _ _ => ⟨rfl, e312, (by decide : 5 + 0 ≤ _), (by decide : 18 + 0 ≤ _)⟩)
  dsimp only [Pt.U, Pt.locs, Pt.cells, Pt.slots] at X323 l323 y323 z323 st323 hQ323
  subst l323 y323 z323
  obtain ⟨rfl, N323q, K323q, h324, h325, h326⟩ := hQ323
  have N323 := Fr.app Ng268 N323q
  have h327 : Vec Z T323.heap b111 .int j90 (ints fa4) := h317.keep K323q (ninS q313 nin0)
  have h328 : Vec Z T323.heap b115 .int v110 (ints fb4) := h318.keep K323q (ninS q314 nin0)
  have h329 : Vec Z T323.heap b121 .int j90 (ints ga4) := h319.keep K323q (ninS q315 nin0)
  have h330 : Vec Z T323.heap b129 .int v110 (ints gb4) := h320.keep K323q (ninS q316 nin0)
  have K323 : Keep h0 T323.heap [] := K312.trans K323q (fun x hx => (show ∀ x ∈ ([b312] : List Addr), x ∈ ([] : List Addr) ∨ h0.size ≤ x from (allS (Or.inr szb312) all0)) x hx)
  refine Go.tr  st323 ?_
  show Go p e below s Q 6 22 (T323.setTop (mkF m 356 #[.val (.int x0), .val (.int x1), .val (.int x2), .val (.int x3), .val (.int x4), .val (.int v14), .val (.int v17), .val (.int j18), .val (.int j27), .val (.int j37), .val (.int j46), .val (.int j90), .val (.int v110), .val (.ref b111), .val (.ref b115), .val (.ref b121), .val (.ref b129), .val (.int li4), .val (.int hi4), .unset] [(.ref b312)]))
  refine Go.st (fun _ k => XS.aload X323.here hx rfl (hb hby at_356) rfl rfl k) ?_
  show Go p e below s Q 6 22 (T323.setTop (mkF m 358 #[.val (.int x0), .val (.int x1), .val (.int x2), .val (.int x3), .val (.int x4), .val (.int v14), .val (.int v17), .val (.int j18), .val (.int j27), .val (.int j37), .val (.int j46), .val (.int j90), .val (.int v110), .val (.ref b111), .val (.ref b115), .val (.ref b121), .val (.ref b129), .val (.int li4), .val (.int hi4), .unset] [(.ref b121), (.ref b312)]))
  refine Go.st (fun _ k => XS.aload X323.here hx rfl (hb hby at_358) rfl rfl k) ?_
  show Go p e below s Q 6 22 (T323.setTop (mkF m 360 #[.val (.int x0), .val (.int x1), .val (.int x2), .val (.int x3), .val (.int x4), .val (.int v14), .val (.int v17), .val (.int j18), .val (.int j27), .val (.int j37), .val (.int j46), .val (.int j90), .val (.int v110), .val (.ref b111), .val (.ref b115), .val (.ref b121), .val (.ref b129), .val (.int li4), .val (.int hi4), .unset] [(.ref b129), (.ref b121), (.ref b312)]))
  have hu9 := hpg268_2
  unfold Hid at hu9
  obtain ⟨cq331, kq331, q331a, q331b, q331c⟩ := isOf hZ rfl h324
  obtain ⟨_, _, ⟨T331, L331, k331, n331⟩, -, X331, ⟨Lc331, hQ331, l331, y331, z331⟩, st331⟩ := X323.virtualBack hx (y := (⟨"com/example/rackwise/rackwise/LoadBalancer$Split", "joined", "([I[I)[I"⟩ : MethodName)) (z := (⟨"com/example/rackwise/rackwise/LoadBalancer$Split", "joined", "([I[I)[I"⟩ : MethodName)) hown (mvT hZ (hw _ (List.mem_of_getElem? (i := 19) rfl))) (mvT hZ (hw _ (List.mem_of_getElem? (i := 20) rfl))) (notFace_of_selects (args := #[]) (mvT hZ (hw _ (List.mem_of_getElem? (i := 22) rfl)))) (mvT hZ (hw _ (List.mem_of_getElem? (i := 22) rfl))) (mvT hZ (hw _ (List.mem_of_getElem? (i := 21) rfl))) (by decide) (backOf (W := 0) (rm4 l Z a0 hw [] b312 b121 b129 b111 b115 j90 v110 fa4 fb4 ga4 gb4 (lst [x1, x2, x3, x4]) T323.heap n0 (Nat.le_trans Z0 K323.1) h324 h325 h326 h327 h328 h329 h330 (FInv.cast hpg268_3 (by omega) (by omega) (by omega)) (by omega) (by omega)) hZ (hw _ (List.mem_of_getElem? (i := 23) rfl)) (hw _ (List.mem_of_getElem? (i := 3) rfl)) (by decide) (by decide)) q331a q331c (g := (mkF m 360 #[.val (.int x0), .val (.int x1), .val (.int x2), .val (.int x3), .val (.int x4), .val (.int v14), .val (.int v17), .val (.int j18), .val (.int j27), .val (.int j37), .val (.int j46), .val (.int j90), .val (.int v110), .val (.ref b111), .val (.ref b115), .val (.ref b121), .val (.ref b129), .val (.int li4), .val (.int hi4), .unset] [(.ref b129), (.ref b121), (.ref b312)])) rfl (by rw [hml]; rfl) (Steps.refl _) (argsL := [(.ref b121), (.ref b129)]) (rest := []) (lenOf pd_2 rfl) rfl (by show 2 * 0 + _ ≤ _; exact Nat.le_of_eq rfl) (hb hby at_360) (fun _ _ => ⟨rfl, rfl, (by decide : 5 + 1 ≤ _), (by decide : 18 + 4 ≤ _)⟩)
  dsimp only [Pt.U, Pt.locs, Pt.cells, Pt.slots] at X331 l331 y331 z331 st331 hQ331
  subst l331 y331 z331
  obtain ⟨r_332, nr_333, R_334, rfl, N331q, f335, f336, K331q, h337⟩ := hQ331
  have N331 := Fr.app N323 N331q
  have h338 : Vec Z T331.heap b111 .int j90 (ints fa4) := h327.keep K331q nin0
  have h339 : Vec Z T331.heap b115 .int v110 (ints fb4) := h328.keep K331q nin0
  have h340 : Vec Z T331.heap b121 .int j90 (ints ga4) := h329.keep K331q nin0
  have h341 : Vec Z T331.heap b129 .int v110 (ints gb4) := h330.keep K331q nin0
  have h342 : Exa Z T331.heap b312 "com/example/rackwise/rackwise/LoadBalancer$Split" := h324.keep K331q
  have h343 : Fld Z T331.heap b312 "com/example/rackwise/rackwise/LoadBalancer$Split" "lighter" "[I" (.ref b111) := h325.keep K331q nin0
  have h344 : Fld Z T331.heap b312 "com/example/rackwise/rackwise/LoadBalancer$Split" "heavier" "[I" (.ref b115) := h326.keep K331q nin0
  have K331 : Keep h0 T331.heap [] := K323.trans K331q (fun x hx => (show ∀ x ∈ ([] : List Addr), x ∈ ([] : List Addr) ∨ h0.size ≤ x from all0) x hx)
  refine Go.tr  st331 ?_
  show Go p e below s Q 6 22 (T331.setTop (mkF m 363 #[.val (.int x0), .val (.int x1), .val (.int x2), .val (.int x3), .val (.int x4), .val (.int v14), .val (.int v17), .val (.int j18), .val (.int j27), .val (.int j37), .val (.int j46), .val (.int j90), .val (.int v110), .val (.ref b111), .val (.ref b115), .val (.ref b121), .val (.ref b129), .val (.int li4), .val (.int hi4), .unset] [(.ref r_332)]))
  refine Go.st (fun _ k => XS.astore X331.here hx rfl (hb hby at_363) rfl rfl (l' := #[.val (.int x0), .val (.int x1), .val (.int x2), .val (.int x3), .val (.int x4), .val (.int v14), .val (.int v17), .val (.int j18), .val (.int j27), .val (.int j37), .val (.int j46), .val (.int j90), .val (.int v110), .val (.ref b111), .val (.ref b115), .val (.ref b121), .val (.ref b129), .val (.int li4), .val (.int hi4), .val (.ref r_332)]) rfl k) ?_
  show Go p e below s Q 6 22 (T331.setTop (mkF m 365 #[.val (.int x0), .val (.int x1), .val (.int x2), .val (.int x3), .val (.int x4), .val (.int v14), .val (.int v17), .val (.int j18), .val (.int j27), .val (.int j37), .val (.int j46), .val (.int j90), .val (.int v110), .val (.ref b111), .val (.ref b115), .val (.ref b121), .val (.ref b129), .val (.int li4), .val (.int hi4), .val (.ref r_332)] []))
  refine Go.st (fun _ k => XS.aload X331.here hx rfl (hb hby at_365) rfl rfl k) ?_
  show Go p e below s Q 6 22 (T331.setTop (mkF m 367 #[.val (.int x0), .val (.int x1), .val (.int x2), .val (.int x3), .val (.int x4), .val (.int v14), .val (.int v17), .val (.int j18), .val (.int j27), .val (.int j37), .val (.int j46), .val (.int j90), .val (.int v110), .val (.ref b111), .val (.ref b115), .val (.ref b121), .val (.ref b129), .val (.int li4), .val (.int hi4), .val (.ref r_332)] [(.ref r_332)]))
  refine Go.st (Vec.len X331 hx hZ rfl h337 (g := (mkF m 367 #[.val (.int x0), .val (.int x1), .val (.int x2), .val (.int x3), .val (.int x4), .val (.int v14), .val (.int v17), .val (.int j18), .val (.int j27), .val (.int j37), .val (.int j46), .val (.int j90), .val (.int v110), .val (.ref b111), .val (.ref b115), .val (.ref b121), .val (.ref b129), .val (.int li4), .val (.int hi4), .val (.ref r_332)] [(.ref r_332)])) rfl rfl (hb hby at_367)) ?_
  show Go p e below s Q 6 22 (T331.setTop (mkF m 368 #[.val (.int x0), .val (.int x1), .val (.int x2), .val (.int x3), .val (.int x4), .val (.int v14), .val (.int v17), .val (.int j18), .val (.int j27), .val (.int j37), .val (.int j46), .val (.int j90), .val (.int v110), .val (.ref b111), .val (.ref b115), .val (.ref b121), .val (.ref b129), .val (.int li4), .val (.int hi4), .val (.ref r_332)] [(.int nr_333)]))
  refine Go.st (fun _ k => XS.iload X331.here hx rfl (hb hby at_368) rfl k) ?_
  show Go p e below s Q 6 22 (T331.setTop (mkF m 370 #[.val (.int x0), .val (.int x1), .val (.int x2), .val (.int x3), .val (.int x4), .val (.int v14), .val (.int v17), .val (.int j18), .val (.int j27), .val (.int j37), .val (.int j46), .val (.int j90), .val (.int v110), .val (.ref b111), .val (.ref b115), .val (.ref b121), .val (.ref b129), .val (.int li4), .val (.int hi4), .val (.ref r_332)] [(.int v14), (.int nr_333)]))
  have f346 := rng32 nr_333
  have c347 : nr_333.toInt = v14.toInt := by omega
  refine Go.st (fun _ k => XS.icmpYes X331.here hx rfl (pc0 := 370) (pc' := 375) rfl (hb hby at_370) rfl (teq (eqI rfl rfl c347)).1 (by decide) (by decide) k) ?_
  show Go p e below s Q 6 22 (T331.setTop (mkF m 375 #[.val (.int x0), .val (.int x1), .val (.int x2), .val (.int x3), .val (.int x4), .val (.int v14), .val (.int v17), .val (.int j18), .val (.int j27), .val (.int j37), .val (.int j46), .val (.int j90), .val (.int v110), .val (.ref b111), .val (.ref b115), .val (.ref b121), .val (.ref b129), .val (.int li4), .val (.int hi4), .val (.ref r_332)] []))
  refine Go.st (fun _ k => XS.iload X331.here hx rfl (hb hby at_375) rfl k) ?_
  show Go p e below s Q 6 22 (T331.setTop (mkF m 377 #[.val (.int x0), .val (.int x1), .val (.int x2), .val (.int x3), .val (.int x4), .val (.int v14), .val (.int v17), .val (.int j18), .val (.int j27), .val (.int j37), .val (.int j46), .val (.int j90), .val (.int v110), .val (.ref b111), .val (.ref b115), .val (.ref b121), .val (.ref b129), .val (.int li4), .val (.int hi4), .val (.ref r_332)] [(.int v14)]))
  have f348 := liI_0
  by_cases c349 : 0 < v14.toInt
  ·
    refine Go.st (fun _ k => XS.ifNo X331.here hx rfl (hb hby at_377) rfl ((if0 _ _).trans (tlt (ltI liI_0 rfl c349)).2.2.2) k) ?_
    show Go p e below s Q 6 22 (T331.setTop (mkF m 380 #[.val (.int x0), .val (.int x1), .val (.int x2), .val (.int x3), .val (.int x4), .val (.int v14), .val (.int v17), .val (.int j18), .val (.int j27), .val (.int j37), .val (.int j46), .val (.int j90), .val (.int v110), .val (.ref b111), .val (.ref b115), .val (.ref b121), .val (.ref b129), .val (.int li4), .val (.int hi4), .val (.ref r_332)] []))
    refine Go.st (fun _ k => XS.aload X331.here hx rfl (hb hby at_380) rfl rfl k) ?_
    show Go p e below s Q 6 22 (T331.setTop (mkF m 382 #[.val (.int x0), .val (.int x1), .val (.int x2), .val (.int x3), .val (.int x4), .val (.int v14), .val (.int v17), .val (.int j18), .val (.int j27), .val (.int j37), .val (.int j46), .val (.int j90), .val (.int v110), .val (.ref b111), .val (.ref b115), .val (.ref b121), .val (.ref b129), .val (.int li4), .val (.int hi4), .val (.ref r_332)] [(.ref r_332)]))
    refine Go.st (fun _ k => XS.iconst X331.here hx rfl (hb hby at_382) k) ?_
    show Go p e below s Q 6 22 (T331.setTop (mkF m 383 #[.val (.int x0), .val (.int x1), .val (.int x2), .val (.int x3), .val (.int x4), .val (.int v14), .val (.int v17), .val (.int j18), .val (.int j27), .val (.int j37), .val (.int j46), .val (.int j90), .val (.int v110), .val (.ref b111), .val (.ref b115), .val (.ref b121), .val (.ref b129), .val (.int li4), .val (.int hi4), .val (.ref r_332)] [(.int (0 : Int32)), (.ref r_332)]))
    have r351 : 0 ≤ (0 : Int32).toInt := by omega
    have r352 : (0 : Int32).toInt < nr_333.toInt := by omega
    refine Go.st (Vec.ildI X331 hx hZ rfl h337 (j := (0 : Int32)) r351 r352 (g := (mkF m 383 #[.val (.int x0), .val (.int x1), .val (.int x2), .val (.int x3), .val (.int x4), .val (.int v14), .val (.int v17), .val (.int j18), .val (.int j27), .val (.int j37), .val (.int j46), .val (.int j90), .val (.int v110), .val (.ref b111), .val (.ref b115), .val (.ref b121), .val (.ref b129), .val (.int li4), .val (.int hi4), .val (.ref r_332)] [(.int (0 : Int32)), (.ref r_332)])) rfl rfl (hb hby at_383)) ?_
    show Go p e below s Q 6 22 (T331.setTop (mkF m 384 #[.val (.int x0), .val (.int x1), .val (.int x2), .val (.int x3), .val (.int x4), .val (.int v14), .val (.int v17), .val (.int j18), .val (.int j27), .val (.int j37), .val (.int j46), .val (.int j90), .val (.int v110), .val (.ref b111), .val (.ref b115), .val (.ref b121), .val (.ref b129), .val (.int li4), .val (.int hi4), .val (.ref r_332)] [(.int (R_334 0))]))
    refine Go.st (fun _ k => XS.iloadN X331.here hx rfl (hb hby at_384) rfl k) ?_
    show Go p e below s Q 6 22 (T331.setTop (mkF m 385 #[.val (.int x0), .val (.int x1), .val (.int x2), .val (.int x3), .val (.int x4), .val (.int v14), .val (.int v17), .val (.int j18), .val (.int j27), .val (.int j37), .val (.int j46), .val (.int j90), .val (.int v110), .val (.ref b111), .val (.ref b115), .val (.ref b121), .val (.ref b129), .val (.int li4), .val (.int hi4), .val (.ref r_332)] [(.int x1), (.int (R_334 0))]))
    have f353 := rng32 (R_334 0)
    have c354 : (R_334 0).toInt = x1.toInt := by have q := f336 0 (by omega); have q2 : (R_334 0).toInt = x1.toInt := (by rw [q]; rfl); omega
    refine Go.st (fun _ k => XS.icmpNo X331.here hx rfl (hb hby at_385) rfl (teq (eqI rfl rfl c354)).2 k) ?_
    show Go p e below s Q 6 22 (T331.setTop (mkF m 388 #[.val (.int x0), .val (.int x1), .val (.int x2), .val (.int x3), .val (.int x4), .val (.int v14), .val (.int v17), .val (.int j18), .val (.int j27), .val (.int j37), .val (.int j46), .val (.int j90), .val (.int v110), .val (.ref b111), .val (.ref b115), .val (.ref b121), .val (.ref b129), .val (.int li4), .val (.int hi4), .val (.ref r_332)] []))
    refine Go.st (fun _ k => XS.iload X331.here hx rfl (hb hby at_388) rfl k) ?_
    show Go p e below s Q 6 22 (T331.setTop (mkF m 390 #[.val (.int x0), .val (.int x1), .val (.int x2), .val (.int x3), .val (.int x4), .val (.int v14), .val (.int v17), .val (.int j18), .val (.int j27), .val (.int j37), .val (.int j46), .val (.int j90), .val (.int v110), .val (.ref b111), .val (.ref b115), .val (.ref b121), .val (.ref b129), .val (.int li4), .val (.int hi4), .val (.ref r_332)] [(.int v14)]))
    refine Go.st (fun _ k => XS.iconst X331.here hx rfl (hb hby at_390) k) ?_
    show Go p e below s Q 6 22 (T331.setTop (mkF m 391 #[.val (.int x0), .val (.int x1), .val (.int x2), .val (.int x3), .val (.int x4), .val (.int v14), .val (.int v17), .val (.int j18), .val (.int j27), .val (.int j37), .val (.int j46), .val (.int j90), .val (.int v110), .val (.ref b111), .val (.ref b115), .val (.ref b121), .val (.ref b129), .val (.int li4), .val (.int hi4), .val (.ref r_332)] [(.int (1 : Int32)), (.int v14)]))
    have f355 := liI_1
    by_cases c356 : 1 < v14.toInt
    ·
      refine Go.st (fun _ k => XS.icmpNo X331.here hx rfl (hb hby at_391) rfl (tlt (ltI liI_1 rfl c356)).2.2.2 k) ?_
      show Go p e below s Q 6 22 (T331.setTop (mkF m 394 #[.val (.int x0), .val (.int x1), .val (.int x2), .val (.int x3), .val (.int x4), .val (.int v14), .val (.int v17), .val (.int j18), .val (.int j27), .val (.int j37), .val (.int j46), .val (.int j90), .val (.int v110), .val (.ref b111), .val (.ref b115), .val (.ref b121), .val (.ref b129), .val (.int li4), .val (.int hi4), .val (.ref r_332)] []))
      refine Go.st (fun _ k => XS.aload X331.here hx rfl (hb hby at_394) rfl rfl k) ?_
      show Go p e below s Q 6 22 (T331.setTop (mkF m 396 #[.val (.int x0), .val (.int x1), .val (.int x2), .val (.int x3), .val (.int x4), .val (.int v14), .val (.int v17), .val (.int j18), .val (.int j27), .val (.int j37), .val (.int j46), .val (.int j90), .val (.int v110), .val (.ref b111), .val (.ref b115), .val (.ref b121), .val (.ref b129), .val (.int li4), .val (.int hi4), .val (.ref r_332)] [(.ref r_332)]))
      refine Go.st (fun _ k => XS.iconst X331.here hx rfl (hb hby at_396) k) ?_
      show Go p e below s Q 6 22 (T331.setTop (mkF m 397 #[.val (.int x0), .val (.int x1), .val (.int x2), .val (.int x3), .val (.int x4), .val (.int v14), .val (.int v17), .val (.int j18), .val (.int j27), .val (.int j37), .val (.int j46), .val (.int j90), .val (.int v110), .val (.ref b111), .val (.ref b115), .val (.ref b121), .val (.ref b129), .val (.int li4), .val (.int hi4), .val (.ref r_332)] [(.int (1 : Int32)), (.ref r_332)]))
      have r358 : 0 ≤ (1 : Int32).toInt := by omega
      have r359 : (1 : Int32).toInt < nr_333.toInt := by omega
      refine Go.st (Vec.ildI X331 hx hZ rfl h337 (j := (1 : Int32)) r358 r359 (g := (mkF m 397 #[.val (.int x0), .val (.int x1), .val (.int x2), .val (.int x3), .val (.int x4), .val (.int v14), .val (.int v17), .val (.int j18), .val (.int j27), .val (.int j37), .val (.int j46), .val (.int j90), .val (.int v110), .val (.ref b111), .val (.ref b115), .val (.ref b121), .val (.ref b129), .val (.int li4), .val (.int hi4), .val (.ref r_332)] [(.int (1 : Int32)), (.ref r_332)])) rfl rfl (hb hby at_397)) ?_
      show Go p e below s Q 6 22 (T331.setTop (mkF m 398 #[.val (.int x0), .val (.int x1), .val (.int x2), .val (.int x3), .val (.int x4), .val (.int v14), .val (.int v17), .val (.int j18), .val (.int j27), .val (.int j37), .val (.int j46), .val (.int j90), .val (.int v110), .val (.ref b111), .val (.ref b115), .val (.ref b121), .val (.ref b129), .val (.int li4), .val (.int hi4), .val (.ref r_332)] [(.int (R_334 1))]))
      refine Go.st (fun _ k => XS.iloadN X331.here hx rfl (hb hby at_398) rfl k) ?_
      show Go p e below s Q 6 22 (T331.setTop (mkF m 399 #[.val (.int x0), .val (.int x1), .val (.int x2), .val (.int x3), .val (.int x4), .val (.int v14), .val (.int v17), .val (.int j18), .val (.int j27), .val (.int j37), .val (.int j46), .val (.int j90), .val (.int v110), .val (.ref b111), .val (.ref b115), .val (.ref b121), .val (.ref b129), .val (.int li4), .val (.int hi4), .val (.ref r_332)] [(.int x2), (.int (R_334 1))]))
      have f360 := rng32 (R_334 1)
      have c361 : (R_334 1).toInt = x2.toInt := by have q := f336 1 (by omega); have q2 : (R_334 1).toInt = x2.toInt := (by rw [q]; rfl); omega
      refine Go.st (fun _ k => XS.icmpNo X331.here hx rfl (hb hby at_399) rfl (teq (eqI rfl rfl c361)).2 k) ?_
      show Go p e below s Q 6 22 (T331.setTop (mkF m 402 #[.val (.int x0), .val (.int x1), .val (.int x2), .val (.int x3), .val (.int x4), .val (.int v14), .val (.int v17), .val (.int j18), .val (.int j27), .val (.int j37), .val (.int j46), .val (.int j90), .val (.int v110), .val (.ref b111), .val (.ref b115), .val (.ref b121), .val (.ref b129), .val (.int li4), .val (.int hi4), .val (.ref r_332)] []))
      refine Go.st (fun _ k => XS.iload X331.here hx rfl (hb hby at_402) rfl k) ?_
      show Go p e below s Q 6 22 (T331.setTop (mkF m 404 #[.val (.int x0), .val (.int x1), .val (.int x2), .val (.int x3), .val (.int x4), .val (.int v14), .val (.int v17), .val (.int j18), .val (.int j27), .val (.int j37), .val (.int j46), .val (.int j90), .val (.int v110), .val (.ref b111), .val (.ref b115), .val (.ref b121), .val (.ref b129), .val (.int li4), .val (.int hi4), .val (.ref r_332)] [(.int v14)]))
      refine Go.st (fun _ k => XS.iconst X331.here hx rfl (hb hby at_404) k) ?_
      show Go p e below s Q 6 22 (T331.setTop (mkF m 405 #[.val (.int x0), .val (.int x1), .val (.int x2), .val (.int x3), .val (.int x4), .val (.int v14), .val (.int v17), .val (.int j18), .val (.int j27), .val (.int j37), .val (.int j46), .val (.int j90), .val (.int v110), .val (.ref b111), .val (.ref b115), .val (.ref b121), .val (.ref b129), .val (.int li4), .val (.int hi4), .val (.ref r_332)] [(.int (2 : Int32)), (.int v14)]))
      have f362 := liI_2
      by_cases c363 : 2 < v14.toInt
      ·
        refine Go.st (fun _ k => XS.icmpNo X331.here hx rfl (hb hby at_405) rfl (tlt (ltI liI_2 rfl c363)).2.2.2 k) ?_
        show Go p e below s Q 6 22 (T331.setTop (mkF m 408 #[.val (.int x0), .val (.int x1), .val (.int x2), .val (.int x3), .val (.int x4), .val (.int v14), .val (.int v17), .val (.int j18), .val (.int j27), .val (.int j37), .val (.int j46), .val (.int j90), .val (.int v110), .val (.ref b111), .val (.ref b115), .val (.ref b121), .val (.ref b129), .val (.int li4), .val (.int hi4), .val (.ref r_332)] []))
        refine Go.st (fun _ k => XS.aload X331.here hx rfl (hb hby at_408) rfl rfl k) ?_
        show Go p e below s Q 6 22 (T331.setTop (mkF m 410 #[.val (.int x0), .val (.int x1), .val (.int x2), .val (.int x3), .val (.int x4), .val (.int v14), .val (.int v17), .val (.int j18), .val (.int j27), .val (.int j37), .val (.int j46), .val (.int j90), .val (.int v110), .val (.ref b111), .val (.ref b115), .val (.ref b121), .val (.ref b129), .val (.int li4), .val (.int hi4), .val (.ref r_332)] [(.ref r_332)]))
        refine Go.st (fun _ k => XS.iconst X331.here hx rfl (hb hby at_410) k) ?_
        show Go p e below s Q 6 22 (T331.setTop (mkF m 411 #[.val (.int x0), .val (.int x1), .val (.int x2), .val (.int x3), .val (.int x4), .val (.int v14), .val (.int v17), .val (.int j18), .val (.int j27), .val (.int j37), .val (.int j46), .val (.int j90), .val (.int v110), .val (.ref b111), .val (.ref b115), .val (.ref b121), .val (.ref b129), .val (.int li4), .val (.int hi4), .val (.ref r_332)] [(.int (2 : Int32)), (.ref r_332)]))
        have r365 : 0 ≤ (2 : Int32).toInt := by omega
        have r366 : (2 : Int32).toInt < nr_333.toInt := by omega
        refine Go.st (Vec.ildI X331 hx hZ rfl h337 (j := (2 : Int32)) r365 r366 (g := (mkF m 411 #[.val (.int x0), .val (.int x1), .val (.int x2), .val (.int x3), .val (.int x4), .val (.int v14), .val (.int v17), .val (.int j18), .val (.int j27), .val (.int j37), .val (.int j46), .val (.int j90), .val (.int v110), .val (.ref b111), .val (.ref b115), .val (.ref b121), .val (.ref b129), .val (.int li4), .val (.int hi4), .val (.ref r_332)] [(.int (2 : Int32)), (.ref r_332)])) rfl rfl (hb hby at_411)) ?_
        show Go p e below s Q 6 22 (T331.setTop (mkF m 412 #[.val (.int x0), .val (.int x1), .val (.int x2), .val (.int x3), .val (.int x4), .val (.int v14), .val (.int v17), .val (.int j18), .val (.int j27), .val (.int j37), .val (.int j46), .val (.int j90), .val (.int v110), .val (.ref b111), .val (.ref b115), .val (.ref b121), .val (.ref b129), .val (.int li4), .val (.int hi4), .val (.ref r_332)] [(.int (R_334 2))]))
        refine Go.st (fun _ k => XS.iloadN X331.here hx rfl (hb hby at_412) rfl k) ?_
        show Go p e below s Q 6 22 (T331.setTop (mkF m 413 #[.val (.int x0), .val (.int x1), .val (.int x2), .val (.int x3), .val (.int x4), .val (.int v14), .val (.int v17), .val (.int j18), .val (.int j27), .val (.int j37), .val (.int j46), .val (.int j90), .val (.int v110), .val (.ref b111), .val (.ref b115), .val (.ref b121), .val (.ref b129), .val (.int li4), .val (.int hi4), .val (.ref r_332)] [(.int x3), (.int (R_334 2))]))
        have f367 := rng32 (R_334 2)
        have c368 : (R_334 2).toInt = x3.toInt := by have q := f336 2 (by omega); have q2 : (R_334 2).toInt = x3.toInt := (by rw [q]; rfl); omega
        refine Go.st (fun _ k => XS.icmpNo X331.here hx rfl (hb hby at_413) rfl (teq (eqI rfl rfl c368)).2 k) ?_
        show Go p e below s Q 6 22 (T331.setTop (mkF m 416 #[.val (.int x0), .val (.int x1), .val (.int x2), .val (.int x3), .val (.int x4), .val (.int v14), .val (.int v17), .val (.int j18), .val (.int j27), .val (.int j37), .val (.int j46), .val (.int j90), .val (.int v110), .val (.ref b111), .val (.ref b115), .val (.ref b121), .val (.ref b129), .val (.int li4), .val (.int hi4), .val (.ref r_332)] []))
        refine Go.st (fun _ k => XS.iload X331.here hx rfl (hb hby at_416) rfl k) ?_
        show Go p e below s Q 6 22 (T331.setTop (mkF m 418 #[.val (.int x0), .val (.int x1), .val (.int x2), .val (.int x3), .val (.int x4), .val (.int v14), .val (.int v17), .val (.int j18), .val (.int j27), .val (.int j37), .val (.int j46), .val (.int j90), .val (.int v110), .val (.ref b111), .val (.ref b115), .val (.ref b121), .val (.ref b129), .val (.int li4), .val (.int hi4), .val (.ref r_332)] [(.int v14)]))
        refine Go.st (fun _ k => XS.iconst X331.here hx rfl (hb hby at_418) k) ?_
        show Go p e below s Q 6 22 (T331.setTop (mkF m 419 #[.val (.int x0), .val (.int x1), .val (.int x2), .val (.int x3), .val (.int x4), .val (.int v14), .val (.int v17), .val (.int j18), .val (.int j27), .val (.int j37), .val (.int j46), .val (.int j90), .val (.int v110), .val (.ref b111), .val (.ref b115), .val (.ref b121), .val (.ref b129), .val (.int li4), .val (.int hi4), .val (.ref r_332)] [(.int (3 : Int32)), (.int v14)]))
        have f369 := liI_3
        by_cases c370 : 3 < v14.toInt
        ·
          refine Go.st (fun _ k => XS.icmpNo X331.here hx rfl (hb hby at_419) rfl (tlt (ltI liI_3 rfl c370)).2.2.2 k) ?_
          show Go p e below s Q 6 22 (T331.setTop (mkF m 422 #[.val (.int x0), .val (.int x1), .val (.int x2), .val (.int x3), .val (.int x4), .val (.int v14), .val (.int v17), .val (.int j18), .val (.int j27), .val (.int j37), .val (.int j46), .val (.int j90), .val (.int v110), .val (.ref b111), .val (.ref b115), .val (.ref b121), .val (.ref b129), .val (.int li4), .val (.int hi4), .val (.ref r_332)] []))
          refine Go.st (fun _ k => XS.aload X331.here hx rfl (hb hby at_422) rfl rfl k) ?_
          show Go p e below s Q 6 22 (T331.setTop (mkF m 424 #[.val (.int x0), .val (.int x1), .val (.int x2), .val (.int x3), .val (.int x4), .val (.int v14), .val (.int v17), .val (.int j18), .val (.int j27), .val (.int j37), .val (.int j46), .val (.int j90), .val (.int v110), .val (.ref b111), .val (.ref b115), .val (.ref b121), .val (.ref b129), .val (.int li4), .val (.int hi4), .val (.ref r_332)] [(.ref r_332)]))
          refine Go.st (fun _ k => XS.iconst X331.here hx rfl (hb hby at_424) k) ?_
          show Go p e below s Q 6 22 (T331.setTop (mkF m 425 #[.val (.int x0), .val (.int x1), .val (.int x2), .val (.int x3), .val (.int x4), .val (.int v14), .val (.int v17), .val (.int j18), .val (.int j27), .val (.int j37), .val (.int j46), .val (.int j90), .val (.int v110), .val (.ref b111), .val (.ref b115), .val (.ref b121), .val (.ref b129), .val (.int li4), .val (.int hi4), .val (.ref r_332)] [(.int (3 : Int32)), (.ref r_332)]))
          have r372 : 0 ≤ (3 : Int32).toInt := by omega
          have r373 : (3 : Int32).toInt < nr_333.toInt := by omega
          refine Go.st (Vec.ildI X331 hx hZ rfl h337 (j := (3 : Int32)) r372 r373 (g := (mkF m 425 #[.val (.int x0), .val (.int x1), .val (.int x2), .val (.int x3), .val (.int x4), .val (.int v14), .val (.int v17), .val (.int j18), .val (.int j27), .val (.int j37), .val (.int j46), .val (.int j90), .val (.int v110), .val (.ref b111), .val (.ref b115), .val (.ref b121), .val (.ref b129), .val (.int li4), .val (.int hi4), .val (.ref r_332)] [(.int (3 : Int32)), (.ref r_332)])) rfl rfl (hb hby at_425)) ?_
          show Go p e below s Q 6 22 (T331.setTop (mkF m 426 #[.val (.int x0), .val (.int x1), .val (.int x2), .val (.int x3), .val (.int x4), .val (.int v14), .val (.int v17), .val (.int j18), .val (.int j27), .val (.int j37), .val (.int j46), .val (.int j90), .val (.int v110), .val (.ref b111), .val (.ref b115), .val (.ref b121), .val (.ref b129), .val (.int li4), .val (.int hi4), .val (.ref r_332)] [(.int (R_334 3))]))
          refine Go.st (fun _ k => XS.iload X331.here hx rfl (hb hby at_426) rfl k) ?_
          show Go p e below s Q 6 22 (T331.setTop (mkF m 428 #[.val (.int x0), .val (.int x1), .val (.int x2), .val (.int x3), .val (.int x4), .val (.int v14), .val (.int v17), .val (.int j18), .val (.int j27), .val (.int j37), .val (.int j46), .val (.int j90), .val (.int v110), .val (.ref b111), .val (.ref b115), .val (.ref b121), .val (.ref b129), .val (.int li4), .val (.int hi4), .val (.ref r_332)] [(.int x4), (.int (R_334 3))]))
          have f374 := rng32 (R_334 3)
          have c375 : (R_334 3).toInt = x4.toInt := by have q := f336 3 (by omega); have q2 : (R_334 3).toInt = x4.toInt := (by rw [q]; rfl); omega
          refine Go.st (fun _ k => XS.icmpNo X331.here hx rfl (hb hby at_428) rfl (teq (eqI rfl rfl c375)).2 k) ?_
          show Go p e below s Q 6 22 (T331.setTop (mkF m 431 #[.val (.int x0), .val (.int x1), .val (.int x2), .val (.int x3), .val (.int x4), .val (.int v14), .val (.int v17), .val (.int j18), .val (.int j27), .val (.int j37), .val (.int j46), .val (.int j90), .val (.int v110), .val (.ref b111), .val (.ref b115), .val (.ref b121), .val (.ref b129), .val (.int li4), .val (.int hi4), .val (.ref r_332)] []))
          refine Go.st (fun _ k => XS.iconst X331.here hx rfl (hb hby at_431) k) ?_
          show Go p e below s Q 6 22 (T331.setTop (mkF m 432 #[.val (.int x0), .val (.int x1), .val (.int x2), .val (.int x3), .val (.int x4), .val (.int v14), .val (.int v17), .val (.int j18), .val (.int j27), .val (.int j37), .val (.int j46), .val (.int j90), .val (.int v110), .val (.ref b111), .val (.ref b115), .val (.ref b121), .val (.ref b129), .val (.int li4), .val (.int hi4), .val (.ref r_332)] [(.int (1 : Int32))]))
          refine Go.st (fun _ k => XS.goto X331.here hx rfl (pc0 := 432) (pc' := 436) rfl (hb hby at_432) (by decide) (by decide) k) ?_
          show Go p e below s Q 6 22 (T331.setTop (mkF m 436 #[.val (.int x0), .val (.int x1), .val (.int x2), .val (.int x3), .val (.int x4), .val (.int v14), .val (.int v17), .val (.int j18), .val (.int j27), .val (.int j37), .val (.int j46), .val (.int j90), .val (.int v110), .val (.ref b111), .val (.ref b115), .val (.ref b121), .val (.ref b129), .val (.int li4), .val (.int hi4), .val (.ref r_332)] [(.int (1 : Int32))]))
          exact Go.retN X331 hx hlk (by simp) Bd.returns (hb hby at_436) (z' := (1 : Int32)) (by decide) (by rw [← hQ]; exact ⟨rfl, N331, K331⟩) (by decide) (by decide)
        ·
          refine Go.st (fun _ k => XS.icmpYes X331.here hx rfl (pc0 := 419) (pc' := 431) rfl (hb hby at_419) rfl (flt (nltI liI_3 rfl c370)).2.2.2 (by decide) (by decide) k) ?_
          show Go p e below s Q 6 22 (T331.setTop (mkF m 431 #[.val (.int x0), .val (.int x1), .val (.int x2), .val (.int x3), .val (.int x4), .val (.int v14), .val (.int v17), .val (.int j18), .val (.int j27), .val (.int j37), .val (.int j46), .val (.int j90), .val (.int v110), .val (.ref b111), .val (.ref b115), .val (.ref b121), .val (.ref b129), .val (.int li4), .val (.int hi4), .val (.ref r_332)] []))
          refine Go.st (fun _ k => XS.iconst X331.here hx rfl (hb hby at_431) k) ?_
          show Go p e below s Q 6 22 (T331.setTop (mkF m 432 #[.val (.int x0), .val (.int x1), .val (.int x2), .val (.int x3), .val (.int x4), .val (.int v14), .val (.int v17), .val (.int j18), .val (.int j27), .val (.int j37), .val (.int j46), .val (.int j90), .val (.int v110), .val (.ref b111), .val (.ref b115), .val (.ref b121), .val (.ref b129), .val (.int li4), .val (.int hi4), .val (.ref r_332)] [(.int (1 : Int32))]))
          refine Go.st (fun _ k => XS.goto X331.here hx rfl (pc0 := 432) (pc' := 436) rfl (hb hby at_432) (by decide) (by decide) k) ?_
          show Go p e below s Q 6 22 (T331.setTop (mkF m 436 #[.val (.int x0), .val (.int x1), .val (.int x2), .val (.int x3), .val (.int x4), .val (.int v14), .val (.int v17), .val (.int j18), .val (.int j27), .val (.int j37), .val (.int j46), .val (.int j90), .val (.int v110), .val (.ref b111), .val (.ref b115), .val (.ref b121), .val (.ref b129), .val (.int li4), .val (.int hi4), .val (.ref r_332)] [(.int (1 : Int32))]))
          exact Go.retN X331 hx hlk (by simp) Bd.returns (hb hby at_436) (z' := (1 : Int32)) (by decide) (by rw [← hQ]; exact ⟨rfl, N331, K331⟩) (by decide) (by decide)
      ·
        refine Go.st (fun _ k => XS.icmpYes X331.here hx rfl (pc0 := 405) (pc' := 416) rfl (hb hby at_405) rfl (flt (nltI liI_2 rfl c363)).2.2.2 (by decide) (by decide) k) ?_
        show Go p e below s Q 6 22 (T331.setTop (mkF m 416 #[.val (.int x0), .val (.int x1), .val (.int x2), .val (.int x3), .val (.int x4), .val (.int v14), .val (.int v17), .val (.int j18), .val (.int j27), .val (.int j37), .val (.int j46), .val (.int j90), .val (.int v110), .val (.ref b111), .val (.ref b115), .val (.ref b121), .val (.ref b129), .val (.int li4), .val (.int hi4), .val (.ref r_332)] []))
        refine Go.st (fun _ k => XS.iload X331.here hx rfl (hb hby at_416) rfl k) ?_
        show Go p e below s Q 6 22 (T331.setTop (mkF m 418 #[.val (.int x0), .val (.int x1), .val (.int x2), .val (.int x3), .val (.int x4), .val (.int v14), .val (.int v17), .val (.int j18), .val (.int j27), .val (.int j37), .val (.int j46), .val (.int j90), .val (.int v110), .val (.ref b111), .val (.ref b115), .val (.ref b121), .val (.ref b129), .val (.int li4), .val (.int hi4), .val (.ref r_332)] [(.int v14)]))
        refine Go.st (fun _ k => XS.iconst X331.here hx rfl (hb hby at_418) k) ?_
        show Go p e below s Q 6 22 (T331.setTop (mkF m 419 #[.val (.int x0), .val (.int x1), .val (.int x2), .val (.int x3), .val (.int x4), .val (.int v14), .val (.int v17), .val (.int j18), .val (.int j27), .val (.int j37), .val (.int j46), .val (.int j90), .val (.int v110), .val (.ref b111), .val (.ref b115), .val (.ref b121), .val (.ref b129), .val (.int li4), .val (.int hi4), .val (.ref r_332)] [(.int (3 : Int32)), (.int v14)]))
        have f376 := liI_3
        by_cases c377 : 3 < v14.toInt
        ·
          refine Go.st (fun _ k => XS.icmpNo X331.here hx rfl (hb hby at_419) rfl (tlt (ltI liI_3 rfl c377)).2.2.2 k) ?_
          show Go p e below s Q 6 22 (T331.setTop (mkF m 422 #[.val (.int x0), .val (.int x1), .val (.int x2), .val (.int x3), .val (.int x4), .val (.int v14), .val (.int v17), .val (.int j18), .val (.int j27), .val (.int j37), .val (.int j46), .val (.int j90), .val (.int v110), .val (.ref b111), .val (.ref b115), .val (.ref b121), .val (.ref b129), .val (.int li4), .val (.int hi4), .val (.ref r_332)] []))
          refine Go.st (fun _ k => XS.aload X331.here hx rfl (hb hby at_422) rfl rfl k) ?_
          show Go p e below s Q 6 22 (T331.setTop (mkF m 424 #[.val (.int x0), .val (.int x1), .val (.int x2), .val (.int x3), .val (.int x4), .val (.int v14), .val (.int v17), .val (.int j18), .val (.int j27), .val (.int j37), .val (.int j46), .val (.int j90), .val (.int v110), .val (.ref b111), .val (.ref b115), .val (.ref b121), .val (.ref b129), .val (.int li4), .val (.int hi4), .val (.ref r_332)] [(.ref r_332)]))
          refine Go.st (fun _ k => XS.iconst X331.here hx rfl (hb hby at_424) k) ?_
          show Go p e below s Q 6 22 (T331.setTop (mkF m 425 #[.val (.int x0), .val (.int x1), .val (.int x2), .val (.int x3), .val (.int x4), .val (.int v14), .val (.int v17), .val (.int j18), .val (.int j27), .val (.int j37), .val (.int j46), .val (.int j90), .val (.int v110), .val (.ref b111), .val (.ref b115), .val (.ref b121), .val (.ref b129), .val (.int li4), .val (.int hi4), .val (.ref r_332)] [(.int (3 : Int32)), (.ref r_332)]))
          have r379 : 0 ≤ (3 : Int32).toInt := by omega
          have r380 : (3 : Int32).toInt < nr_333.toInt := by omega
          refine Go.st (Vec.ildI X331 hx hZ rfl h337 (j := (3 : Int32)) r379 r380 (g := (mkF m 425 #[.val (.int x0), .val (.int x1), .val (.int x2), .val (.int x3), .val (.int x4), .val (.int v14), .val (.int v17), .val (.int j18), .val (.int j27), .val (.int j37), .val (.int j46), .val (.int j90), .val (.int v110), .val (.ref b111), .val (.ref b115), .val (.ref b121), .val (.ref b129), .val (.int li4), .val (.int hi4), .val (.ref r_332)] [(.int (3 : Int32)), (.ref r_332)])) rfl rfl (hb hby at_425)) ?_
          show Go p e below s Q 6 22 (T331.setTop (mkF m 426 #[.val (.int x0), .val (.int x1), .val (.int x2), .val (.int x3), .val (.int x4), .val (.int v14), .val (.int v17), .val (.int j18), .val (.int j27), .val (.int j37), .val (.int j46), .val (.int j90), .val (.int v110), .val (.ref b111), .val (.ref b115), .val (.ref b121), .val (.ref b129), .val (.int li4), .val (.int hi4), .val (.ref r_332)] [(.int (R_334 3))]))
          refine Go.st (fun _ k => XS.iload X331.here hx rfl (hb hby at_426) rfl k) ?_
          show Go p e below s Q 6 22 (T331.setTop (mkF m 428 #[.val (.int x0), .val (.int x1), .val (.int x2), .val (.int x3), .val (.int x4), .val (.int v14), .val (.int v17), .val (.int j18), .val (.int j27), .val (.int j37), .val (.int j46), .val (.int j90), .val (.int v110), .val (.ref b111), .val (.ref b115), .val (.ref b121), .val (.ref b129), .val (.int li4), .val (.int hi4), .val (.ref r_332)] [(.int x4), (.int (R_334 3))]))
          have f381 := rng32 (R_334 3)
          have c382 : (R_334 3).toInt = x4.toInt := by have q := f336 3 (by omega); have q2 : (R_334 3).toInt = x4.toInt := (by rw [q]; rfl); omega
          refine Go.st (fun _ k => XS.icmpNo X331.here hx rfl (hb hby at_428) rfl (teq (eqI rfl rfl c382)).2 k) ?_
          show Go p e below s Q 6 22 (T331.setTop (mkF m 431 #[.val (.int x0), .val (.int x1), .val (.int x2), .val (.int x3), .val (.int x4), .val (.int v14), .val (.int v17), .val (.int j18), .val (.int j27), .val (.int j37), .val (.int j46), .val (.int j90), .val (.int v110), .val (.ref b111), .val (.ref b115), .val (.ref b121), .val (.ref b129), .val (.int li4), .val (.int hi4), .val (.ref r_332)] []))
          refine Go.st (fun _ k => XS.iconst X331.here hx rfl (hb hby at_431) k) ?_
          show Go p e below s Q 6 22 (T331.setTop (mkF m 432 #[.val (.int x0), .val (.int x1), .val (.int x2), .val (.int x3), .val (.int x4), .val (.int v14), .val (.int v17), .val (.int j18), .val (.int j27), .val (.int j37), .val (.int j46), .val (.int j90), .val (.int v110), .val (.ref b111), .val (.ref b115), .val (.ref b121), .val (.ref b129), .val (.int li4), .val (.int hi4), .val (.ref r_332)] [(.int (1 : Int32))]))
          refine Go.st (fun _ k => XS.goto X331.here hx rfl (pc0 := 432) (pc' := 436) rfl (hb hby at_432) (by decide) (by decide) k) ?_
          show Go p e below s Q 6 22 (T331.setTop (mkF m 436 #[.val (.int x0), .val (.int x1), .val (.int x2), .val (.int x3), .val (.int x4), .val (.int v14), .val (.int v17), .val (.int j18), .val (.int j27), .val (.int j37), .val (.int j46), .val (.int j90), .val (.int v110), .val (.ref b111), .val (.ref b115), .val (.ref b121), .val (.ref b129), .val (.int li4), .val (.int hi4), .val (.ref r_332)] [(.int (1 : Int32))]))
          exact Go.retN X331 hx hlk (by simp) Bd.returns (hb hby at_436) (z' := (1 : Int32)) (by decide) (by rw [← hQ]; exact ⟨rfl, N331, K331⟩) (by decide) (by decide)
        ·
          refine Go.st (fun _ k => XS.icmpYes X331.here hx rfl (pc0 := 419) (pc' := 431) rfl (hb hby at_419) rfl (flt (nltI liI_3 rfl c377)).2.2.2 (by decide) (by decide) k) ?_
          show Go p e below s Q 6 22 (T331.setTop (mkF m 431 #[.val (.int x0), .val (.int x1), .val (.int x2), .val (.int x3), .val (.int x4), .val (.int v14), .val (.int v17), .val (.int j18), .val (.int j27), .val (.int j37), .val (.int j46), .val (.int j90), .val (.int v110), .val (.ref b111), .val (.ref b115), .val (.ref b121), .val (.ref b129), .val (.int li4), .val (.int hi4), .val (.ref r_332)] []))
          refine Go.st (fun _ k => XS.iconst X331.here hx rfl (hb hby at_431) k) ?_
          show Go p e below s Q 6 22 (T331.setTop (mkF m 432 #[.val (.int x0), .val (.int x1), .val (.int x2), .val (.int x3), .val (.int x4), .val (.int v14), .val (.int v17), .val (.int j18), .val (.int j27), .val (.int j37), .val (.int j46), .val (.int j90), .val (.int v110), .val (.ref b111), .val (.ref b115), .val (.ref b121), .val (.ref b129), .val (.int li4), .val (.int hi4), .val (.ref r_332)] [(.int (1 : Int32))]))
          refine Go.st (fun _ k => XS.goto X331.here hx rfl (pc0 := 432) (pc' := 436) rfl (hb hby at_432) (by decide) (by decide) k) ?_
          show Go p e below s Q 6 22 (T331.setTop (mkF m 436 #[.val (.int x0), .val (.int x1), .val (.int x2), .val (.int x3), .val (.int x4), .val (.int v14), .val (.int v17), .val (.int j18), .val (.int j27), .val (.int j37), .val (.int j46), .val (.int j90), .val (.int v110), .val (.ref b111), .val (.ref b115), .val (.ref b121), .val (.ref b129), .val (.int li4), .val (.int hi4), .val (.ref r_332)] [(.int (1 : Int32))]))
          exact Go.retN X331 hx hlk (by simp) Bd.returns (hb hby at_436) (z' := (1 : Int32)) (by decide) (by rw [← hQ]; exact ⟨rfl, N331, K331⟩) (by decide) (by decide)
    ·
      refine Go.st (fun _ k => XS.icmpYes X331.here hx rfl (pc0 := 391) (pc' := 402) rfl (hb hby at_391) rfl (flt (nltI liI_1 rfl c356)).2.2.2 (by decide) (by decide) k) ?_
      show Go p e below s Q 6 22 (T331.setTop (mkF m 402 #[.val (.int x0), .val (.int x1), .val (.int x2), .val (.int x3), .val (.int x4), .val (.int v14), .val (.int v17), .val (.int j18), .val (.int j27), .val (.int j37), .val (.int j46), .val (.int j90), .val (.int v110), .val (.ref b111), .val (.ref b115), .val (.ref b121), .val (.ref b129), .val (.int li4), .val (.int hi4), .val (.ref r_332)] []))
      refine Go.st (fun _ k => XS.iload X331.here hx rfl (hb hby at_402) rfl k) ?_
      show Go p e below s Q 6 22 (T331.setTop (mkF m 404 #[.val (.int x0), .val (.int x1), .val (.int x2), .val (.int x3), .val (.int x4), .val (.int v14), .val (.int v17), .val (.int j18), .val (.int j27), .val (.int j37), .val (.int j46), .val (.int j90), .val (.int v110), .val (.ref b111), .val (.ref b115), .val (.ref b121), .val (.ref b129), .val (.int li4), .val (.int hi4), .val (.ref r_332)] [(.int v14)]))
      refine Go.st (fun _ k => XS.iconst X331.here hx rfl (hb hby at_404) k) ?_
      show Go p e below s Q 6 22 (T331.setTop (mkF m 405 #[.val (.int x0), .val (.int x1), .val (.int x2), .val (.int x3), .val (.int x4), .val (.int v14), .val (.int v17), .val (.int j18), .val (.int j27), .val (.int j37), .val (.int j46), .val (.int j90), .val (.int v110), .val (.ref b111), .val (.ref b115), .val (.ref b121), .val (.ref b129), .val (.int li4), .val (.int hi4), .val (.ref r_332)] [(.int (2 : Int32)), (.int v14)]))
      have f383 := liI_2
      by_cases c384 : 2 < v14.toInt
      ·
        refine Go.st (fun _ k => XS.icmpNo X331.here hx rfl (hb hby at_405) rfl (tlt (ltI liI_2 rfl c384)).2.2.2 k) ?_
        show Go p e below s Q 6 22 (T331.setTop (mkF m 408 #[.val (.int x0), .val (.int x1), .val (.int x2), .val (.int x3), .val (.int x4), .val (.int v14), .val (.int v17), .val (.int j18), .val (.int j27), .val (.int j37), .val (.int j46), .val (.int j90), .val (.int v110), .val (.ref b111), .val (.ref b115), .val (.ref b121), .val (.ref b129), .val (.int li4), .val (.int hi4), .val (.ref r_332)] []))
        refine Go.st (fun _ k => XS.aload X331.here hx rfl (hb hby at_408) rfl rfl k) ?_
        show Go p e below s Q 6 22 (T331.setTop (mkF m 410 #[.val (.int x0), .val (.int x1), .val (.int x2), .val (.int x3), .val (.int x4), .val (.int v14), .val (.int v17), .val (.int j18), .val (.int j27), .val (.int j37), .val (.int j46), .val (.int j90), .val (.int v110), .val (.ref b111), .val (.ref b115), .val (.ref b121), .val (.ref b129), .val (.int li4), .val (.int hi4), .val (.ref r_332)] [(.ref r_332)]))
        refine Go.st (fun _ k => XS.iconst X331.here hx rfl (hb hby at_410) k) ?_
        show Go p e below s Q 6 22 (T331.setTop (mkF m 411 #[.val (.int x0), .val (.int x1), .val (.int x2), .val (.int x3), .val (.int x4), .val (.int v14), .val (.int v17), .val (.int j18), .val (.int j27), .val (.int j37), .val (.int j46), .val (.int j90), .val (.int v110), .val (.ref b111), .val (.ref b115), .val (.ref b121), .val (.ref b129), .val (.int li4), .val (.int hi4), .val (.ref r_332)] [(.int (2 : Int32)), (.ref r_332)]))
        have r386 : 0 ≤ (2 : Int32).toInt := by omega
        have r387 : (2 : Int32).toInt < nr_333.toInt := by omega
        refine Go.st (Vec.ildI X331 hx hZ rfl h337 (j := (2 : Int32)) r386 r387 (g := (mkF m 411 #[.val (.int x0), .val (.int x1), .val (.int x2), .val (.int x3), .val (.int x4), .val (.int v14), .val (.int v17), .val (.int j18), .val (.int j27), .val (.int j37), .val (.int j46), .val (.int j90), .val (.int v110), .val (.ref b111), .val (.ref b115), .val (.ref b121), .val (.ref b129), .val (.int li4), .val (.int hi4), .val (.ref r_332)] [(.int (2 : Int32)), (.ref r_332)])) rfl rfl (hb hby at_411)) ?_
        show Go p e below s Q 6 22 (T331.setTop (mkF m 412 #[.val (.int x0), .val (.int x1), .val (.int x2), .val (.int x3), .val (.int x4), .val (.int v14), .val (.int v17), .val (.int j18), .val (.int j27), .val (.int j37), .val (.int j46), .val (.int j90), .val (.int v110), .val (.ref b111), .val (.ref b115), .val (.ref b121), .val (.ref b129), .val (.int li4), .val (.int hi4), .val (.ref r_332)] [(.int (R_334 2))]))
        refine Go.st (fun _ k => XS.iloadN X331.here hx rfl (hb hby at_412) rfl k) ?_
        show Go p e below s Q 6 22 (T331.setTop (mkF m 413 #[.val (.int x0), .val (.int x1), .val (.int x2), .val (.int x3), .val (.int x4), .val (.int v14), .val (.int v17), .val (.int j18), .val (.int j27), .val (.int j37), .val (.int j46), .val (.int j90), .val (.int v110), .val (.ref b111), .val (.ref b115), .val (.ref b121), .val (.ref b129), .val (.int li4), .val (.int hi4), .val (.ref r_332)] [(.int x3), (.int (R_334 2))]))
        have f388 := rng32 (R_334 2)
        have c389 : (R_334 2).toInt = x3.toInt := by have q := f336 2 (by omega); have q2 : (R_334 2).toInt = x3.toInt := (by rw [q]; rfl); omega
        refine Go.st (fun _ k => XS.icmpNo X331.here hx rfl (hb hby at_413) rfl (teq (eqI rfl rfl c389)).2 k) ?_
        show Go p e below s Q 6 22 (T331.setTop (mkF m 416 #[.val (.int x0), .val (.int x1), .val (.int x2), .val (.int x3), .val (.int x4), .val (.int v14), .val (.int v17), .val (.int j18), .val (.int j27), .val (.int j37), .val (.int j46), .val (.int j90), .val (.int v110), .val (.ref b111), .val (.ref b115), .val (.ref b121), .val (.ref b129), .val (.int li4), .val (.int hi4), .val (.ref r_332)] []))
        refine Go.st (fun _ k => XS.iload X331.here hx rfl (hb hby at_416) rfl k) ?_
        show Go p e below s Q 6 22 (T331.setTop (mkF m 418 #[.val (.int x0), .val (.int x1), .val (.int x2), .val (.int x3), .val (.int x4), .val (.int v14), .val (.int v17), .val (.int j18), .val (.int j27), .val (.int j37), .val (.int j46), .val (.int j90), .val (.int v110), .val (.ref b111), .val (.ref b115), .val (.ref b121), .val (.ref b129), .val (.int li4), .val (.int hi4), .val (.ref r_332)] [(.int v14)]))
        refine Go.st (fun _ k => XS.iconst X331.here hx rfl (hb hby at_418) k) ?_
        show Go p e below s Q 6 22 (T331.setTop (mkF m 419 #[.val (.int x0), .val (.int x1), .val (.int x2), .val (.int x3), .val (.int x4), .val (.int v14), .val (.int v17), .val (.int j18), .val (.int j27), .val (.int j37), .val (.int j46), .val (.int j90), .val (.int v110), .val (.ref b111), .val (.ref b115), .val (.ref b121), .val (.ref b129), .val (.int li4), .val (.int hi4), .val (.ref r_332)] [(.int (3 : Int32)), (.int v14)]))
        have f390 := liI_3
        by_cases c391 : 3 < v14.toInt
        ·
          refine Go.st (fun _ k => XS.icmpNo X331.here hx rfl (hb hby at_419) rfl (tlt (ltI liI_3 rfl c391)).2.2.2 k) ?_
          show Go p e below s Q 6 22 (T331.setTop (mkF m 422 #[.val (.int x0), .val (.int x1), .val (.int x2), .val (.int x3), .val (.int x4), .val (.int v14), .val (.int v17), .val (.int j18), .val (.int j27), .val (.int j37), .val (.int j46), .val (.int j90), .val (.int v110), .val (.ref b111), .val (.ref b115), .val (.ref b121), .val (.ref b129), .val (.int li4), .val (.int hi4), .val (.ref r_332)] []))
          refine Go.st (fun _ k => XS.aload X331.here hx rfl (hb hby at_422) rfl rfl k) ?_
          show Go p e below s Q 6 22 (T331.setTop (mkF m 424 #[.val (.int x0), .val (.int x1), .val (.int x2), .val (.int x3), .val (.int x4), .val (.int v14), .val (.int v17), .val (.int j18), .val (.int j27), .val (.int j37), .val (.int j46), .val (.int j90), .val (.int v110), .val (.ref b111), .val (.ref b115), .val (.ref b121), .val (.ref b129), .val (.int li4), .val (.int hi4), .val (.ref r_332)] [(.ref r_332)]))
          refine Go.st (fun _ k => XS.iconst X331.here hx rfl (hb hby at_424) k) ?_
          show Go p e below s Q 6 22 (T331.setTop (mkF m 425 #[.val (.int x0), .val (.int x1), .val (.int x2), .val (.int x3), .val (.int x4), .val (.int v14), .val (.int v17), .val (.int j18), .val (.int j27), .val (.int j37), .val (.int j46), .val (.int j90), .val (.int v110), .val (.ref b111), .val (.ref b115), .val (.ref b121), .val (.ref b129), .val (.int li4), .val (.int hi4), .val (.ref r_332)] [(.int (3 : Int32)), (.ref r_332)]))
          have r393 : 0 ≤ (3 : Int32).toInt := by omega
          have r394 : (3 : Int32).toInt < nr_333.toInt := by omega
          refine Go.st (Vec.ildI X331 hx hZ rfl h337 (j := (3 : Int32)) r393 r394 (g := (mkF m 425 #[.val (.int x0), .val (.int x1), .val (.int x2), .val (.int x3), .val (.int x4), .val (.int v14), .val (.int v17), .val (.int j18), .val (.int j27), .val (.int j37), .val (.int j46), .val (.int j90), .val (.int v110), .val (.ref b111), .val (.ref b115), .val (.ref b121), .val (.ref b129), .val (.int li4), .val (.int hi4), .val (.ref r_332)] [(.int (3 : Int32)), (.ref r_332)])) rfl rfl (hb hby at_425)) ?_
          show Go p e below s Q 6 22 (T331.setTop (mkF m 426 #[.val (.int x0), .val (.int x1), .val (.int x2), .val (.int x3), .val (.int x4), .val (.int v14), .val (.int v17), .val (.int j18), .val (.int j27), .val (.int j37), .val (.int j46), .val (.int j90), .val (.int v110), .val (.ref b111), .val (.ref b115), .val (.ref b121), .val (.ref b129), .val (.int li4), .val (.int hi4), .val (.ref r_332)] [(.int (R_334 3))]))
          refine Go.st (fun _ k => XS.iload X331.here hx rfl (hb hby at_426) rfl k) ?_
          show Go p e below s Q 6 22 (T331.setTop (mkF m 428 #[.val (.int x0), .val (.int x1), .val (.int x2), .val (.int x3), .val (.int x4), .val (.int v14), .val (.int v17), .val (.int j18), .val (.int j27), .val (.int j37), .val (.int j46), .val (.int j90), .val (.int v110), .val (.ref b111), .val (.ref b115), .val (.ref b121), .val (.ref b129), .val (.int li4), .val (.int hi4), .val (.ref r_332)] [(.int x4), (.int (R_334 3))]))
          have f395 := rng32 (R_334 3)
          have c396 : (R_334 3).toInt = x4.toInt := by have q := f336 3 (by omega); have q2 : (R_334 3).toInt = x4.toInt := (by rw [q]; rfl); omega
          refine Go.st (fun _ k => XS.icmpNo X331.here hx rfl (hb hby at_428) rfl (teq (eqI rfl rfl c396)).2 k) ?_
          show Go p e below s Q 6 22 (T331.setTop (mkF m 431 #[.val (.int x0), .val (.int x1), .val (.int x2), .val (.int x3), .val (.int x4), .val (.int v14), .val (.int v17), .val (.int j18), .val (.int j27), .val (.int j37), .val (.int j46), .val (.int j90), .val (.int v110), .val (.ref b111), .val (.ref b115), .val (.ref b121), .val (.ref b129), .val (.int li4), .val (.int hi4), .val (.ref r_332)] []))
          refine Go.st (fun _ k => XS.iconst X331.here hx rfl (hb hby at_431) k) ?_
          show Go p e below s Q 6 22 (T331.setTop (mkF m 432 #[.val (.int x0), .val (.int x1), .val (.int x2), .val (.int x3), .val (.int x4), .val (.int v14), .val (.int v17), .val (.int j18), .val (.int j27), .val (.int j37), .val (.int j46), .val (.int j90), .val (.int v110), .val (.ref b111), .val (.ref b115), .val (.ref b121), .val (.ref b129), .val (.int li4), .val (.int hi4), .val (.ref r_332)] [(.int (1 : Int32))]))
          refine Go.st (fun _ k => XS.goto X331.here hx rfl (pc0 := 432) (pc' := 436) rfl (hb hby at_432) (by decide) (by decide) k) ?_
          show Go p e below s Q 6 22 (T331.setTop (mkF m 436 #[.val (.int x0), .val (.int x1), .val (.int x2), .val (.int x3), .val (.int x4), .val (.int v14), .val (.int v17), .val (.int j18), .val (.int j27), .val (.int j37), .val (.int j46), .val (.int j90), .val (.int v110), .val (.ref b111), .val (.ref b115), .val (.ref b121), .val (.ref b129), .val (.int li4), .val (.int hi4), .val (.ref r_332)] [(.int (1 : Int32))]))
          exact Go.retN X331 hx hlk (by simp) Bd.returns (hb hby at_436) (z' := (1 : Int32)) (by decide) (by rw [← hQ]; exact ⟨rfl, N331, K331⟩) (by decide) (by decide)
        ·
          refine Go.st (fun _ k => XS.icmpYes X331.here hx rfl (pc0 := 419) (pc' := 431) rfl (hb hby at_419) rfl (flt (nltI liI_3 rfl c391)).2.2.2 (by decide) (by decide) k) ?_
          show Go p e below s Q 6 22 (T331.setTop (mkF m 431 #[.val (.int x0), .val (.int x1), .val (.int x2), .val (.int x3), .val (.int x4), .val (.int v14), .val (.int v17), .val (.int j18), .val (.int j27), .val (.int j37), .val (.int j46), .val (.int j90), .val (.int v110), .val (.ref b111), .val (.ref b115), .val (.ref b121), .val (.ref b129), .val (.int li4), .val (.int hi4), .val (.ref r_332)] []))
          refine Go.st (fun _ k => XS.iconst X331.here hx rfl (hb hby at_431) k) ?_
          show Go p e below s Q 6 22 (T331.setTop (mkF m 432 #[.val (.int x0), .val (.int x1), .val (.int x2), .val (.int x3), .val (.int x4), .val (.int v14), .val (.int v17), .val (.int j18), .val (.int j27), .val (.int j37), .val (.int j46), .val (.int j90), .val (.int v110), .val (.ref b111), .val (.ref b115), .val (.ref b121), .val (.ref b129), .val (.int li4), .val (.int hi4), .val (.ref r_332)] [(.int (1 : Int32))]))
          refine Go.st (fun _ k => XS.goto X331.here hx rfl (pc0 := 432) (pc' := 436) rfl (hb hby at_432) (by decide) (by decide) k) ?_
          show Go p e below s Q 6 22 (T331.setTop (mkF m 436 #[.val (.int x0), .val (.int x1), .val (.int x2), .val (.int x3), .val (.int x4), .val (.int v14), .val (.int v17), .val (.int j18), .val (.int j27), .val (.int j37), .val (.int j46), .val (.int j90), .val (.int v110), .val (.ref b111), .val (.ref b115), .val (.ref b121), .val (.ref b129), .val (.int li4), .val (.int hi4), .val (.ref r_332)] [(.int (1 : Int32))]))
          exact Go.retN X331 hx hlk (by simp) Bd.returns (hb hby at_436) (z' := (1 : Int32)) (by decide) (by rw [← hQ]; exact ⟨rfl, N331, K331⟩) (by decide) (by decide)
      ·
        refine Go.st (fun _ k => XS.icmpYes X331.here hx rfl (pc0 := 405) (pc' := 416) rfl (hb hby at_405) rfl (flt (nltI liI_2 rfl c384)).2.2.2 (by decide) (by decide) k) ?_
        show Go p e below s Q 6 22 (T331.setTop (mkF m 416 #[.val (.int x0), .val (.int x1), .val (.int x2), .val (.int x3), .val (.int x4), .val (.int v14), .val (.int v17), .val (.int j18), .val (.int j27), .val (.int j37), .val (.int j46), .val (.int j90), .val (.int v110), .val (.ref b111), .val (.ref b115), .val (.ref b121), .val (.ref b129), .val (.int li4), .val (.int hi4), .val (.ref r_332)] []))
        refine Go.st (fun _ k => XS.iload X331.here hx rfl (hb hby at_416) rfl k) ?_
        show Go p e below s Q 6 22 (T331.setTop (mkF m 418 #[.val (.int x0), .val (.int x1), .val (.int x2), .val (.int x3), .val (.int x4), .val (.int v14), .val (.int v17), .val (.int j18), .val (.int j27), .val (.int j37), .val (.int j46), .val (.int j90), .val (.int v110), .val (.ref b111), .val (.ref b115), .val (.ref b121), .val (.ref b129), .val (.int li4), .val (.int hi4), .val (.ref r_332)] [(.int v14)]))
        refine Go.st (fun _ k => XS.iconst X331.here hx rfl (hb hby at_418) k) ?_
        show Go p e below s Q 6 22 (T331.setTop (mkF m 419 #[.val (.int x0), .val (.int x1), .val (.int x2), .val (.int x3), .val (.int x4), .val (.int v14), .val (.int v17), .val (.int j18), .val (.int j27), .val (.int j37), .val (.int j46), .val (.int j90), .val (.int v110), .val (.ref b111), .val (.ref b115), .val (.ref b121), .val (.ref b129), .val (.int li4), .val (.int hi4), .val (.ref r_332)] [(.int (3 : Int32)), (.int v14)]))
        have f397 := liI_3
        by_cases c398 : 3 < v14.toInt
        ·
          refine Go.st (fun _ k => XS.icmpNo X331.here hx rfl (hb hby at_419) rfl (tlt (ltI liI_3 rfl c398)).2.2.2 k) ?_
          show Go p e below s Q 6 22 (T331.setTop (mkF m 422 #[.val (.int x0), .val (.int x1), .val (.int x2), .val (.int x3), .val (.int x4), .val (.int v14), .val (.int v17), .val (.int j18), .val (.int j27), .val (.int j37), .val (.int j46), .val (.int j90), .val (.int v110), .val (.ref b111), .val (.ref b115), .val (.ref b121), .val (.ref b129), .val (.int li4), .val (.int hi4), .val (.ref r_332)] []))
          refine Go.st (fun _ k => XS.aload X331.here hx rfl (hb hby at_422) rfl rfl k) ?_
          show Go p e below s Q 6 22 (T331.setTop (mkF m 424 #[.val (.int x0), .val (.int x1), .val (.int x2), .val (.int x3), .val (.int x4), .val (.int v14), .val (.int v17), .val (.int j18), .val (.int j27), .val (.int j37), .val (.int j46), .val (.int j90), .val (.int v110), .val (.ref b111), .val (.ref b115), .val (.ref b121), .val (.ref b129), .val (.int li4), .val (.int hi4), .val (.ref r_332)] [(.ref r_332)]))
          refine Go.st (fun _ k => XS.iconst X331.here hx rfl (hb hby at_424) k) ?_
          show Go p e below s Q 6 22 (T331.setTop (mkF m 425 #[.val (.int x0), .val (.int x1), .val (.int x2), .val (.int x3), .val (.int x4), .val (.int v14), .val (.int v17), .val (.int j18), .val (.int j27), .val (.int j37), .val (.int j46), .val (.int j90), .val (.int v110), .val (.ref b111), .val (.ref b115), .val (.ref b121), .val (.ref b129), .val (.int li4), .val (.int hi4), .val (.ref r_332)] [(.int (3 : Int32)), (.ref r_332)]))
          have r400 : 0 ≤ (3 : Int32).toInt := by omega
          have r401 : (3 : Int32).toInt < nr_333.toInt := by omega
          refine Go.st (Vec.ildI X331 hx hZ rfl h337 (j := (3 : Int32)) r400 r401 (g := (mkF m 425 #[.val (.int x0), .val (.int x1), .val (.int x2), .val (.int x3), .val (.int x4), .val (.int v14), .val (.int v17), .val (.int j18), .val (.int j27), .val (.int j37), .val (.int j46), .val (.int j90), .val (.int v110), .val (.ref b111), .val (.ref b115), .val (.ref b121), .val (.ref b129), .val (.int li4), .val (.int hi4), .val (.ref r_332)] [(.int (3 : Int32)), (.ref r_332)])) rfl rfl (hb hby at_425)) ?_
          show Go p e below s Q 6 22 (T331.setTop (mkF m 426 #[.val (.int x0), .val (.int x1), .val (.int x2), .val (.int x3), .val (.int x4), .val (.int v14), .val (.int v17), .val (.int j18), .val (.int j27), .val (.int j37), .val (.int j46), .val (.int j90), .val (.int v110), .val (.ref b111), .val (.ref b115), .val (.ref b121), .val (.ref b129), .val (.int li4), .val (.int hi4), .val (.ref r_332)] [(.int (R_334 3))]))
          refine Go.st (fun _ k => XS.iload X331.here hx rfl (hb hby at_426) rfl k) ?_
          show Go p e below s Q 6 22 (T331.setTop (mkF m 428 #[.val (.int x0), .val (.int x1), .val (.int x2), .val (.int x3), .val (.int x4), .val (.int v14), .val (.int v17), .val (.int j18), .val (.int j27), .val (.int j37), .val (.int j46), .val (.int j90), .val (.int v110), .val (.ref b111), .val (.ref b115), .val (.ref b121), .val (.ref b129), .val (.int li4), .val (.int hi4), .val (.ref r_332)] [(.int x4), (.int (R_334 3))]))
          have f402 := rng32 (R_334 3)
          have c403 : (R_334 3).toInt = x4.toInt := by have q := f336 3 (by omega); have q2 : (R_334 3).toInt = x4.toInt := (by rw [q]; rfl); omega
          refine Go.st (fun _ k => XS.icmpNo X331.here hx rfl (hb hby at_428) rfl (teq (eqI rfl rfl c403)).2 k) ?_
          show Go p e below s Q 6 22 (T331.setTop (mkF m 431 #[.val (.int x0), .val (.int x1), .val (.int x2), .val (.int x3), .val (.int x4), .val (.int v14), .val (.int v17), .val (.int j18), .val (.int j27), .val (.int j37), .val (.int j46), .val (.int j90), .val (.int v110), .val (.ref b111), .val (.ref b115), .val (.ref b121), .val (.ref b129), .val (.int li4), .val (.int hi4), .val (.ref r_332)] []))
          refine Go.st (fun _ k => XS.iconst X331.here hx rfl (hb hby at_431) k) ?_
          show Go p e below s Q 6 22 (T331.setTop (mkF m 432 #[.val (.int x0), .val (.int x1), .val (.int x2), .val (.int x3), .val (.int x4), .val (.int v14), .val (.int v17), .val (.int j18), .val (.int j27), .val (.int j37), .val (.int j46), .val (.int j90), .val (.int v110), .val (.ref b111), .val (.ref b115), .val (.ref b121), .val (.ref b129), .val (.int li4), .val (.int hi4), .val (.ref r_332)] [(.int (1 : Int32))]))
          refine Go.st (fun _ k => XS.goto X331.here hx rfl (pc0 := 432) (pc' := 436) rfl (hb hby at_432) (by decide) (by decide) k) ?_
          show Go p e below s Q 6 22 (T331.setTop (mkF m 436 #[.val (.int x0), .val (.int x1), .val (.int x2), .val (.int x3), .val (.int x4), .val (.int v14), .val (.int v17), .val (.int j18), .val (.int j27), .val (.int j37), .val (.int j46), .val (.int j90), .val (.int v110), .val (.ref b111), .val (.ref b115), .val (.ref b121), .val (.ref b129), .val (.int li4), .val (.int hi4), .val (.ref r_332)] [(.int (1 : Int32))]))
          exact Go.retN X331 hx hlk (by simp) Bd.returns (hb hby at_436) (z' := (1 : Int32)) (by decide) (by rw [← hQ]; exact ⟨rfl, N331, K331⟩) (by decide) (by decide)
        ·
          refine Go.st (fun _ k => XS.icmpYes X331.here hx rfl (pc0 := 419) (pc' := 431) rfl (hb hby at_419) rfl (flt (nltI liI_3 rfl c398)).2.2.2 (by decide) (by decide) k) ?_
          show Go p e below s Q 6 22 (T331.setTop (mkF m 431 #[.val (.int x0), .val (.int x1), .val (.int x2), .val (.int x3), .val (.int x4), .val (.int v14), .val (.int v17), .val (.int j18), .val (.int j27), .val (.int j37), .val (.int j46), .val (.int j90), .val (.int v110), .val (.ref b111), .val (.ref b115), .val (.ref b121), .val (.ref b129), .val (.int li4), .val (.int hi4), .val (.ref r_332)] []))
          refine Go.st (fun _ k => XS.iconst X331.here hx rfl (hb hby at_431) k) ?_
          show Go p e below s Q 6 22 (T331.setTop (mkF m 432 #[.val (.int x0), .val (.int x1), .val (.int x2), .val (.int x3), .val (.int x4), .val (.int v14), .val (.int v17), .val (.int j18), .val (.int j27), .val (.int j37), .val (.int j46), .val (.int j90), .val (.int v110), .val (.ref b111), .val (.ref b115), .val (.ref b121), .val (.ref b129), .val (.int li4), .val (.int hi4), .val (.ref r_332)] [(.int (1 : Int32))]))
          refine Go.st (fun _ k => XS.goto X331.here hx rfl (pc0 := 432) (pc' := 436) rfl (hb hby at_432) (by decide) (by decide) k) ?_
          show Go p e below s Q 6 22 (T331.setTop (mkF m 436 #[.val (.int x0), .val (.int x1), .val (.int x2), .val (.int x3), .val (.int x4), .val (.int v14), .val (.int v17), .val (.int j18), .val (.int j27), .val (.int j37), .val (.int j46), .val (.int j90), .val (.int v110), .val (.ref b111), .val (.ref b115), .val (.ref b121), .val (.ref b129), .val (.int li4), .val (.int hi4), .val (.ref r_332)] [(.int (1 : Int32))]))
          exact Go.retN X331 hx hlk (by simp) Bd.returns (hb hby at_436) (z' := (1 : Int32)) (by decide) (by rw [← hQ]; exact ⟨rfl, N331, K331⟩) (by decide) (by decide)
  ·
    refine Go.st (fun _ k => XS.ifYes X331.here hx rfl (pc0 := 377) (pc' := 388) rfl (hb hby at_377) rfl ((if0 _ _).trans (flt (nltI liI_0 rfl c349)).2.2.2) (by decide) (by decide) k) ?_
    show Go p e below s Q 6 22 (T331.setTop (mkF m 388 #[.val (.int x0), .val (.int x1), .val (.int x2), .val (.int x3), .val (.int x4), .val (.int v14), .val (.int v17), .val (.int j18), .val (.int j27), .val (.int j37), .val (.int j46), .val (.int j90), .val (.int v110), .val (.ref b111), .val (.ref b115), .val (.ref b121), .val (.ref b129), .val (.int li4), .val (.int hi4), .val (.ref r_332)] []))
    refine Go.st (fun _ k => XS.iload X331.here hx rfl (hb hby at_388) rfl k) ?_
    show Go p e below s Q 6 22 (T331.setTop (mkF m 390 #[.val (.int x0), .val (.int x1), .val (.int x2), .val (.int x3), .val (.int x4), .val (.int v14), .val (.int v17), .val (.int j18), .val (.int j27), .val (.int j37), .val (.int j46), .val (.int j90), .val (.int v110), .val (.ref b111), .val (.ref b115), .val (.ref b121), .val (.ref b129), .val (.int li4), .val (.int hi4), .val (.ref r_332)] [(.int v14)]))
    refine Go.st (fun _ k => XS.iconst X331.here hx rfl (hb hby at_390) k) ?_
    show Go p e below s Q 6 22 (T331.setTop (mkF m 391 #[.val (.int x0), .val (.int x1), .val (.int x2), .val (.int x3), .val (.int x4), .val (.int v14), .val (.int v17), .val (.int j18), .val (.int j27), .val (.int j37), .val (.int j46), .val (.int j90), .val (.int v110), .val (.ref b111), .val (.ref b115), .val (.ref b121), .val (.ref b129), .val (.int li4), .val (.int hi4), .val (.ref r_332)] [(.int (1 : Int32)), (.int v14)]))
    have f404 := liI_1
    by_cases c405 : 1 < v14.toInt
    ·
      refine Go.st (fun _ k => XS.icmpNo X331.here hx rfl (hb hby at_391) rfl (tlt (ltI liI_1 rfl c405)).2.2.2 k) ?_
      show Go p e below s Q 6 22 (T331.setTop (mkF m 394 #[.val (.int x0), .val (.int x1), .val (.int x2), .val (.int x3), .val (.int x4), .val (.int v14), .val (.int v17), .val (.int j18), .val (.int j27), .val (.int j37), .val (.int j46), .val (.int j90), .val (.int v110), .val (.ref b111), .val (.ref b115), .val (.ref b121), .val (.ref b129), .val (.int li4), .val (.int hi4), .val (.ref r_332)] []))
      refine Go.st (fun _ k => XS.aload X331.here hx rfl (hb hby at_394) rfl rfl k) ?_
      show Go p e below s Q 6 22 (T331.setTop (mkF m 396 #[.val (.int x0), .val (.int x1), .val (.int x2), .val (.int x3), .val (.int x4), .val (.int v14), .val (.int v17), .val (.int j18), .val (.int j27), .val (.int j37), .val (.int j46), .val (.int j90), .val (.int v110), .val (.ref b111), .val (.ref b115), .val (.ref b121), .val (.ref b129), .val (.int li4), .val (.int hi4), .val (.ref r_332)] [(.ref r_332)]))
      refine Go.st (fun _ k => XS.iconst X331.here hx rfl (hb hby at_396) k) ?_
      show Go p e below s Q 6 22 (T331.setTop (mkF m 397 #[.val (.int x0), .val (.int x1), .val (.int x2), .val (.int x3), .val (.int x4), .val (.int v14), .val (.int v17), .val (.int j18), .val (.int j27), .val (.int j37), .val (.int j46), .val (.int j90), .val (.int v110), .val (.ref b111), .val (.ref b115), .val (.ref b121), .val (.ref b129), .val (.int li4), .val (.int hi4), .val (.ref r_332)] [(.int (1 : Int32)), (.ref r_332)]))
      have r407 : 0 ≤ (1 : Int32).toInt := by omega
      have r408 : (1 : Int32).toInt < nr_333.toInt := by omega
      refine Go.st (Vec.ildI X331 hx hZ rfl h337 (j := (1 : Int32)) r407 r408 (g := (mkF m 397 #[.val (.int x0), .val (.int x1), .val (.int x2), .val (.int x3), .val (.int x4), .val (.int v14), .val (.int v17), .val (.int j18), .val (.int j27), .val (.int j37), .val (.int j46), .val (.int j90), .val (.int v110), .val (.ref b111), .val (.ref b115), .val (.ref b121), .val (.ref b129), .val (.int li4), .val (.int hi4), .val (.ref r_332)] [(.int (1 : Int32)), (.ref r_332)])) rfl rfl (hb hby at_397)) ?_
      show Go p e below s Q 6 22 (T331.setTop (mkF m 398 #[.val (.int x0), .val (.int x1), .val (.int x2), .val (.int x3), .val (.int x4), .val (.int v14), .val (.int v17), .val (.int j18), .val (.int j27), .val (.int j37), .val (.int j46), .val (.int j90), .val (.int v110), .val (.ref b111), .val (.ref b115), .val (.ref b121), .val (.ref b129), .val (.int li4), .val (.int hi4), .val (.ref r_332)] [(.int (R_334 1))]))
      refine Go.st (fun _ k => XS.iloadN X331.here hx rfl (hb hby at_398) rfl k) ?_
      show Go p e below s Q 6 22 (T331.setTop (mkF m 399 #[.val (.int x0), .val (.int x1), .val (.int x2), .val (.int x3), .val (.int x4), .val (.int v14), .val (.int v17), .val (.int j18), .val (.int j27), .val (.int j37), .val (.int j46), .val (.int j90), .val (.int v110), .val (.ref b111), .val (.ref b115), .val (.ref b121), .val (.ref b129), .val (.int li4), .val (.int hi4), .val (.ref r_332)] [(.int x2), (.int (R_334 1))]))
      have f409 := rng32 (R_334 1)
      have c410 : (R_334 1).toInt = x2.toInt := by have q := f336 1 (by omega); have q2 : (R_334 1).toInt = x2.toInt := (by rw [q]; rfl); omega
      refine Go.st (fun _ k => XS.icmpNo X331.here hx rfl (hb hby at_399) rfl (teq (eqI rfl rfl c410)).2 k) ?_
      show Go p e below s Q 6 22 (T331.setTop (mkF m 402 #[.val (.int x0), .val (.int x1), .val (.int x2), .val (.int x3), .val (.int x4), .val (.int v14), .val (.int v17), .val (.int j18), .val (.int j27), .val (.int j37), .val (.int j46), .val (.int j90), .val (.int v110), .val (.ref b111), .val (.ref b115), .val (.ref b121), .val (.ref b129), .val (.int li4), .val (.int hi4), .val (.ref r_332)] []))
      refine Go.st (fun _ k => XS.iload X331.here hx rfl (hb hby at_402) rfl k) ?_
      show Go p e below s Q 6 22 (T331.setTop (mkF m 404 #[.val (.int x0), .val (.int x1), .val (.int x2), .val (.int x3), .val (.int x4), .val (.int v14), .val (.int v17), .val (.int j18), .val (.int j27), .val (.int j37), .val (.int j46), .val (.int j90), .val (.int v110), .val (.ref b111), .val (.ref b115), .val (.ref b121), .val (.ref b129), .val (.int li4), .val (.int hi4), .val (.ref r_332)] [(.int v14)]))
      refine Go.st (fun _ k => XS.iconst X331.here hx rfl (hb hby at_404) k) ?_
      show Go p e below s Q 6 22 (T331.setTop (mkF m 405 #[.val (.int x0), .val (.int x1), .val (.int x2), .val (.int x3), .val (.int x4), .val (.int v14), .val (.int v17), .val (.int j18), .val (.int j27), .val (.int j37), .val (.int j46), .val (.int j90), .val (.int v110), .val (.ref b111), .val (.ref b115), .val (.ref b121), .val (.ref b129), .val (.int li4), .val (.int hi4), .val (.ref r_332)] [(.int (2 : Int32)), (.int v14)]))
      have f411 := liI_2
      by_cases c412 : 2 < v14.toInt
      ·
        refine Go.st (fun _ k => XS.icmpNo X331.here hx rfl (hb hby at_405) rfl (tlt (ltI liI_2 rfl c412)).2.2.2 k) ?_
        show Go p e below s Q 6 22 (T331.setTop (mkF m 408 #[.val (.int x0), .val (.int x1), .val (.int x2), .val (.int x3), .val (.int x4), .val (.int v14), .val (.int v17), .val (.int j18), .val (.int j27), .val (.int j37), .val (.int j46), .val (.int j90), .val (.int v110), .val (.ref b111), .val (.ref b115), .val (.ref b121), .val (.ref b129), .val (.int li4), .val (.int hi4), .val (.ref r_332)] []))
        refine Go.st (fun _ k => XS.aload X331.here hx rfl (hb hby at_408) rfl rfl k) ?_
        show Go p e below s Q 6 22 (T331.setTop (mkF m 410 #[.val (.int x0), .val (.int x1), .val (.int x2), .val (.int x3), .val (.int x4), .val (.int v14), .val (.int v17), .val (.int j18), .val (.int j27), .val (.int j37), .val (.int j46), .val (.int j90), .val (.int v110), .val (.ref b111), .val (.ref b115), .val (.ref b121), .val (.ref b129), .val (.int li4), .val (.int hi4), .val (.ref r_332)] [(.ref r_332)]))
        refine Go.st (fun _ k => XS.iconst X331.here hx rfl (hb hby at_410) k) ?_
        show Go p e below s Q 6 22 (T331.setTop (mkF m 411 #[.val (.int x0), .val (.int x1), .val (.int x2), .val (.int x3), .val (.int x4), .val (.int v14), .val (.int v17), .val (.int j18), .val (.int j27), .val (.int j37), .val (.int j46), .val (.int j90), .val (.int v110), .val (.ref b111), .val (.ref b115), .val (.ref b121), .val (.ref b129), .val (.int li4), .val (.int hi4), .val (.ref r_332)] [(.int (2 : Int32)), (.ref r_332)]))
        have r414 : 0 ≤ (2 : Int32).toInt := by omega
        have r415 : (2 : Int32).toInt < nr_333.toInt := by omega
        refine Go.st (Vec.ildI X331 hx hZ rfl h337 (j := (2 : Int32)) r414 r415 (g := (mkF m 411 #[.val (.int x0), .val (.int x1), .val (.int x2), .val (.int x3), .val (.int x4), .val (.int v14), .val (.int v17), .val (.int j18), .val (.int j27), .val (.int j37), .val (.int j46), .val (.int j90), .val (.int v110), .val (.ref b111), .val (.ref b115), .val (.ref b121), .val (.ref b129), .val (.int li4), .val (.int hi4), .val (.ref r_332)] [(.int (2 : Int32)), (.ref r_332)])) rfl rfl (hb hby at_411)) ?_
        show Go p e below s Q 6 22 (T331.setTop (mkF m 412 #[.val (.int x0), .val (.int x1), .val (.int x2), .val (.int x3), .val (.int x4), .val (.int v14), .val (.int v17), .val (.int j18), .val (.int j27), .val (.int j37), .val (.int j46), .val (.int j90), .val (.int v110), .val (.ref b111), .val (.ref b115), .val (.ref b121), .val (.ref b129), .val (.int li4), .val (.int hi4), .val (.ref r_332)] [(.int (R_334 2))]))
        refine Go.st (fun _ k => XS.iloadN X331.here hx rfl (hb hby at_412) rfl k) ?_
        show Go p e below s Q 6 22 (T331.setTop (mkF m 413 #[.val (.int x0), .val (.int x1), .val (.int x2), .val (.int x3), .val (.int x4), .val (.int v14), .val (.int v17), .val (.int j18), .val (.int j27), .val (.int j37), .val (.int j46), .val (.int j90), .val (.int v110), .val (.ref b111), .val (.ref b115), .val (.ref b121), .val (.ref b129), .val (.int li4), .val (.int hi4), .val (.ref r_332)] [(.int x3), (.int (R_334 2))]))
        have f416 := rng32 (R_334 2)
        have c417 : (R_334 2).toInt = x3.toInt := by have q := f336 2 (by omega); have q2 : (R_334 2).toInt = x3.toInt := (by rw [q]; rfl); omega
        refine Go.st (fun _ k => XS.icmpNo X331.here hx rfl (hb hby at_413) rfl (teq (eqI rfl rfl c417)).2 k) ?_
        show Go p e below s Q 6 22 (T331.setTop (mkF m 416 #[.val (.int x0), .val (.int x1), .val (.int x2), .val (.int x3), .val (.int x4), .val (.int v14), .val (.int v17), .val (.int j18), .val (.int j27), .val (.int j37), .val (.int j46), .val (.int j90), .val (.int v110), .val (.ref b111), .val (.ref b115), .val (.ref b121), .val (.ref b129), .val (.int li4), .val (.int hi4), .val (.ref r_332)] []))
        refine Go.st (fun _ k => XS.iload X331.here hx rfl (hb hby at_416) rfl k) ?_
        show Go p e below s Q 6 22 (T331.setTop (mkF m 418 #[.val (.int x0), .val (.int x1), .val (.int x2), .val (.int x3), .val (.int x4), .val (.int v14), .val (.int v17), .val (.int j18), .val (.int j27), .val (.int j37), .val (.int j46), .val (.int j90), .val (.int v110), .val (.ref b111), .val (.ref b115), .val (.ref b121), .val (.ref b129), .val (.int li4), .val (.int hi4), .val (.ref r_332)] [(.int v14)]))
        refine Go.st (fun _ k => XS.iconst X331.here hx rfl (hb hby at_418) k) ?_
        show Go p e below s Q 6 22 (T331.setTop (mkF m 419 #[.val (.int x0), .val (.int x1), .val (.int x2), .val (.int x3), .val (.int x4), .val (.int v14), .val (.int v17), .val (.int j18), .val (.int j27), .val (.int j37), .val (.int j46), .val (.int j90), .val (.int v110), .val (.ref b111), .val (.ref b115), .val (.ref b121), .val (.ref b129), .val (.int li4), .val (.int hi4), .val (.ref r_332)] [(.int (3 : Int32)), (.int v14)]))
        have f418 := liI_3
        by_cases c419 : 3 < v14.toInt
        ·
          refine Go.st (fun _ k => XS.icmpNo X331.here hx rfl (hb hby at_419) rfl (tlt (ltI liI_3 rfl c419)).2.2.2 k) ?_
          show Go p e below s Q 6 22 (T331.setTop (mkF m 422 #[.val (.int x0), .val (.int x1), .val (.int x2), .val (.int x3), .val (.int x4), .val (.int v14), .val (.int v17), .val (.int j18), .val (.int j27), .val (.int j37), .val (.int j46), .val (.int j90), .val (.int v110), .val (.ref b111), .val (.ref b115), .val (.ref b121), .val (.ref b129), .val (.int li4), .val (.int hi4), .val (.ref r_332)] []))
          refine Go.st (fun _ k => XS.aload X331.here hx rfl (hb hby at_422) rfl rfl k) ?_
          show Go p e below s Q 6 22 (T331.setTop (mkF m 424 #[.val (.int x0), .val (.int x1), .val (.int x2), .val (.int x3), .val (.int x4), .val (.int v14), .val (.int v17), .val (.int j18), .val (.int j27), .val (.int j37), .val (.int j46), .val (.int j90), .val (.int v110), .val (.ref b111), .val (.ref b115), .val (.ref b121), .val (.ref b129), .val (.int li4), .val (.int hi4), .val (.ref r_332)] [(.ref r_332)]))
          refine Go.st (fun _ k => XS.iconst X331.here hx rfl (hb hby at_424) k) ?_
          show Go p e below s Q 6 22 (T331.setTop (mkF m 425 #[.val (.int x0), .val (.int x1), .val (.int x2), .val (.int x3), .val (.int x4), .val (.int v14), .val (.int v17), .val (.int j18), .val (.int j27), .val (.int j37), .val (.int j46), .val (.int j90), .val (.int v110), .val (.ref b111), .val (.ref b115), .val (.ref b121), .val (.ref b129), .val (.int li4), .val (.int hi4), .val (.ref r_332)] [(.int (3 : Int32)), (.ref r_332)]))
          have r421 : 0 ≤ (3 : Int32).toInt := by omega
          have r422 : (3 : Int32).toInt < nr_333.toInt := by omega
          refine Go.st (Vec.ildI X331 hx hZ rfl h337 (j := (3 : Int32)) r421 r422 (g := (mkF m 425 #[.val (.int x0), .val (.int x1), .val (.int x2), .val (.int x3), .val (.int x4), .val (.int v14), .val (.int v17), .val (.int j18), .val (.int j27), .val (.int j37), .val (.int j46), .val (.int j90), .val (.int v110), .val (.ref b111), .val (.ref b115), .val (.ref b121), .val (.ref b129), .val (.int li4), .val (.int hi4), .val (.ref r_332)] [(.int (3 : Int32)), (.ref r_332)])) rfl rfl (hb hby at_425)) ?_
          show Go p e below s Q 6 22 (T331.setTop (mkF m 426 #[.val (.int x0), .val (.int x1), .val (.int x2), .val (.int x3), .val (.int x4), .val (.int v14), .val (.int v17), .val (.int j18), .val (.int j27), .val (.int j37), .val (.int j46), .val (.int j90), .val (.int v110), .val (.ref b111), .val (.ref b115), .val (.ref b121), .val (.ref b129), .val (.int li4), .val (.int hi4), .val (.ref r_332)] [(.int (R_334 3))]))
          refine Go.st (fun _ k => XS.iload X331.here hx rfl (hb hby at_426) rfl k) ?_
          show Go p e below s Q 6 22 (T331.setTop (mkF m 428 #[.val (.int x0), .val (.int x1), .val (.int x2), .val (.int x3), .val (.int x4), .val (.int v14), .val (.int v17), .val (.int j18), .val (.int j27), .val (.int j37), .val (.int j46), .val (.int j90), .val (.int v110), .val (.ref b111), .val (.ref b115), .val (.ref b121), .val (.ref b129), .val (.int li4), .val (.int hi4), .val (.ref r_332)] [(.int x4), (.int (R_334 3))]))
          have f423 := rng32 (R_334 3)
          have c424 : (R_334 3).toInt = x4.toInt := by have q := f336 3 (by omega); have q2 : (R_334 3).toInt = x4.toInt := (by rw [q]; rfl); omega
          refine Go.st (fun _ k => XS.icmpNo X331.here hx rfl (hb hby at_428) rfl (teq (eqI rfl rfl c424)).2 k) ?_
          show Go p e below s Q 6 22 (T331.setTop (mkF m 431 #[.val (.int x0), .val (.int x1), .val (.int x2), .val (.int x3), .val (.int x4), .val (.int v14), .val (.int v17), .val (.int j18), .val (.int j27), .val (.int j37), .val (.int j46), .val (.int j90), .val (.int v110), .val (.ref b111), .val (.ref b115), .val (.ref b121), .val (.ref b129), .val (.int li4), .val (.int hi4), .val (.ref r_332)] []))
          refine Go.st (fun _ k => XS.iconst X331.here hx rfl (hb hby at_431) k) ?_
          show Go p e below s Q 6 22 (T331.setTop (mkF m 432 #[.val (.int x0), .val (.int x1), .val (.int x2), .val (.int x3), .val (.int x4), .val (.int v14), .val (.int v17), .val (.int j18), .val (.int j27), .val (.int j37), .val (.int j46), .val (.int j90), .val (.int v110), .val (.ref b111), .val (.ref b115), .val (.ref b121), .val (.ref b129), .val (.int li4), .val (.int hi4), .val (.ref r_332)] [(.int (1 : Int32))]))
          refine Go.st (fun _ k => XS.goto X331.here hx rfl (pc0 := 432) (pc' := 436) rfl (hb hby at_432) (by decide) (by decide) k) ?_
          show Go p e below s Q 6 22 (T331.setTop (mkF m 436 #[.val (.int x0), .val (.int x1), .val (.int x2), .val (.int x3), .val (.int x4), .val (.int v14), .val (.int v17), .val (.int j18), .val (.int j27), .val (.int j37), .val (.int j46), .val (.int j90), .val (.int v110), .val (.ref b111), .val (.ref b115), .val (.ref b121), .val (.ref b129), .val (.int li4), .val (.int hi4), .val (.ref r_332)] [(.int (1 : Int32))]))
          exact Go.retN X331 hx hlk (by simp) Bd.returns (hb hby at_436) (z' := (1 : Int32)) (by decide) (by rw [← hQ]; exact ⟨rfl, N331, K331⟩) (by decide) (by decide)
        ·
          refine Go.st (fun _ k => XS.icmpYes X331.here hx rfl (pc0 := 419) (pc' := 431) rfl (hb hby at_419) rfl (flt (nltI liI_3 rfl c419)).2.2.2 (by decide) (by decide) k) ?_
          show Go p e below s Q 6 22 (T331.setTop (mkF m 431 #[.val (.int x0), .val (.int x1), .val (.int x2), .val (.int x3), .val (.int x4), .val (.int v14), .val (.int v17), .val (.int j18), .val (.int j27), .val (.int j37), .val (.int j46), .val (.int j90), .val (.int v110), .val (.ref b111), .val (.ref b115), .val (.ref b121), .val (.ref b129), .val (.int li4), .val (.int hi4), .val (.ref r_332)] []))
          refine Go.st (fun _ k => XS.iconst X331.here hx rfl (hb hby at_431) k) ?_
          show Go p e below s Q 6 22 (T331.setTop (mkF m 432 #[.val (.int x0), .val (.int x1), .val (.int x2), .val (.int x3), .val (.int x4), .val (.int v14), .val (.int v17), .val (.int j18), .val (.int j27), .val (.int j37), .val (.int j46), .val (.int j90), .val (.int v110), .val (.ref b111), .val (.ref b115), .val (.ref b121), .val (.ref b129), .val (.int li4), .val (.int hi4), .val (.ref r_332)] [(.int (1 : Int32))]))
          refine Go.st (fun _ k => XS.goto X331.here hx rfl (pc0 := 432) (pc' := 436) rfl (hb hby at_432) (by decide) (by decide) k) ?_
          show Go p e below s Q 6 22 (T331.setTop (mkF m 436 #[.val (.int x0), .val (.int x1), .val (.int x2), .val (.int x3), .val (.int x4), .val (.int v14), .val (.int v17), .val (.int j18), .val (.int j27), .val (.int j37), .val (.int j46), .val (.int j90), .val (.int v110), .val (.ref b111), .val (.ref b115), .val (.ref b121), .val (.ref b129), .val (.int li4), .val (.int hi4), .val (.ref r_332)] [(.int (1 : Int32))]))
          exact Go.retN X331 hx hlk (by simp) Bd.returns (hb hby at_436) (z' := (1 : Int32)) (by decide) (by rw [← hQ]; exact ⟨rfl, N331, K331⟩) (by decide) (by decide)
      ·
        refine Go.st (fun _ k => XS.icmpYes X331.here hx rfl (pc0 := 405) (pc' := 416) rfl (hb hby at_405) rfl (flt (nltI liI_2 rfl c412)).2.2.2 (by decide) (by decide) k) ?_
        show Go p e below s Q 6 22 (T331.setTop (mkF m 416 #[.val (.int x0), .val (.int x1), .val (.int x2), .val (.int x3), .val (.int x4), .val (.int v14), .val (.int v17), .val (.int j18), .val (.int j27), .val (.int j37), .val (.int j46), .val (.int j90), .val (.int v110), .val (.ref b111), .val (.ref b115), .val (.ref b121), .val (.ref b129), .val (.int li4), .val (.int hi4), .val (.ref r_332)] []))
        refine Go.st (fun _ k => XS.iload X331.here hx rfl (hb hby at_416) rfl k) ?_
        show Go p e below s Q 6 22 (T331.setTop (mkF m 418 #[.val (.int x0), .val (.int x1), .val (.int x2), .val (.int x3), .val (.int x4), .val (.int v14), .val (.int v17), .val (.int j18), .val (.int j27), .val (.int j37), .val (.int j46), .val (.int j90), .val (.int v110), .val (.ref b111), .val (.ref b115), .val (.ref b121), .val (.ref b129), .val (.int li4), .val (.int hi4), .val (.ref r_332)] [(.int v14)]))
        refine Go.st (fun _ k => XS.iconst X331.here hx rfl (hb hby at_418) k) ?_
        show Go p e below s Q 6 22 (T331.setTop (mkF m 419 #[.val (.int x0), .val (.int x1), .val (.int x2), .val (.int x3), .val (.int x4), .val (.int v14), .val (.int v17), .val (.int j18), .val (.int j27), .val (.int j37), .val (.int j46), .val (.int j90), .val (.int v110), .val (.ref b111), .val (.ref b115), .val (.ref b121), .val (.ref b129), .val (.int li4), .val (.int hi4), .val (.ref r_332)] [(.int (3 : Int32)), (.int v14)]))
        have f425 := liI_3
        by_cases c426 : 3 < v14.toInt
        ·
          refine Go.st (fun _ k => XS.icmpNo X331.here hx rfl (hb hby at_419) rfl (tlt (ltI liI_3 rfl c426)).2.2.2 k) ?_
          show Go p e below s Q 6 22 (T331.setTop (mkF m 422 #[.val (.int x0), .val (.int x1), .val (.int x2), .val (.int x3), .val (.int x4), .val (.int v14), .val (.int v17), .val (.int j18), .val (.int j27), .val (.int j37), .val (.int j46), .val (.int j90), .val (.int v110), .val (.ref b111), .val (.ref b115), .val (.ref b121), .val (.ref b129), .val (.int li4), .val (.int hi4), .val (.ref r_332)] []))
          refine Go.st (fun _ k => XS.aload X331.here hx rfl (hb hby at_422) rfl rfl k) ?_
          show Go p e below s Q 6 22 (T331.setTop (mkF m 424 #[.val (.int x0), .val (.int x1), .val (.int x2), .val (.int x3), .val (.int x4), .val (.int v14), .val (.int v17), .val (.int j18), .val (.int j27), .val (.int j37), .val (.int j46), .val (.int j90), .val (.int v110), .val (.ref b111), .val (.ref b115), .val (.ref b121), .val (.ref b129), .val (.int li4), .val (.int hi4), .val (.ref r_332)] [(.ref r_332)]))
          refine Go.st (fun _ k => XS.iconst X331.here hx rfl (hb hby at_424) k) ?_
          show Go p e below s Q 6 22 (T331.setTop (mkF m 425 #[.val (.int x0), .val (.int x1), .val (.int x2), .val (.int x3), .val (.int x4), .val (.int v14), .val (.int v17), .val (.int j18), .val (.int j27), .val (.int j37), .val (.int j46), .val (.int j90), .val (.int v110), .val (.ref b111), .val (.ref b115), .val (.ref b121), .val (.ref b129), .val (.int li4), .val (.int hi4), .val (.ref r_332)] [(.int (3 : Int32)), (.ref r_332)]))
          have r428 : 0 ≤ (3 : Int32).toInt := by omega
          have r429 : (3 : Int32).toInt < nr_333.toInt := by omega
          refine Go.st (Vec.ildI X331 hx hZ rfl h337 (j := (3 : Int32)) r428 r429 (g := (mkF m 425 #[.val (.int x0), .val (.int x1), .val (.int x2), .val (.int x3), .val (.int x4), .val (.int v14), .val (.int v17), .val (.int j18), .val (.int j27), .val (.int j37), .val (.int j46), .val (.int j90), .val (.int v110), .val (.ref b111), .val (.ref b115), .val (.ref b121), .val (.ref b129), .val (.int li4), .val (.int hi4), .val (.ref r_332)] [(.int (3 : Int32)), (.ref r_332)])) rfl rfl (hb hby at_425)) ?_
          show Go p e below s Q 6 22 (T331.setTop (mkF m 426 #[.val (.int x0), .val (.int x1), .val (.int x2), .val (.int x3), .val (.int x4), .val (.int v14), .val (.int v17), .val (.int j18), .val (.int j27), .val (.int j37), .val (.int j46), .val (.int j90), .val (.int v110), .val (.ref b111), .val (.ref b115), .val (.ref b121), .val (.ref b129), .val (.int li4), .val (.int hi4), .val (.ref r_332)] [(.int (R_334 3))]))
          refine Go.st (fun _ k => XS.iload X331.here hx rfl (hb hby at_426) rfl k) ?_
          show Go p e below s Q 6 22 (T331.setTop (mkF m 428 #[.val (.int x0), .val (.int x1), .val (.int x2), .val (.int x3), .val (.int x4), .val (.int v14), .val (.int v17), .val (.int j18), .val (.int j27), .val (.int j37), .val (.int j46), .val (.int j90), .val (.int v110), .val (.ref b111), .val (.ref b115), .val (.ref b121), .val (.ref b129), .val (.int li4), .val (.int hi4), .val (.ref r_332)] [(.int x4), (.int (R_334 3))]))
          have f430 := rng32 (R_334 3)
          have c431 : (R_334 3).toInt = x4.toInt := by have q := f336 3 (by omega); have q2 : (R_334 3).toInt = x4.toInt := (by rw [q]; rfl); omega
          refine Go.st (fun _ k => XS.icmpNo X331.here hx rfl (hb hby at_428) rfl (teq (eqI rfl rfl c431)).2 k) ?_
          show Go p e below s Q 6 22 (T331.setTop (mkF m 431 #[.val (.int x0), .val (.int x1), .val (.int x2), .val (.int x3), .val (.int x4), .val (.int v14), .val (.int v17), .val (.int j18), .val (.int j27), .val (.int j37), .val (.int j46), .val (.int j90), .val (.int v110), .val (.ref b111), .val (.ref b115), .val (.ref b121), .val (.ref b129), .val (.int li4), .val (.int hi4), .val (.ref r_332)] []))
          refine Go.st (fun _ k => XS.iconst X331.here hx rfl (hb hby at_431) k) ?_
          show Go p e below s Q 6 22 (T331.setTop (mkF m 432 #[.val (.int x0), .val (.int x1), .val (.int x2), .val (.int x3), .val (.int x4), .val (.int v14), .val (.int v17), .val (.int j18), .val (.int j27), .val (.int j37), .val (.int j46), .val (.int j90), .val (.int v110), .val (.ref b111), .val (.ref b115), .val (.ref b121), .val (.ref b129), .val (.int li4), .val (.int hi4), .val (.ref r_332)] [(.int (1 : Int32))]))
          refine Go.st (fun _ k => XS.goto X331.here hx rfl (pc0 := 432) (pc' := 436) rfl (hb hby at_432) (by decide) (by decide) k) ?_
          show Go p e below s Q 6 22 (T331.setTop (mkF m 436 #[.val (.int x0), .val (.int x1), .val (.int x2), .val (.int x3), .val (.int x4), .val (.int v14), .val (.int v17), .val (.int j18), .val (.int j27), .val (.int j37), .val (.int j46), .val (.int j90), .val (.int v110), .val (.ref b111), .val (.ref b115), .val (.ref b121), .val (.ref b129), .val (.int li4), .val (.int hi4), .val (.ref r_332)] [(.int (1 : Int32))]))
          exact Go.retN X331 hx hlk (by simp) Bd.returns (hb hby at_436) (z' := (1 : Int32)) (by decide) (by rw [← hQ]; exact ⟨rfl, N331, K331⟩) (by decide) (by decide)
        ·
          refine Go.st (fun _ k => XS.icmpYes X331.here hx rfl (pc0 := 419) (pc' := 431) rfl (hb hby at_419) rfl (flt (nltI liI_3 rfl c426)).2.2.2 (by decide) (by decide) k) ?_
          show Go p e below s Q 6 22 (T331.setTop (mkF m 431 #[.val (.int x0), .val (.int x1), .val (.int x2), .val (.int x3), .val (.int x4), .val (.int v14), .val (.int v17), .val (.int j18), .val (.int j27), .val (.int j37), .val (.int j46), .val (.int j90), .val (.int v110), .val (.ref b111), .val (.ref b115), .val (.ref b121), .val (.ref b129), .val (.int li4), .val (.int hi4), .val (.ref r_332)] []))
          refine Go.st (fun _ k => XS.iconst X331.here hx rfl (hb hby at_431) k) ?_
          show Go p e below s Q 6 22 (T331.setTop (mkF m 432 #[.val (.int x0), .val (.int x1), .val (.int x2), .val (.int x3), .val (.int x4), .val (.int v14), .val (.int v17), .val (.int j18), .val (.int j27), .val (.int j37), .val (.int j46), .val (.int j90), .val (.int v110), .val (.ref b111), .val (.ref b115), .val (.ref b121), .val (.ref b129), .val (.int li4), .val (.int hi4), .val (.ref r_332)] [(.int (1 : Int32))]))
          refine Go.st (fun _ k => XS.goto X331.here hx rfl (pc0 := 432) (pc' := 436) rfl (hb hby at_432) (by decide) (by decide) k) ?_
          show Go p e below s Q 6 22 (T331.setTop (mkF m 436 #[.val (.int x0), .val (.int x1), .val (.int x2), .val (.int x3), .val (.int x4), .val (.int v14), .val (.int v17), .val (.int j18), .val (.int j27), .val (.int j37), .val (.int j46), .val (.int j90), .val (.int v110), .val (.ref b111), .val (.ref b115), .val (.ref b121), .val (.ref b129), .val (.int li4), .val (.int hi4), .val (.ref r_332)] [(.int (1 : Int32))]))
          exact Go.retN X331 hx hlk (by simp) Bd.returns (hb hby at_436) (z' := (1 : Int32)) (by decide) (by rw [← hQ]; exact ⟨rfl, N331, K331⟩) (by decide) (by decide)
    ·
      refine Go.st (fun _ k => XS.icmpYes X331.here hx rfl (pc0 := 391) (pc' := 402) rfl (hb hby at_391) rfl (flt (nltI liI_1 rfl c405)).2.2.2 (by decide) (by decide) k) ?_
      show Go p e below s Q 6 22 (T331.setTop (mkF m 402 #[.val (.int x0), .val (.int x1), .val (.int x2), .val (.int x3), .val (.int x4), .val (.int v14), .val (.int v17), .val (.int j18), .val (.int j27), .val (.int j37), .val (.int j46), .val (.int j90), .val (.int v110), .val (.ref b111), .val (.ref b115), .val (.ref b121), .val (.ref b129), .val (.int li4), .val (.int hi4), .val (.ref r_332)] []))
      refine Go.st (fun _ k => XS.iload X331.here hx rfl (hb hby at_402) rfl k) ?_
      show Go p e below s Q 6 22 (T331.setTop (mkF m 404 #[.val (.int x0), .val (.int x1), .val (.int x2), .val (.int x3), .val (.int x4), .val (.int v14), .val (.int v17), .val (.int j18), .val (.int j27), .val (.int j37), .val (.int j46), .val (.int j90), .val (.int v110), .val (.ref b111), .val (.ref b115), .val (.ref b121), .val (.ref b129), .val (.int li4), .val (.int hi4), .val (.ref r_332)] [(.int v14)]))
      refine Go.st (fun _ k => XS.iconst X331.here hx rfl (hb hby at_404) k) ?_
      show Go p e below s Q 6 22 (T331.setTop (mkF m 405 #[.val (.int x0), .val (.int x1), .val (.int x2), .val (.int x3), .val (.int x4), .val (.int v14), .val (.int v17), .val (.int j18), .val (.int j27), .val (.int j37), .val (.int j46), .val (.int j90), .val (.int v110), .val (.ref b111), .val (.ref b115), .val (.ref b121), .val (.ref b129), .val (.int li4), .val (.int hi4), .val (.ref r_332)] [(.int (2 : Int32)), (.int v14)]))
      have f432 := liI_2
      by_cases c433 : 2 < v14.toInt
      ·
        refine Go.st (fun _ k => XS.icmpNo X331.here hx rfl (hb hby at_405) rfl (tlt (ltI liI_2 rfl c433)).2.2.2 k) ?_
        show Go p e below s Q 6 22 (T331.setTop (mkF m 408 #[.val (.int x0), .val (.int x1), .val (.int x2), .val (.int x3), .val (.int x4), .val (.int v14), .val (.int v17), .val (.int j18), .val (.int j27), .val (.int j37), .val (.int j46), .val (.int j90), .val (.int v110), .val (.ref b111), .val (.ref b115), .val (.ref b121), .val (.ref b129), .val (.int li4), .val (.int hi4), .val (.ref r_332)] []))
        refine Go.st (fun _ k => XS.aload X331.here hx rfl (hb hby at_408) rfl rfl k) ?_
        show Go p e below s Q 6 22 (T331.setTop (mkF m 410 #[.val (.int x0), .val (.int x1), .val (.int x2), .val (.int x3), .val (.int x4), .val (.int v14), .val (.int v17), .val (.int j18), .val (.int j27), .val (.int j37), .val (.int j46), .val (.int j90), .val (.int v110), .val (.ref b111), .val (.ref b115), .val (.ref b121), .val (.ref b129), .val (.int li4), .val (.int hi4), .val (.ref r_332)] [(.ref r_332)]))
        refine Go.st (fun _ k => XS.iconst X331.here hx rfl (hb hby at_410) k) ?_
        show Go p e below s Q 6 22 (T331.setTop (mkF m 411 #[.val (.int x0), .val (.int x1), .val (.int x2), .val (.int x3), .val (.int x4), .val (.int v14), .val (.int v17), .val (.int j18), .val (.int j27), .val (.int j37), .val (.int j46), .val (.int j90), .val (.int v110), .val (.ref b111), .val (.ref b115), .val (.ref b121), .val (.ref b129), .val (.int li4), .val (.int hi4), .val (.ref r_332)] [(.int (2 : Int32)), (.ref r_332)]))
        have r435 : 0 ≤ (2 : Int32).toInt := by omega
        have r436 : (2 : Int32).toInt < nr_333.toInt := by omega
        refine Go.st (Vec.ildI X331 hx hZ rfl h337 (j := (2 : Int32)) r435 r436 (g := (mkF m 411 #[.val (.int x0), .val (.int x1), .val (.int x2), .val (.int x3), .val (.int x4), .val (.int v14), .val (.int v17), .val (.int j18), .val (.int j27), .val (.int j37), .val (.int j46), .val (.int j90), .val (.int v110), .val (.ref b111), .val (.ref b115), .val (.ref b121), .val (.ref b129), .val (.int li4), .val (.int hi4), .val (.ref r_332)] [(.int (2 : Int32)), (.ref r_332)])) rfl rfl (hb hby at_411)) ?_
        show Go p e below s Q 6 22 (T331.setTop (mkF m 412 #[.val (.int x0), .val (.int x1), .val (.int x2), .val (.int x3), .val (.int x4), .val (.int v14), .val (.int v17), .val (.int j18), .val (.int j27), .val (.int j37), .val (.int j46), .val (.int j90), .val (.int v110), .val (.ref b111), .val (.ref b115), .val (.ref b121), .val (.ref b129), .val (.int li4), .val (.int hi4), .val (.ref r_332)] [(.int (R_334 2))]))
        refine Go.st (fun _ k => XS.iloadN X331.here hx rfl (hb hby at_412) rfl k) ?_
        show Go p e below s Q 6 22 (T331.setTop (mkF m 413 #[.val (.int x0), .val (.int x1), .val (.int x2), .val (.int x3), .val (.int x4), .val (.int v14), .val (.int v17), .val (.int j18), .val (.int j27), .val (.int j37), .val (.int j46), .val (.int j90), .val (.int v110), .val (.ref b111), .val (.ref b115), .val (.ref b121), .val (.ref b129), .val (.int li4), .val (.int hi4), .val (.ref r_332)] [(.int x3), (.int (R_334 2))]))
        have f437 := rng32 (R_334 2)
        have c438 : (R_334 2).toInt = x3.toInt := by have q := f336 2 (by omega); have q2 : (R_334 2).toInt = x3.toInt := (by rw [q]; rfl); omega
        refine Go.st (fun _ k => XS.icmpNo X331.here hx rfl (hb hby at_413) rfl (teq (eqI rfl rfl c438)).2 k) ?_
        show Go p e below s Q 6 22 (T331.setTop (mkF m 416 #[.val (.int x0), .val (.int x1), .val (.int x2), .val (.int x3), .val (.int x4), .val (.int v14), .val (.int v17), .val (.int j18), .val (.int j27), .val (.int j37), .val (.int j46), .val (.int j90), .val (.int v110), .val (.ref b111), .val (.ref b115), .val (.ref b121), .val (.ref b129), .val (.int li4), .val (.int hi4), .val (.ref r_332)] []))
        refine Go.st (fun _ k => XS.iload X331.here hx rfl (hb hby at_416) rfl k) ?_
        show Go p e below s Q 6 22 (T331.setTop (mkF m 418 #[.val (.int x0), .val (.int x1), .val (.int x2), .val (.int x3), .val (.int x4), .val (.int v14), .val (.int v17), .val (.int j18), .val (.int j27), .val (.int j37), .val (.int j46), .val (.int j90), .val (.int v110), .val (.ref b111), .val (.ref b115), .val (.ref b121), .val (.ref b129), .val (.int li4), .val (.int hi4), .val (.ref r_332)] [(.int v14)]))
        refine Go.st (fun _ k => XS.iconst X331.here hx rfl (hb hby at_418) k) ?_
        show Go p e below s Q 6 22 (T331.setTop (mkF m 419 #[.val (.int x0), .val (.int x1), .val (.int x2), .val (.int x3), .val (.int x4), .val (.int v14), .val (.int v17), .val (.int j18), .val (.int j27), .val (.int j37), .val (.int j46), .val (.int j90), .val (.int v110), .val (.ref b111), .val (.ref b115), .val (.ref b121), .val (.ref b129), .val (.int li4), .val (.int hi4), .val (.ref r_332)] [(.int (3 : Int32)), (.int v14)]))
        have f439 := liI_3
        by_cases c440 : 3 < v14.toInt
        ·
          refine Go.st (fun _ k => XS.icmpNo X331.here hx rfl (hb hby at_419) rfl (tlt (ltI liI_3 rfl c440)).2.2.2 k) ?_
          show Go p e below s Q 6 22 (T331.setTop (mkF m 422 #[.val (.int x0), .val (.int x1), .val (.int x2), .val (.int x3), .val (.int x4), .val (.int v14), .val (.int v17), .val (.int j18), .val (.int j27), .val (.int j37), .val (.int j46), .val (.int j90), .val (.int v110), .val (.ref b111), .val (.ref b115), .val (.ref b121), .val (.ref b129), .val (.int li4), .val (.int hi4), .val (.ref r_332)] []))
          refine Go.st (fun _ k => XS.aload X331.here hx rfl (hb hby at_422) rfl rfl k) ?_
          show Go p e below s Q 6 22 (T331.setTop (mkF m 424 #[.val (.int x0), .val (.int x1), .val (.int x2), .val (.int x3), .val (.int x4), .val (.int v14), .val (.int v17), .val (.int j18), .val (.int j27), .val (.int j37), .val (.int j46), .val (.int j90), .val (.int v110), .val (.ref b111), .val (.ref b115), .val (.ref b121), .val (.ref b129), .val (.int li4), .val (.int hi4), .val (.ref r_332)] [(.ref r_332)]))
          refine Go.st (fun _ k => XS.iconst X331.here hx rfl (hb hby at_424) k) ?_
          show Go p e below s Q 6 22 (T331.setTop (mkF m 425 #[.val (.int x0), .val (.int x1), .val (.int x2), .val (.int x3), .val (.int x4), .val (.int v14), .val (.int v17), .val (.int j18), .val (.int j27), .val (.int j37), .val (.int j46), .val (.int j90), .val (.int v110), .val (.ref b111), .val (.ref b115), .val (.ref b121), .val (.ref b129), .val (.int li4), .val (.int hi4), .val (.ref r_332)] [(.int (3 : Int32)), (.ref r_332)]))
          have r442 : 0 ≤ (3 : Int32).toInt := by omega
          have r443 : (3 : Int32).toInt < nr_333.toInt := by omega
          refine Go.st (Vec.ildI X331 hx hZ rfl h337 (j := (3 : Int32)) r442 r443 (g := (mkF m 425 #[.val (.int x0), .val (.int x1), .val (.int x2), .val (.int x3), .val (.int x4), .val (.int v14), .val (.int v17), .val (.int j18), .val (.int j27), .val (.int j37), .val (.int j46), .val (.int j90), .val (.int v110), .val (.ref b111), .val (.ref b115), .val (.ref b121), .val (.ref b129), .val (.int li4), .val (.int hi4), .val (.ref r_332)] [(.int (3 : Int32)), (.ref r_332)])) rfl rfl (hb hby at_425)) ?_
          show Go p e below s Q 6 22 (T331.setTop (mkF m 426 #[.val (.int x0), .val (.int x1), .val (.int x2), .val (.int x3), .val (.int x4), .val (.int v14), .val (.int v17), .val (.int j18), .val (.int j27), .val (.int j37), .val (.int j46), .val (.int j90), .val (.int v110), .val (.ref b111), .val (.ref b115), .val (.ref b121), .val (.ref b129), .val (.int li4), .val (.int hi4), .val (.ref r_332)] [(.int (R_334 3))]))
          refine Go.st (fun _ k => XS.iload X331.here hx rfl (hb hby at_426) rfl k) ?_
          show Go p e below s Q 6 22 (T331.setTop (mkF m 428 #[.val (.int x0), .val (.int x1), .val (.int x2), .val (.int x3), .val (.int x4), .val (.int v14), .val (.int v17), .val (.int j18), .val (.int j27), .val (.int j37), .val (.int j46), .val (.int j90), .val (.int v110), .val (.ref b111), .val (.ref b115), .val (.ref b121), .val (.ref b129), .val (.int li4), .val (.int hi4), .val (.ref r_332)] [(.int x4), (.int (R_334 3))]))
          have f444 := rng32 (R_334 3)
          have c445 : (R_334 3).toInt = x4.toInt := by have q := f336 3 (by omega); have q2 : (R_334 3).toInt = x4.toInt := (by rw [q]; rfl); omega
          refine Go.st (fun _ k => XS.icmpNo X331.here hx rfl (hb hby at_428) rfl (teq (eqI rfl rfl c445)).2 k) ?_
          show Go p e below s Q 6 22 (T331.setTop (mkF m 431 #[.val (.int x0), .val (.int x1), .val (.int x2), .val (.int x3), .val (.int x4), .val (.int v14), .val (.int v17), .val (.int j18), .val (.int j27), .val (.int j37), .val (.int j46), .val (.int j90), .val (.int v110), .val (.ref b111), .val (.ref b115), .val (.ref b121), .val (.ref b129), .val (.int li4), .val (.int hi4), .val (.ref r_332)] []))
          refine Go.st (fun _ k => XS.iconst X331.here hx rfl (hb hby at_431) k) ?_
          show Go p e below s Q 6 22 (T331.setTop (mkF m 432 #[.val (.int x0), .val (.int x1), .val (.int x2), .val (.int x3), .val (.int x4), .val (.int v14), .val (.int v17), .val (.int j18), .val (.int j27), .val (.int j37), .val (.int j46), .val (.int j90), .val (.int v110), .val (.ref b111), .val (.ref b115), .val (.ref b121), .val (.ref b129), .val (.int li4), .val (.int hi4), .val (.ref r_332)] [(.int (1 : Int32))]))
          refine Go.st (fun _ k => XS.goto X331.here hx rfl (pc0 := 432) (pc' := 436) rfl (hb hby at_432) (by decide) (by decide) k) ?_
          show Go p e below s Q 6 22 (T331.setTop (mkF m 436 #[.val (.int x0), .val (.int x1), .val (.int x2), .val (.int x3), .val (.int x4), .val (.int v14), .val (.int v17), .val (.int j18), .val (.int j27), .val (.int j37), .val (.int j46), .val (.int j90), .val (.int v110), .val (.ref b111), .val (.ref b115), .val (.ref b121), .val (.ref b129), .val (.int li4), .val (.int hi4), .val (.ref r_332)] [(.int (1 : Int32))]))
          exact Go.retN X331 hx hlk (by simp) Bd.returns (hb hby at_436) (z' := (1 : Int32)) (by decide) (by rw [← hQ]; exact ⟨rfl, N331, K331⟩) (by decide) (by decide)
        ·
          refine Go.st (fun _ k => XS.icmpYes X331.here hx rfl (pc0 := 419) (pc' := 431) rfl (hb hby at_419) rfl (flt (nltI liI_3 rfl c440)).2.2.2 (by decide) (by decide) k) ?_
          show Go p e below s Q 6 22 (T331.setTop (mkF m 431 #[.val (.int x0), .val (.int x1), .val (.int x2), .val (.int x3), .val (.int x4), .val (.int v14), .val (.int v17), .val (.int j18), .val (.int j27), .val (.int j37), .val (.int j46), .val (.int j90), .val (.int v110), .val (.ref b111), .val (.ref b115), .val (.ref b121), .val (.ref b129), .val (.int li4), .val (.int hi4), .val (.ref r_332)] []))
          refine Go.st (fun _ k => XS.iconst X331.here hx rfl (hb hby at_431) k) ?_
          show Go p e below s Q 6 22 (T331.setTop (mkF m 432 #[.val (.int x0), .val (.int x1), .val (.int x2), .val (.int x3), .val (.int x4), .val (.int v14), .val (.int v17), .val (.int j18), .val (.int j27), .val (.int j37), .val (.int j46), .val (.int j90), .val (.int v110), .val (.ref b111), .val (.ref b115), .val (.ref b121), .val (.ref b129), .val (.int li4), .val (.int hi4), .val (.ref r_332)] [(.int (1 : Int32))]))
          refine Go.st (fun _ k => XS.goto X331.here hx rfl (pc0 := 432) (pc' := 436) rfl (hb hby at_432) (by decide) (by decide) k) ?_
          show Go p e below s Q 6 22 (T331.setTop (mkF m 436 #[.val (.int x0), .val (.int x1), .val (.int x2), .val (.int x3), .val (.int x4), .val (.int v14), .val (.int v17), .val (.int j18), .val (.int j27), .val (.int j37), .val (.int j46), .val (.int j90), .val (.int v110), .val (.ref b111), .val (.ref b115), .val (.ref b121), .val (.ref b129), .val (.int li4), .val (.int hi4), .val (.ref r_332)] [(.int (1 : Int32))]))
          exact Go.retN X331 hx hlk (by simp) Bd.returns (hb hby at_436) (z' := (1 : Int32)) (by decide) (by rw [← hQ]; exact ⟨rfl, N331, K331⟩) (by decide) (by decide)
      ·
        refine Go.st (fun _ k => XS.icmpYes X331.here hx rfl (pc0 := 405) (pc' := 416) rfl (hb hby at_405) rfl (flt (nltI liI_2 rfl c433)).2.2.2 (by decide) (by decide) k) ?_
        show Go p e below s Q 6 22 (T331.setTop (mkF m 416 #[.val (.int x0), .val (.int x1), .val (.int x2), .val (.int x3), .val (.int x4), .val (.int v14), .val (.int v17), .val (.int j18), .val (.int j27), .val (.int j37), .val (.int j46), .val (.int j90), .val (.int v110), .val (.ref b111), .val (.ref b115), .val (.ref b121), .val (.ref b129), .val (.int li4), .val (.int hi4), .val (.ref r_332)] []))
        refine Go.st (fun _ k => XS.iload X331.here hx rfl (hb hby at_416) rfl k) ?_
        show Go p e below s Q 6 22 (T331.setTop (mkF m 418 #[.val (.int x0), .val (.int x1), .val (.int x2), .val (.int x3), .val (.int x4), .val (.int v14), .val (.int v17), .val (.int j18), .val (.int j27), .val (.int j37), .val (.int j46), .val (.int j90), .val (.int v110), .val (.ref b111), .val (.ref b115), .val (.ref b121), .val (.ref b129), .val (.int li4), .val (.int hi4), .val (.ref r_332)] [(.int v14)]))
        refine Go.st (fun _ k => XS.iconst X331.here hx rfl (hb hby at_418) k) ?_
        show Go p e below s Q 6 22 (T331.setTop (mkF m 419 #[.val (.int x0), .val (.int x1), .val (.int x2), .val (.int x3), .val (.int x4), .val (.int v14), .val (.int v17), .val (.int j18), .val (.int j27), .val (.int j37), .val (.int j46), .val (.int j90), .val (.int v110), .val (.ref b111), .val (.ref b115), .val (.ref b121), .val (.ref b129), .val (.int li4), .val (.int hi4), .val (.ref r_332)] [(.int (3 : Int32)), (.int v14)]))
        have f446 := liI_3
        by_cases c447 : 3 < v14.toInt
        ·
          refine Go.st (fun _ k => XS.icmpNo X331.here hx rfl (hb hby at_419) rfl (tlt (ltI liI_3 rfl c447)).2.2.2 k) ?_
          show Go p e below s Q 6 22 (T331.setTop (mkF m 422 #[.val (.int x0), .val (.int x1), .val (.int x2), .val (.int x3), .val (.int x4), .val (.int v14), .val (.int v17), .val (.int j18), .val (.int j27), .val (.int j37), .val (.int j46), .val (.int j90), .val (.int v110), .val (.ref b111), .val (.ref b115), .val (.ref b121), .val (.ref b129), .val (.int li4), .val (.int hi4), .val (.ref r_332)] []))
          refine Go.st (fun _ k => XS.aload X331.here hx rfl (hb hby at_422) rfl rfl k) ?_
          show Go p e below s Q 6 22 (T331.setTop (mkF m 424 #[.val (.int x0), .val (.int x1), .val (.int x2), .val (.int x3), .val (.int x4), .val (.int v14), .val (.int v17), .val (.int j18), .val (.int j27), .val (.int j37), .val (.int j46), .val (.int j90), .val (.int v110), .val (.ref b111), .val (.ref b115), .val (.ref b121), .val (.ref b129), .val (.int li4), .val (.int hi4), .val (.ref r_332)] [(.ref r_332)]))
          refine Go.st (fun _ k => XS.iconst X331.here hx rfl (hb hby at_424) k) ?_
          show Go p e below s Q 6 22 (T331.setTop (mkF m 425 #[.val (.int x0), .val (.int x1), .val (.int x2), .val (.int x3), .val (.int x4), .val (.int v14), .val (.int v17), .val (.int j18), .val (.int j27), .val (.int j37), .val (.int j46), .val (.int j90), .val (.int v110), .val (.ref b111), .val (.ref b115), .val (.ref b121), .val (.ref b129), .val (.int li4), .val (.int hi4), .val (.ref r_332)] [(.int (3 : Int32)), (.ref r_332)]))
          have r449 : 0 ≤ (3 : Int32).toInt := by omega
          have r450 : (3 : Int32).toInt < nr_333.toInt := by omega
          refine Go.st (Vec.ildI X331 hx hZ rfl h337 (j := (3 : Int32)) r449 r450 (g := (mkF m 425 #[.val (.int x0), .val (.int x1), .val (.int x2), .val (.int x3), .val (.int x4), .val (.int v14), .val (.int v17), .val (.int j18), .val (.int j27), .val (.int j37), .val (.int j46), .val (.int j90), .val (.int v110), .val (.ref b111), .val (.ref b115), .val (.ref b121), .val (.ref b129), .val (.int li4), .val (.int hi4), .val (.ref r_332)] [(.int (3 : Int32)), (.ref r_332)])) rfl rfl (hb hby at_425)) ?_
          show Go p e below s Q 6 22 (T331.setTop (mkF m 426 #[.val (.int x0), .val (.int x1), .val (.int x2), .val (.int x3), .val (.int x4), .val (.int v14), .val (.int v17), .val (.int j18), .val (.int j27), .val (.int j37), .val (.int j46), .val (.int j90), .val (.int v110), .val (.ref b111), .val (.ref b115), .val (.ref b121), .val (.ref b129), .val (.int li4), .val (.int hi4), .val (.ref r_332)] [(.int (R_334 3))]))
          refine Go.st (fun _ k => XS.iload X331.here hx rfl (hb hby at_426) rfl k) ?_
          show Go p e below s Q 6 22 (T331.setTop (mkF m 428 #[.val (.int x0), .val (.int x1), .val (.int x2), .val (.int x3), .val (.int x4), .val (.int v14), .val (.int v17), .val (.int j18), .val (.int j27), .val (.int j37), .val (.int j46), .val (.int j90), .val (.int v110), .val (.ref b111), .val (.ref b115), .val (.ref b121), .val (.ref b129), .val (.int li4), .val (.int hi4), .val (.ref r_332)] [(.int x4), (.int (R_334 3))]))
          have f451 := rng32 (R_334 3)
          have c452 : (R_334 3).toInt = x4.toInt := by have q := f336 3 (by omega); have q2 : (R_334 3).toInt = x4.toInt := (by rw [q]; rfl); omega
          refine Go.st (fun _ k => XS.icmpNo X331.here hx rfl (hb hby at_428) rfl (teq (eqI rfl rfl c452)).2 k) ?_
          show Go p e below s Q 6 22 (T331.setTop (mkF m 431 #[.val (.int x0), .val (.int x1), .val (.int x2), .val (.int x3), .val (.int x4), .val (.int v14), .val (.int v17), .val (.int j18), .val (.int j27), .val (.int j37), .val (.int j46), .val (.int j90), .val (.int v110), .val (.ref b111), .val (.ref b115), .val (.ref b121), .val (.ref b129), .val (.int li4), .val (.int hi4), .val (.ref r_332)] []))
          refine Go.st (fun _ k => XS.iconst X331.here hx rfl (hb hby at_431) k) ?_
          show Go p e below s Q 6 22 (T331.setTop (mkF m 432 #[.val (.int x0), .val (.int x1), .val (.int x2), .val (.int x3), .val (.int x4), .val (.int v14), .val (.int v17), .val (.int j18), .val (.int j27), .val (.int j37), .val (.int j46), .val (.int j90), .val (.int v110), .val (.ref b111), .val (.ref b115), .val (.ref b121), .val (.ref b129), .val (.int li4), .val (.int hi4), .val (.ref r_332)] [(.int (1 : Int32))]))
          refine Go.st (fun _ k => XS.goto X331.here hx rfl (pc0 := 432) (pc' := 436) rfl (hb hby at_432) (by decide) (by decide) k) ?_
          show Go p e below s Q 6 22 (T331.setTop (mkF m 436 #[.val (.int x0), .val (.int x1), .val (.int x2), .val (.int x3), .val (.int x4), .val (.int v14), .val (.int v17), .val (.int j18), .val (.int j27), .val (.int j37), .val (.int j46), .val (.int j90), .val (.int v110), .val (.ref b111), .val (.ref b115), .val (.ref b121), .val (.ref b129), .val (.int li4), .val (.int hi4), .val (.ref r_332)] [(.int (1 : Int32))]))
          exact Go.retN X331 hx hlk (by simp) Bd.returns (hb hby at_436) (z' := (1 : Int32)) (by decide) (by rw [← hQ]; exact ⟨rfl, N331, K331⟩) (by decide) (by decide)
        ·
          refine Go.st (fun _ k => XS.icmpYes X331.here hx rfl (pc0 := 419) (pc' := 431) rfl (hb hby at_419) rfl (flt (nltI liI_3 rfl c447)).2.2.2 (by decide) (by decide) k) ?_
          show Go p e below s Q 6 22 (T331.setTop (mkF m 431 #[.val (.int x0), .val (.int x1), .val (.int x2), .val (.int x3), .val (.int x4), .val (.int v14), .val (.int v17), .val (.int j18), .val (.int j27), .val (.int j37), .val (.int j46), .val (.int j90), .val (.int v110), .val (.ref b111), .val (.ref b115), .val (.ref b121), .val (.ref b129), .val (.int li4), .val (.int hi4), .val (.ref r_332)] []))
          refine Go.st (fun _ k => XS.iconst X331.here hx rfl (hb hby at_431) k) ?_
          show Go p e below s Q 6 22 (T331.setTop (mkF m 432 #[.val (.int x0), .val (.int x1), .val (.int x2), .val (.int x3), .val (.int x4), .val (.int v14), .val (.int v17), .val (.int j18), .val (.int j27), .val (.int j37), .val (.int j46), .val (.int j90), .val (.int v110), .val (.ref b111), .val (.ref b115), .val (.ref b121), .val (.ref b129), .val (.int li4), .val (.int hi4), .val (.ref r_332)] [(.int (1 : Int32))]))
          refine Go.st (fun _ k => XS.goto X331.here hx rfl (pc0 := 432) (pc' := 436) rfl (hb hby at_432) (by decide) (by decide) k) ?_
          show Go p e below s Q 6 22 (T331.setTop (mkF m 436 #[.val (.int x0), .val (.int x1), .val (.int x2), .val (.int x3), .val (.int x4), .val (.int v14), .val (.int v17), .val (.int j18), .val (.int j27), .val (.int j37), .val (.int j46), .val (.int j90), .val (.int v110), .val (.ref b111), .val (.ref b115), .val (.ref b121), .val (.ref b129), .val (.int li4), .val (.int hi4), .val (.ref r_332)] [(.int (1 : Int32))]))
          exact Go.retN X331 hx hlk (by simp) Bd.returns (hb hby at_436) (z' := (1 : Int32)) (by decide) (by rw [← hQ]; exact ⟨rfl, N331, K331⟩) (by decide) (by decide)
set_option maxRecDepth 65536 in
set_option maxHeartbeats 40000000 in
theorem comes_1 {Post : Tables → Env → Array Value → State → Outcome → State → Prop} (hpost : ∀ tb e args s v u, (limb_1_1.after args s (.returned v) u = true ∧ limb_1_2.after args s (.returned v) u = true ∧ True) → FrameEnd s (.returned v) u (Jvm.fieldLocs frame_1_writes args s ++ Jvm.arrayLocs frame_1_arrays args s ++ Jvm.staticLocs frame_1_statics s) 24 128 → Post tb e args s (.returned v) u) :
    ArmFor flags0 classFile x code maxLocals ret World_1 tables_1 room_1 Calls_1 rest_1 Pre_1 Post := by
  intro l hfl _ _ p e ha hc hk s m args below hf hA hF happ hP
  obtain ⟨hcalls, hrest, hpre⟩ := hP
  obtain ⟨-, -, -, hnamed, -, -, -, hat⟩ := (Spec.applies_iff hf).mp happ
  obtain ⟨hg, hn⟩ := and_e (Cond.before_iff.mp (show (Jvm.Cond.and given_1 narrow_1).before args s = true from hpre))
  obtain ⟨hcount, g0⟩ := and_e hg
  obtain ⟨a0, g1⟩ := and_e g0
  obtain ⟨a1, g2⟩ := and_e g1
  obtain ⟨a2, g3⟩ := and_e g2
  obtain ⟨a3, g4⟩ := and_e g3
  obtain ⟨w0, w1, w2, w3, w4, rfl⟩ : ∃ w0 w1 w2 w3 w4 : Value, args = #[w0, w1, w2, w3, w4] := by
    have hs : args.size = 5 := by simpa [Cond.value, given_1] using hcount
    obtain ⟨L⟩ := args
    match L, hs with
    | [w0, w1, w2, w3, w4], _ => exact ⟨w0, w1, w2, w3, w4, rfl⟩
  have hw := fun d (hd : d ∈ tables_1) => atoms_spec (ws := Jvm.Cond.code x code maxLocals ret :: tables_1) hat d (List.mem_cons_of_mem _ hd)
  have hfit : Fit s := fun {y c} hc i hi => by
    obtain ⟨ha, rfl⟩ := Array.getElem?_eq_some_iff.mp hc
    have q := List.all_eq_true.mp ((Array.all_eq_true_iff_forall_mem.mp hF) _ (Array.getElem_mem ha)) i (List.mem_range.mpr hi)
    simpa [Array.getElem?_eq_getElem hi] using q
  obtain ⟨i0, ei0⟩ := is_v a0
  obtain rfl : w0 = (.int i0) := Option.some.inj ei0
  obtain ⟨i1, ei1⟩ := is_v a1
  obtain rfl : w1 = (.int i1) := Option.some.inj ei1
  obtain ⟨i2, ei2⟩ := is_v a2
  obtain rfl : w2 = (.int i2) := Option.some.inj ei2
  obtain ⟨i3, ei3⟩ := is_v a3
  obtain rfl : w3 = (.int i3) := Option.some.inj ei3
  obtain ⟨i4, ei4⟩ := is_v g4
  obtain rfl : w4 = (.int i4) := Option.some.inj ei4
  obtain ⟨n, o, h1, h2, h3, _, L, rfl, ⟨rfl, N, _⟩, hq⟩ := rm0 l s _ hw tables_1 i0 i1 i2 i3 i4 s.heap s.heap.size (Nat.le_refl _)  p e ha hc hk s m _ below hf ((Spec.applies_iff_loose hf).mp happ).1 ⟨rfl, State.Warmed39.refl s, rfl⟩ trivial
  refine ⟨n, _, h1, h2, h3, hpost _ _ _ _ _ _ ⟨Cond.after_iff.mpr rfl, Cond.after_iff.mpr (eq_i res_at (Term.int_eval (1)) rfl), trivial⟩ ⟨hq.1, hq.2.1, (hq.2.2.sift fun y hy => Or.inr (N y hy)).mono (by decide) (by decide)⟩⟩
theorem main_1_1 : Claimed_1_1 := comes_1 fun _ _ _ _ _ _ h hF => ⟨h.1, hF⟩
theorem main_1_2 : Claimed_1_2 := comes_1 fun _ _ _ _ _ _ h hF => ⟨h.2.1, hF⟩
end Jvm.Pilot.@@N@@
namespace Jvm.Pilot.@@N@@
open Jvm Jvm.ClassFile Sem Op Lib Jvm.Free Jvm.Stand Jvm.Pilot.@@N@@.Jvm.D
/-! MADE BY PROGRAM (witnessworld.py) out of the Statement's table words and the real class files: 10 classes; the members and pool entries that the words name. The judged class is class 1, her method 1. -/
namespace start1
open Jvm.ClassFile
def u (s : String) : CpInfo := .utf8 (stringToUtf16 s)
/-- a pool by its gaps: so many unusable entries, then the entry; so many at the end -/
def gap : Nat → List CpInfo → List CpInfo
  | 0, r => r
  | n + 1, r => .unusable :: gap n r
def poolList (es : List (Nat × CpInfo)) (last : Nat) : List CpInfo := es.foldr (fun e r => gap e.1 (e.2 :: r)) (gap last [])
def pool (es : List (Nat × CpInfo)) (last : Nat) : Array CpInfo := ⟨poolList es last⟩
def fileOf (pool : Array CpInfo) (this : Nat) (attrs : Array Attribute := #[]) (ms : Array MethodInfo := #[]) (fl : Nat := 33) (sup : Nat := 0) (ifs : Array Nat := #[]) (fds : Array FieldInfo := #[]) : ClassFile where
  minorVersion := 0
  majorVersion := 65
  constantPool := pool
  accessFlags := fl
  thisClass := this
  superClass := sup
  interfaces := ifs
  fields := fds
  methods := ms
  attributes := attrs
def plain (name : String) (sup : Option ClassId) : Class where
  name := name
  kind := .ordinary
  loader := none
  accessFlags := 33
  super := sup
  interfaces := #[]
  cf := none
  fields := #[]
  methods := #[]
  instanceTypes := #[]
  staticTypes := #[]
  resolved := #[]
  callSites := []
  init := .initialized
  statics := none
  mirror := none

def pool0 : Array CpInfo := pool [(5, u "<init>"), (0, u "()V"), (1, .class_ 10), (1, u "java/lang/Object")] 113

def k0c0 : Code := { maxStack := 0, maxLocals := 1, code := object_method_1_code, exceptionTable := #[], attributes := #[] }
def k0m0 : Method := { name := "<init>", desc := "()V", sig := { parameters := [], returnType := none }, accessFlags := 1, code := some k0c0 }
/-- java/lang/Object -/
def k0 : Class := { plain "java/lang/Object" none with
  accessFlags := 33
  interfaces := #[]
  cf := some (fileOf pool0 8 #[] #[{ accessFlags := 1, nameIndex := 5, descriptorIndex := 6, attributes := #[] }] 33 0 #[] #[])
  fields := #[]
  methods := #[k0m0]
  instanceTypes := #[]
  staticTypes := #[]
  resolved := Array.replicate 124 none
  statics := none }

def pool1 : Array CpInfo := pool [(2, .class_ 4), (1, u "java/lang/Object"), (0, u "<init>"), (0, u "()V"), (0, .class_ 8), (0, u "com/example/rackwise/rackwise/LoadBalancer$Split"), (0, .methodref 7 10), (0, .nameAndType 5 11), (0, u "([I[I)V"), (0, .methodref 7 13), (0, .nameAndType 14 15), (0, u "joined"), (0, u "([I[I)[I"), (0, .class_ 17), (0, u "com/example/rackwise/rackwise/SplitJoinedPinLaw"), (2, u "law"), (0, u "(IIIII)Z")] 9

def k1m0 : Method := { name := "<init>", desc := "()V", sig := { parameters := [], returnType := none }, accessFlags := 1, code := none }
def k1c1 : Code := { maxStack := 4, maxLocals := 20, code := code, exceptionTable := #[], attributes := #[] }
def k1m1 : Method := { name := "law", desc := "(IIIII)Z", sig := { parameters := [.int, .int, .int, .int, .int], returnType := some .boolean }, accessFlags := 9, code := some k1c1 }
/-- com/example/rackwise/rackwise/SplitJoinedPinLaw -/
def k1 : Class := { plain "com/example/rackwise/rackwise/SplitJoinedPinLaw" (some 0) with
  accessFlags := 49
  interfaces := #[]
  cf := some (fileOf pool1 16 #[] #[{ accessFlags := 1, nameIndex := 5, descriptorIndex := 6, attributes := #[] }, { accessFlags := 9, nameIndex := 20, descriptorIndex := 21, attributes := #[] }] 49 2 #[] #[])
  fields := #[]
  methods := #[k1m0, k1m1]
  instanceTypes := #[]
  staticTypes := #[]
  resolved := Array.replicate 31 none
  statics := none }

def pool2 : Array CpInfo := pool [(1, .methodref 2 3), (0, .class_ 4), (0, .nameAndType 5 6), (0, u "java/lang/Object"), (0, u "<init>"), (0, u "()V"), (0, .class_ 8), (0, u "java/lang/Record")] 13

def k2c0 : Code := { maxStack := 1, maxLocals := 1, code := jdk_30_method_1_code, exceptionTable := #[], attributes := #[] }
def k2m0 : Method := { name := "<init>", desc := "()V", sig := { parameters := [], returnType := none }, accessFlags := 4, code := some k2c0 }
/-- java/lang/Record -/
def k2 : Class := { plain "java/lang/Record" (some 0) with
  accessFlags := 1057
  interfaces := #[]
  cf := some (fileOf pool2 7 #[] #[{ accessFlags := 4, nameIndex := 5, descriptorIndex := 6, attributes := #[] }] 1057 2 #[] #[])
  fields := #[]
  methods := #[k2m0]
  instanceTypes := #[]
  staticTypes := #[]
  resolved := Array.replicate 22 none
  statics := none }

def pool3 : Array CpInfo := pool [(1, .class_ 2), (0, u "com/example/rackwise/rackwise/LoadBalancer"), (0, .methodref 4 5), (0, .class_ 6), (0, .nameAndType 7 8), (0, u "java/lang/Record"), (0, u "<init>"), (0, u "()V"), (0, .fieldref 10 11), (0, .class_ 12), (0, .nameAndType 13 14), (0, u "com/example/rackwise/rackwise/LoadBalancer$Split"), (0, u "lighter"), (0, u "[I"), (0, .fieldref 10 16), (0, .nameAndType 17 14), (0, u "heavier"), (34, u "([I[I)V"), (20, u "joined"), (0, u "([I[I)[I")] 27

def k3c0 : Code := { maxStack := 2, maxLocals := 3, code := prog_75_method_1_code, exceptionTable := #[], attributes := #[] }
def k3m0 : Method := { name := "<init>", desc := "([I[I)V", sig := { parameters := [(.array .int), (.array .int)], returnType := none }, accessFlags := 0, code := some k3c0 }
def k3c1 : Code := { maxStack := 4, maxLocals := 5, code := prog_75_method_5_code, exceptionTable := #[], attributes := #[] }
def k3m1 : Method := { name := "joined", desc := "([I[I)[I", sig := { parameters := [(.array .int), (.array .int)], returnType := some (.array .int) }, accessFlags := 0, code := some k3c1 }
/-- com/example/rackwise/rackwise/LoadBalancer$Split -/
def k3 : Class := { plain "com/example/rackwise/rackwise/LoadBalancer$Split" (some 2) with
  accessFlags := 48
  interfaces := #[]
  cf := some (fileOf pool3 10 #[.nestHost 1] #[{ accessFlags := 0, nameIndex := 7, descriptorIndex := 52, attributes := #[] }, { accessFlags := 0, nameIndex := 73, descriptorIndex := 74, attributes := #[] }] 48 4 #[] #[{ accessFlags := 18, nameIndex := 13, descriptorIndex := 14, attributes := #[] }, { accessFlags := 18, nameIndex := 17, descriptorIndex := 14, attributes := #[] }])
  fields := #[{ name := "lighter", type := (.array .int), accessFlags := 18, slot := 0, constantValue := 0 }, { name := "heavier", type := (.array .int), accessFlags := 18, slot := 1, constantValue := 0 }]
  methods := #[k3m0, k3m1]
  instanceTypes := #[(.array .int), (.array .int)]
  staticTypes := #[]
  resolved := Array.replicate 102 none
  statics := none }

def pool4 : Array CpInfo := pool [(1, u "java/lang/Cloneable"), (0, .class_ 1), (0, u "java/lang/Object"), (0, .class_ 3)] 3

/-- java/lang/Cloneable -/
def k4 : Class := { plain "java/lang/Cloneable" (some 0) with
  accessFlags := 1537
  interfaces := #[]
  cf := some (fileOf pool4 2 #[] #[] 1537 4 #[] #[])
  fields := #[]
  methods := #[]
  instanceTypes := #[]
  staticTypes := #[]
  resolved := Array.replicate 8 none
  statics := none }

def pool5 : Array CpInfo := pool [(1, u "java/io/Serializable"), (0, .class_ 1), (0, u "java/lang/Object"), (0, .class_ 3)] 3

/-- java/io/Serializable -/
def k5 : Class := { plain "java/io/Serializable" (some 0) with
  accessFlags := 1537
  interfaces := #[]
  cf := some (fileOf pool5 2 #[] #[] 1537 4 #[] #[])
  fields := #[]
  methods := #[]
  instanceTypes := #[]
  staticTypes := #[]
  resolved := Array.replicate 8 none
  statics := none }

/-- the primitive byte -/
def k6 : Class := { plain "byte" none with kind := .primitive 'B', accessFlags := 0x411 }
/-- [B -/
def k7 : Class := { plain "[B" (some 0) with kind := .array 6 .byte, interfaces := #[4, 5], accessFlags := 1041 }

/-- the primitive int -/
def k8 : Class := { plain "int" none with kind := .primitive 'I', accessFlags := 0x411 }
/-- [I -/
def k9 : Class := { plain "[I" (some 0) with kind := .array 8 .int, interfaces := #[4, 5], accessFlags := 1041 }

def heap : Heap := #[]
def classes : Array Class := #[k0, k1, k2, k3, k4, k5, k6, k7, k8, k9]
def interned : List (Array UInt16 × Addr) := []
def slotsUsed : Nat := 0
def theMethod : MethodId := ⟨1, 1⟩
def args0 : Array Value := #[.int 55, .int 1, .int 2, .int 3, .int 4]
def aboutOver (below : List Frame) : State where
  vm := { classes := classes, interned := interned.toArray }
  heap := heap
  slotsUsed := slotsUsed
  threads := #[{ frames := .invoking theMethod args0 :: below }]
def below0 : List Frame := [.native { method := ⟨0, 0⟩, args := #[] }]
def about1 : State := aboutOver below0
def p0 : Program := .bare "" "" ""
def e0 : Env := launch0.env 0 0 0
theorem w_frames : about1.frames = Frame.invoking theMethod args0 :: below0 := rfl
set_option maxRecDepth 65536 in
theorem w_args : argsFit about1.vm theMethod args0 = true := by decide +kernel
set_option maxRecDepth 65536 in
theorem w_heap : heapFits about1 = true := by decide +kernel
set_option maxRecDepth 65536 in
theorem w_runnable : about1.curStatus? = some .runnable := by decide +kernel
set_option maxRecDepth 65536 in
theorem w_alone : about1.alone = true := by decide +kernel
set_option maxRecDepth 65536 in
theorem w_named : about1.methodNamed? x = some theMethod := by decide +kernel
set_option maxRecDepth 65536 in
theorem w_hears : about1.hears theMethod below0 = true := by decide +kernel
set_option maxRecDepth 65536 in
theorem w_ripe : about1.ripe theMethod args0 below0 = true := by decide +kernel
theorem w_running : about1.status = .running := rfl
set_option maxRecDepth 65536 in
theorem w_room : about1.hasRoom e0.platform room_1 = true :=
  launch0.hasRoom_least _ room_1 (by decide +kernel) (by decide +kernel) (by decide +kernel) (by decide +kernel) (by decide +kernel) (by decide +kernel)
theorem allAtoms_all (ts : List Jvm.Cond) (a : Array Jvm.Value) (st : Jvm.State) : (allAtoms ts).before a st = ts.all (fun c => c.before a st) := by
  induction ts with
  | nil => rfl
  | cons c t ih =>
    show (Jvm.Cond.and c (allAtoms t)).before a st = _
    rw [Jvm.Cond.before_and, ih, List.all_cons]
def words1 : List Jvm.Cond := Jvm.Cond.code x code maxLocals ret :: tables_1
/-- a 'code' word, met by the world's own term for the bytes: nothing is compared byte by byte -/
theorem code_word {y : MethodName} {bytes : ByteArray} {mx : Nat} {rt : Option FieldType} {a : Array Value} {s : State} {m : MethodId} {meth : Method} {c : Code} (h1 : s.methodNamed? y = some m) (h2 : s.vm.method? m = some meth) (h3 : meth.code = some c) (h4 : c.code = bytes)
    (h5 : (c.maxLocals == mx && c.exceptionTable.isEmpty && decide (c.maxStack ≤ mostOperands) && decide (meth.sig.returnType = rt) && !meth.locks && decide (parseMethodDescriptor y.desc = some meth.sig)) = true) : (Jvm.Cond.code y bytes mx rt).before a s = true := by
  simp only [Bool.and_eq_true, beq_iff_eq, Bool.not_eq_true', decide_eq_true_eq] at h5
  obtain ⟨⟨⟨⟨⟨g1, g2⟩, g3⟩, g4⟩, g5⟩, g6⟩ := h5
  simp [Cond.before, Cond.holds, Cond.value, h1, h2, h3, h4, g1, g2, g3, g4, g5, g6]
def isCode : Jvm.Cond → Bool
  | .code _ _ _ _ => true
  | _ => false
theorem all_split {L : List Jvm.Cond} {P : Jvm.Cond → Bool} (h1 : L.all (fun c => isCode c || P c) = true) (h2 : ∀ c ∈ L.filter isCode, P c = true) : L.all P = true := by
  refine List.all_eq_true.mpr fun c hc => ?_
  have h := List.all_eq_true.mp h1 c hc
  rcases Bool.eq_false_or_eq_true (isCode c) with hi | hi
  · exact h2 c (List.mem_filter.mpr ⟨hc, hi⟩)
  · simpa [hi] using h
set_option maxRecDepth 65536 in
theorem w_c0 : (Jvm.Cond.code x code maxLocals ret).before args0 about1 = true := code_word (m := ⟨1, 1⟩) (meth := k1m1) (c := k1c1) (by decide +kernel) rfl rfl rfl (by decide +kernel)
set_option maxRecDepth 65536 in
theorem w_c1 : (Jvm.Cond.code ({ cls := "com/example/rackwise/rackwise/LoadBalancer$Split", name := "<init>", desc := "([I[I)V" } : Jvm.MethodName) prog_75_method_1_code (3 : Nat) (Option.none : Option Jvm.ClassFile.FieldType)).before args0 about1 = true := code_word (m := ⟨3, 0⟩) (meth := k3m0) (c := k3c0) (by decide +kernel) rfl rfl rfl (by decide +kernel)
set_option maxRecDepth 65536 in
theorem w_c2 : (Jvm.Cond.code ({ cls := "java/lang/Record", name := "<init>", desc := "()V" } : Jvm.MethodName) jdk_30_method_1_code (1 : Nat) (Option.none : Option Jvm.ClassFile.FieldType)).before args0 about1 = true := code_word (m := ⟨2, 0⟩) (meth := k2m0) (c := k2c0) (by decide +kernel) rfl rfl rfl (by decide +kernel)
set_option maxRecDepth 65536 in
theorem w_c3 : (Jvm.Cond.code ({ cls := "java/lang/Object", name := "<init>", desc := "()V" } : Jvm.MethodName) object_method_1_code (1 : Nat) (Option.none : Option Jvm.ClassFile.FieldType)).before args0 about1 = true := code_word (m := ⟨0, 0⟩) (meth := k0m0) (c := k0c0) (by decide +kernel) rfl rfl rfl (by decide +kernel)
set_option maxRecDepth 65536 in
theorem w_c4 : (Jvm.Cond.code ({ cls := "com/example/rackwise/rackwise/LoadBalancer$Split", name := "joined", desc := "([I[I)[I" } : Jvm.MethodName) prog_75_method_5_code (5 : Nat) (Option.some (Jvm.ClassFile.FieldType.array Jvm.ClassFile.FieldType.int))).before args0 about1 = true := code_word (m := ⟨3, 1⟩) (meth := k3m1) (c := k3c1) (by decide +kernel) rfl rfl rfl (by decide +kernel)
def codes1 : List Jvm.Cond := [Jvm.Cond.code x code maxLocals ret, Jvm.Cond.code ({ cls := "com/example/rackwise/rackwise/LoadBalancer$Split", name := "<init>", desc := "([I[I)V" } : Jvm.MethodName) prog_75_method_1_code (3 : Nat) (Option.none : Option Jvm.ClassFile.FieldType), Jvm.Cond.code ({ cls := "java/lang/Record", name := "<init>", desc := "()V" } : Jvm.MethodName) jdk_30_method_1_code (1 : Nat) (Option.none : Option Jvm.ClassFile.FieldType), Jvm.Cond.code ({ cls := "java/lang/Object", name := "<init>", desc := "()V" } : Jvm.MethodName) object_method_1_code (1 : Nat) (Option.none : Option Jvm.ClassFile.FieldType), Jvm.Cond.code ({ cls := "com/example/rackwise/rackwise/LoadBalancer$Split", name := "joined", desc := "([I[I)[I" } : Jvm.MethodName) prog_75_method_5_code (5 : Nat) (Option.some (Jvm.ClassFile.FieldType.array Jvm.ClassFile.FieldType.int))]
set_option maxRecDepth 65536 in
theorem codes_eq : words1.filter isCode = codes1 := rfl
theorem w_codes : ∀ c ∈ words1.filter isCode, c.before args0 about1 = true := by
  rw [codes_eq]
  intro c hc
  simp only [codes1, List.mem_cons, List.not_mem_nil, or_false] at hc
  rcases hc with rfl | rfl | rfl | rfl | rfl
  · exact w_c0
  · exact w_c1
  · exact w_c2
  · exact w_c3
  · exact w_c4
set_option maxRecDepth 65536 in
theorem w_t1 : (words1.take 24).all (fun c => isCode c || c.before args0 about1) = true := by decide +kernel
set_option maxRecDepth 65536 in
theorem w_t2 : (words1.drop 24).all (fun c => isCode c || c.before args0 about1) = true := by decide +kernel
theorem w_tables : (allAtoms (Jvm.Cond.code x code maxLocals ret :: tables_1)).before args0 about1 = true := by
  rw [allAtoms_all]
  show words1.all (fun c => c.before args0 about1) = true
  refine all_split ?_ w_codes
  rw [← List.take_append_drop 24 words1, List.all_append, w_t1, w_t2]
  rfl
set_option maxRecDepth 65536 in
theorem w_case : (Jvm.Cond.and given_1 narrow_1).before args0 about1 = true := by decide +kernel
theorem w_applies : (headSpec (Jvm.Cond.code x code maxLocals ret :: tables_1) room_1).applies x e0.platform about1 = true :=
  (Spec.applies_iff w_frames).mpr ⟨w_running, w_runnable, w_alone, w_named, w_hears, w_ripe, w_room, w_tables⟩
theorem atStart : AtStart classFile x code maxLocals ret World_1 tables_1 room_1 Calls_1 rest_1 Pre_1 launch0 p0 e0 about1 theMethod args0 below0 :=
  ⟨lists_1, trivial, launch0.admits_env _ _ _, launch0.least_env, fairChoices_fair.cas, fairChoices_fair.clock, w_frames, w_args, w_heap, w_applies, trivial, trivial, w_case⟩
end start1
theorem witness_1 : WitnessClaimed_1 := ⟨start1.p0, start1.e0, start1.about1, start1.theMethod, start1.args0, start1.below0, start1.atStart⟩
end Jvm.Pilot.@@N@@
