import JvmDerived
import JvmDerived.Pilot.@@N@@Statement
import JvmDerived.Pilot.@@N@@Code
set_option linter.unusedVariables false
set_option linter.unusedSimpArgs false
namespace Jvm.OwnGo
open Jvm Jvm.ClassFile Sem Op Lib Jvm.Free Jvm.Stand Jvm.LawKit Jvm.RoadKit
section Own
variable {p : Program} {l : Launch} {e : Env} {R : Room} {s : State} {m : MethodId} {args : Array Value} {below : List Frame} {meth : Method} {c : Code} {T : State} {locs : List Loc} {cells slots : Nat} {Q : Option Value → Heap → List Loc → Prop} {C N : Nat}
/-- from A on the run comes to its return, and what it returns and leaves is as Q says -/
def Go (p : Program) (e : Env) (below : List Frame) (s : State) (Q : Option Value → Heap → List Loc → Prop) (C N : Nat) (A : State) : Prop :=
  ∃ s₂ o, Steps p.tables e below A s₂ ∧ s₂.status = .running ∧ Ended s₂ below o ∧ ∃ v L, o = .returned v ∧ Q v s₂.heap L ∧ FrameEnd s o s₂ L C N
theorem Go.st {A B : State} (h : ∀ t, Steps p.tables e below B t → Steps p.tables e below A t) (k : Go p e below s Q C N B) : Go p e below s Q C N A := by
  obtain ⟨s₂, o, h1, r⟩ := k
  exact ⟨s₂, o, h _ h1, r⟩
theorem Go.tr {A B : State} (h : Steps p.tables e below A B) (k : Go p e below s Q C N B) : Go p e below s Q C N A := k.st fun _ q => h.trans q
theorem Go.retI (X : Stand p l e R s m args below meth c T locs cells slots) (hx : p.tables.exec = Jvm.exec) (hlk : meth.locks = false) (hret : meth.sig.returnType = some .int) {pc : Nat} {Ls : Array Slot} {z : Int32} {rest : List Value} (hd : decode c.code pc = .ok (.ireturn, 1))
    (q : Q (some (.int z)) T.heap locs) (hc : cells ≤ C) (hn : slots ≤ N) : Go p e below s Q C N (T.setTop (mkF m pc Ls (.int z :: rest))) := by
  obtain ⟨fs, hr, hrun, hended, hW, hsame⟩ := X.leave (v := some (.int z)) (fun h => by rw [hret] at h; cases h) hlk
  exact ⟨_, _, retOut X hx hret rfl (Or.inl ⟨rfl, Or.inl rfl, _, rfl⟩) hd hr, hrun, hended, _, _, rfl, q, ⟨_, rfl⟩, hW, hsame.mono hc hn⟩
theorem Go.retN (X : Stand p l e R s m args below meth c T locs cells slots) (hx : p.tables.exec = Jvm.exec) (hlk : meth.locks = false) {t : FieldType} (ht : t = .boolean ∨ t = .byte ∨ t = .char ∨ t = .short) (hret : meth.sig.returnType = some t) {pc : Nat} {Ls : Array Slot} {z z' : Int32} {rest : List Value} (hd : decode c.code pc = .ok (.ireturn, 1))
    (hz : nar t z = z') (q : Q (some (.int z')) T.heap locs) (hc : cells ≤ C) (hn : slots ≤ N) : Go p e below s Q C N (T.setTop (mkF m pc Ls (.int z :: rest))) := by
  subst hz
  obtain ⟨fs, hr, hrun, hended, hW, hsame⟩ := X.leave (v := some (.int (nar t z))) (fun h => by rw [hret] at h; cases h) hlk
  exact ⟨_, _, Jvm.RoadKit.retN X hx hret ht hd hr, hrun, hended, _, _, rfl, q, ⟨_, rfl⟩, hW, hsame.mono hc hn⟩
theorem Go.retJ (X : Stand p l e R s m args below meth c T locs cells slots) (hx : p.tables.exec = Jvm.exec) (hlk : meth.locks = false) (hret : meth.sig.returnType = some .long) {pc : Nat} {Ls : Array Slot} {z : Int64} {rest : List Value} (hd : decode c.code pc = .ok (.lreturn, 1))
    (q : Q (some (.long z)) T.heap locs) (hc : cells ≤ C) (hn : slots ≤ N) : Go p e below s Q C N (T.setTop (mkF m pc Ls (.long z :: rest))) := by
  obtain ⟨fs, hr, hrun, hended, hW, hsame⟩ := X.leave (v := some (.long z)) (fun h => by rw [hret] at h; cases h) hlk
  exact ⟨_, _, retOut X hx hret rfl (Or.inr (Or.inl ⟨rfl, rfl, _, rfl⟩)) hd hr, hrun, hended, _, _, rfl, q, ⟨_, rfl⟩, hW, hsame.mono hc hn⟩
theorem nar_ref {t : FieldType} {w : Value} (hw : w.isRef = true) : narrow t w = w := by
  cases t <;> cases w <;> first | rfl | (simp [Value.isRef] at hw)
theorem Go.retA (X : Stand p l e R s m args below meth c T locs cells slots) (hx : p.tables.exec = Jvm.exec) (hlk : meth.locks = false) {t : FieldType} (ht : t.isReference = true) (hret : meth.sig.returnType = some t) {pc : Nat} {Ls : Array Slot} {w : Value} {rest : List Value} (hw : w.isRef = true) (hd : decode c.code pc = .ok (.areturn, 1))
    (q : Q (some w) T.heap locs) (hc : cells ≤ C) (hn : slots ≤ N) : Go p e below s Q C N (T.setTop (mkF m pc Ls (w :: rest))) := by
  obtain ⟨fs, hr, hrun, hended, hW, hsame⟩ := X.leave (v := some w) (fun h => by rw [hret] at h; cases h) hlk
  exact ⟨_, _, retOut X hx hret (nar_ref hw) (Or.inr (Or.inr (Or.inr (Or.inr ⟨rfl, ht, hw⟩)))) hd hr, hrun, hended, _, _, rfl, q, ⟨_, rfl⟩, hW, hsame.mono hc hn⟩
theorem Go.retV (X : Stand p l e R s m args below meth c T locs cells slots) (hx : p.tables.exec = Jvm.exec) (hlk : meth.locks = false) (hret : meth.sig.returnType = none) {pc : Nat} {Ls : Array Slot} (hd : decode c.code pc = .ok (.return_, 1))
    (q : Q none T.heap locs) (hc : cells ≤ C) (hn : slots ≤ N) : Go p e below s Q C N (T.setTop (mkF m pc Ls [])) := by
  obtain ⟨fs, hr, hrun, hended, hW, hsame⟩ := X.leave (v := none) (fun _ => rfl) hlk
  exact ⟨_, _, X.returnOut hx hret hd hr, hrun, hended, _, _, rfl, q, ⟨_, rfl⟩, hW, hsame.mono hc hn⟩
theorem up {k n : Nat} (X : Stand p l e R s m args below meth c T locs cells slots) (hc : cells ≤ k) (hn : slots ≤ n) : Stand p l e R s m args below meth c T locs k n := { X with same := X.same.mono hc hn }
end Own
/-- a fact that the arithmetic leaves alone till it is opened -/
def Hid (P : Prop) : Prop := P
section Num
variable {x y : Int32} {u v : Int64} {a b : Int}
theorem ltI (ha : x.toInt = a) (hb : y.toInt = b) (h : a < b) : x < y := by rw [Int32.lt_iff_toInt_lt, ha, hb]; exact h
theorem nltI (ha : x.toInt = a) (hb : y.toInt = b) (h : ¬ a < b) : ¬ x < y := by rw [Int32.lt_iff_toInt_lt, ha, hb]; exact h
theorem eqI (ha : x.toInt = a) (hb : y.toInt = b) (h : a = b) : x = y := Int32.toInt_inj.mp (by rw [ha, hb]; exact h)
theorem neI (ha : x.toInt = a) (hb : y.toInt = b) (h : ¬ a = b) : ¬ x = y := fun q => h (by rw [← ha, ← hb, q])
theorem ltJ (ha : u.toInt = a) (hb : v.toInt = b) (h : a < b) : u < v := by rw [Int64.lt_iff_toInt_lt, ha, hb]; exact h
theorem nltJ (ha : u.toInt = a) (hb : v.toInt = b) (h : ¬ a < b) : ¬ u < v := by rw [Int64.lt_iff_toInt_lt, ha, hb]; exact h
theorem eqJ (ha : u.toInt = a) (hb : v.toInt = b) (h : a = b) : u = v := Int64.toInt_inj.mp (by rw [ha, hb]; exact h)
theorem neJ (ha : u.toInt = a) (hb : v.toInt = b) (h : ¬ a = b) : ¬ u = v := fun q => h (by rw [← ha, ← hb, q])
theorem bool_nar (h : x.toInt = 0 ∨ x.toInt = 1) : nar .boolean x = x := by
  rcases h with h | h
  · rw [Int32.toInt_inj.mp (h.trans (by decide : (0 : Int) = (0 : Int32).toInt))]; decide
  · rw [Int32.toInt_inj.mp (h.trans (by decide : (1 : Int) = (1 : Int32).toInt))]; decide
end Num
section Words
variable {Z : State} {args : Array Value} {t : Term} {C n d : String} {a : Addr}
theorem fld_int {k : Int32} (ht : t.eval args Z none [] Z = some (.ref a)) (h : (Cond.eq (Term.field t C n d) (Term.int k)).value args Z none Z [] = some true) : Fld Z Z.heap a C n d (.int k) := by
  obtain ⟨u, v, e1, e2, k1, k2⟩ := cmp_v (Or.inl h)
  have e3 : v = .int k := Option.some.inj (e2.symm.trans (Term.int_eval k))
  subst e3
  obtain ⟨w, rfl⟩ : ∃ w, u = .int w := k2
  have q := gotT (Cond.eq_ints e1 (Term.int_eval k)) h
  subst q
  exact Fld.start (by rw [← fld_at (args := args) (first := Z) (o := none) (idx := []) ht]; exact e1)
theorem sta_long {k : Int64} (h : (Cond.eq (Term.static C n d) (Term.long k)).value args Z none Z [] = some true) : (Term.static C n d).eval args Z none [] Z = some (.long k) := by
  obtain ⟨u, v, e1, e2, k1, k2⟩ := cmp_v (Or.inl h)
  have e3 : v = .long k := Option.some.inj (e2.symm.trans rfl)
  subst e3
  obtain ⟨w, rfl⟩ : ∃ w, u = .long w := k2
  have q := gotT (eq_L (y := k) e1 rfl) h
  subst q
  exact e1
theorem sta_int {k : Int32} (h : (Cond.eq (Term.static C n d) (Term.int k)).value args Z none Z [] = some true) : (Term.static C n d).eval args Z none [] Z = some (.int k) := by
  obtain ⟨u, v, e1, e2, k1, k2⟩ := cmp_v (Or.inl h)
  have e3 : v = .int k := Option.some.inj (e2.symm.trans rfl)
  subst e3
  obtain ⟨w, rfl⟩ : ∃ w, u = .int w := k2
  have q := gotT (Cond.eq_ints e1 (Term.int_eval k)) h
  subst q
  exact e1
/-- a cell that is no class's statics -/
def Exi (h : Heap) (x : Addr) : Prop := ∃ c : Cell, h[x]? = some c ∧ c.vm.isStatics = false
theorem exi_exa {h : Heap} (F : Exa Z h a C) : Exi h a := by obtain ⟨c, k, h1, -, -, h4, -⟩ := F; exact ⟨c, h1, h4⟩
theorem sta_keep {h h' : Heap} {v : Value} {ws : List Addr} (F : Sta Z h C n d v) (K : Keep h h' ws) (q : ∀ x ∈ ws, Exi h x) : Sta Z h' C n d v := by
  obtain ⟨cf, i, k, f, st, cell, h1, h2, h3, h4, h5, h6, h7⟩ := F
  refine ⟨cf, i, k, f, st, cell, h1, h2, h3, h4, K.2.1 st cell h5 (fun hm => ?_), h6, h7⟩
  obtain ⟨c, e1, e2⟩ := q st hm
  cases h5.symm.trans e1
  rw [h6] at e2; cases e2
theorem self_sel {s : State} {as as' : Array Value} {y z : MethodName} (hs : (Cond.selects C z z).before as s = true) (hc : z.cls = y.cls) (hp : s.PrivateAt y) (hi : (Cond.instanceMethod y).before as' s = true) (hy : y.cls ≠ "java/lang/invoke/MethodHandle" ∧ y.cls ≠ "java/lang/invoke/VarHandle") : (Cond.selects y.cls y y).before as' s = true := by
  obtain ⟨c, r, m, h1, h2, h3, h4, mk, h5, h6⟩ := Cond.selects_spec hs
  exact selects_self_of_private (hc ▸ findClass_of_methodNamed h3) h5 h6 hp hi hy
end Words
end Jvm.OwnGo
namespace Jvm.OwnGo
open Jvm Jvm.ClassFile Sem Op Lib Jvm.Free Jvm.Stand Jvm.LawKit Jvm.RoadKit
section Vecs
variable {p : Program} {l : Launch} {e : Env} {R : Room} {s : State} {m : MethodId} {args : Array Value} {below : List Frame} {meth : Method} {c : Code} {T : State} {locs : List Loc} {cells slots : Nat} {Z : State} {h h' : Heap} {a b : Addr} {ty : FieldType} {n j x : Int32} {y : Int64} {f : Nat → Value} {v : Value} {sl : Nat} {ws : List Addr}
/-- an array at a, of length n, whose i-th place holds f i -/
def Vec (Z : State) (h : Heap) (a : Addr) (ty : FieldType) (n : Int32) (f : Nat → Value) : Prop := ∃ c : Cell, Arr Z h a c ty ∧ c.slots.size = n.toInt.toNat ∧ 0 ≤ n.toInt ∧ ∀ i : Nat, (i : Int) < n.toInt → c.slots[i]? = some (f i)
def ints (f : Nat → Int32) : Nat → Value := fun i => .int (f i)
def longs (f : Nat → Int64) : Nat → Value := fun i => .long (f i)
def updF {α : Type} (f : Nat → α) (k : Nat) (v : α) : Nat → α := fun i => if i = k then v else f i
theorem upd_same {α : Type} (f : Nat → α) (k : Nat) (v : α) : updF f k v k = v := if_pos rfl
theorem upd_ne {α : Type} (f : Nat → α) {k i : Nat} (v : α) (q : i ≠ k) : updF f k v i = f i := if_neg q
def lst {α : Type} [Inhabited α] (l : List α) : Nat → α := fun i => l.getD i default
theorem upd_lst {α : Type} [Inhabited α] (l : List α) (k : Nat) (v : α) (hk : k < l.length) : updF (lst l) k v = lst (l.set k v) := by
  funext i
  simp only [updF, lst, List.getD_eq_getElem?_getD, List.getElem?_set]
  by_cases q : i = k
  · subst q; simp [hk]
  · simp [q, Ne.symm q]
theorem upd_ints (f : Nat → Int32) (k : Nat) (v : Int32) : updF (ints f) k (.int v) = ints (updF f k v) := by
  funext i; simp only [updF, ints]; split <;> rfl
theorem upd_longs (f : Nat → Int64) (k : Nat) (v : Int64) : updF (longs f) k (.long v) = longs (updF f k v) := by
  funext i; simp only [updF, longs]; split <;> rfl
theorem Vec.lt (F : Vec Z h a ty n f) : a < h.size := by obtain ⟨c, A, -⟩ := F; exact A.lt
theorem Vec.ext (E : Ext h h') (F : Vec Z h a ty n f) : Vec Z h' a ty n f := by obtain ⟨c, A, r⟩ := F; exact ⟨c, A.ext E, r⟩
theorem Vec.other (W : Wr h h' b sl v) (F : Vec Z h a ty n f) (q : a ≠ b) : Vec Z h' a ty n f := by obtain ⟨c, A, r⟩ := F; exact ⟨c, A.other W q, r⟩
theorem Vec.keep (F : Vec Z h a ty n f) (K : Keep h h' ws) (q : a ∉ ws) : Vec Z h' a ty n f := by obtain ⟨c, A, r⟩ := F; exact ⟨c, ⟨K.2.1 a c A.1 q, A.2⟩, r⟩
theorem exi_vec (F : Vec Z h a ty n f) : Exi h a := by obtain ⟨c, A, -⟩ := F; exact ⟨c, A.1, A.plain⟩
theorem nat_cl (j : Int32) : j.toNatClampNeg = j.toInt.toNat := rfl
theorem not_neg (q : 0 ≤ j.toInt) : ¬ j < 0 := by
  have z : (0 : Int32).toInt = 0 := by decide
  rw [Int32.lt_iff_toInt_lt, z]; omega
theorem of_neg (q : ¬ j < 0) : 0 ≤ j.toInt := by
  have z : (0 : Int32).toInt = 0 := by decide
  rw [Int32.lt_iff_toInt_lt, z] at q; omega
theorem inb {k : Nat} (q : k = n.toInt.toNat) (h1 : 0 ≤ j.toInt) (h2 : j.toInt < n.toInt) : ¬ (j < 0 ∨ k ≤ j.toNatClampNeg) := by
  rintro (w | w)
  · exact not_neg h1 w
  · rw [nat_cl, q] at w; omega
theorem Vec.new {k : ClassId} (A : Arr Z h a (newA k ty n) ty) (q : 0 ≤ n.toInt) : Vec Z h a ty n (fun _ => defaultValue ty) := by
  refine ⟨_, A, sz_new _ _ _, q, fun i hi => ?_⟩
  have hi' : i < n.toNatClampNeg := by rw [nat_cl]; omega
  simp [newA, hi']
theorem Vec.of {f' : Nat → Value} (F : Vec Z h a ty n f) (q : ∀ i : Nat, (i : Int) < n.toInt → f i = f' i) : Vec Z h a ty n f' := by
  obtain ⟨c, A, h1, h2, h3⟩ := F
  exact ⟨c, A, h1, h2, fun i hi => by rw [← q i hi]; exact h3 i hi⟩
theorem Vec.of_eq {f' : Nat → Value} (F : Vec Z h a ty n f) (q : f = f') : Vec Z h a ty n f' := q ▸ F
theorem rep_z : ∀ (k i : Nat), (List.replicate k (0 : Int32)).getD i default = 0
  | 0, _ => rfl
  | _ + 1, 0 => rfl
  | k + 1, i + 1 => rep_z k i
theorem rep_zL : ∀ (k i : Nat), (List.replicate k (0 : Int64)).getD i default = 0
  | 0, _ => rfl
  | _ + 1, 0 => rfl
  | k + 1, i + 1 => rep_zL k i
theorem Vec.zerosI (k : Nat) (F : Vec Z h a ty n (fun _ => .int 0)) : Vec Z h a ty n (ints (lst (List.replicate k (0 : Int32)))) := F.of fun i _ => congrArg Value.int (rep_z k i).symm
theorem Vec.zerosJ (k : Nat) (F : Vec Z h a ty n (fun _ => .long 0)) : Vec Z h a ty n (longs (lst (List.replicate k (0 : Int64)))) := F.of fun i _ => congrArg Value.long (rep_zL k i).symm
theorem Vec.set {k : Nat} (F : Vec Z h a ty n f) (W : Wr h h' a k v) : Vec Z h' a ty n (updF f k v) := by
  obtain ⟨c, A, h1, h2, h3⟩ := F
  refine ⟨_, A.same W, by rw [sz_set]; exact h1, h2, fun i hi => ?_⟩
  by_cases q : i = k
  · subst q
    have hi' : i < c.slots.size := by rw [h1]; omega
    simp [Cell.setSlot, updF, hi']
  · rw [upd_ne f v q, ← h3 i hi]
    exact Array.getElem?_setIfInBounds_ne (Ne.symm q)
theorem Vec.len (X : Stand p l e R s m args below meth c T locs cells slots) (hx : p.tables.exec = Jvm.exec) (hZ : Z.Warmed39 s.vm) (eT : T.heap = h) (F : Vec Z h a ty n f) {g : JFrame} (hg : g.method = m) {rest : List Value} (hs : g.stack = .ref a :: rest) (hd : decode c.code g.pc = .ok (.arraylength, 1)) :
    ∀ t, Steps p.tables e below (T.setTop { g with pc := g.pc + 1, stack := .int n :: rest }) t → Steps p.tables e below (T.setTop g) t := by
  obtain ⟨cl, A, h1, h2, h3⟩ := F
  intro t k
  refine X.arraylength hx (by rw [eT]; exact A.1) (State.isArrayOf_alike hZ.alike A.2.1) hg hs hd _ ?_
  rw [len_of h1 (not_neg h2)]
  exact k
theorem Vec.ildI {f : Nat → Int32} (X : Stand p l e R s m args below meth c T locs cells slots) (hx : p.tables.exec = Jvm.exec) (hZ : Z.Warmed39 s.vm) (eT : T.heap = h) (F : Vec Z h a .int n (ints f)) (h1 : 0 ≤ j.toInt) (h2 : j.toInt < n.toInt) {g : JFrame} (hg : g.method = m) {rest : List Value} (hs : g.stack = .int j :: .ref a :: rest) (hd : decode c.code g.pc = .ok (.iaload, 1)) :
    ∀ t, Steps p.tables e below (T.setTop { g with pc := g.pc + 1, stack := .int (f j.toInt.toNat) :: rest }) t → Steps p.tables e below (T.setTop g) t := by
  obtain ⟨cl, A, q1, q2, q3⟩ := F
  exact X.iaload hx (j := j) (v := .int (f j.toInt.toNat)) (by rw [eT]; exact A.1) (State.isArrayOf_alike hZ.alike A.2.1) A.2.2 (inb q1 h1 h2) (q3 j.toInt.toNat (by omega)) hg hs hd
theorem Vec.ildB {f : Nat → Int32} (X : Stand p l e R s m args below meth c T locs cells slots) (hx : p.tables.exec = Jvm.exec) (hZ : Z.Warmed39 s.vm) (eT : T.heap = h) (F : Vec Z h a .byte n (ints f)) (h1 : 0 ≤ j.toInt) (h2 : j.toInt < n.toInt) {g : JFrame} (hg : g.method = m) {rest : List Value} (hs : g.stack = .int j :: .ref a :: rest) (hd : decode c.code g.pc = .ok (.baload, 1)) :
    ∀ t, Steps p.tables e below (T.setTop { g with pc := g.pc + 1, stack := .int (f j.toInt.toNat) :: rest }) t → Steps p.tables e below (T.setTop g) t := by
  obtain ⟨cl, A, q1, q2, q3⟩ := F
  exact X.baloadBytes hx (j := j) (v := .int (f j.toInt.toNat)) (by rw [eT]; exact A.1) (State.isArrayOf_alike hZ.alike A.2.1) A.2.2 (inb q1 h1 h2) (q3 j.toInt.toNat (by omega)) hg hs hd
theorem Vec.ildJ {f : Nat → Int64} (X : Stand p l e R s m args below meth c T locs cells slots) (hx : p.tables.exec = Jvm.exec) (hZ : Z.Warmed39 s.vm) (eT : T.heap = h) (F : Vec Z h a .long n (longs f)) (h1 : 0 ≤ j.toInt) (h2 : j.toInt < n.toInt) {g : JFrame} (hg : g.method = m) {rest : List Value} (hs : g.stack = .int j :: .ref a :: rest) (hd : decode c.code g.pc = .ok (.laload, 1)) :
    ∀ t, Steps p.tables e below (T.setTop { g with pc := g.pc + 1, stack := .long (f j.toInt.toNat) :: rest }) t → Steps p.tables e below (T.setTop g) t := by
  obtain ⟨cl, A, q1, q2, q3⟩ := F
  exact X.laload hx (j := j) (v := .long (f j.toInt.toNat)) (by rw [eT]; exact A.1) (State.isArrayOf_alike hZ.alike A.2.1) A.2.2 (inb q1 h1 h2) (q3 j.toInt.toNat (by omega)) hg hs hd
theorem Vec.istI {f : Nat → Int32} (X : Stand p l e R s m args below meth c T locs cells slots) (hx : p.tables.exec = Jvm.exec) (hZ : Z.Warmed39 s.vm) (eT : T.heap = h) (F : Vec Z h a .int n (ints f)) (h1 : 0 ≤ j.toInt) (h2 : j.toInt < n.toInt) {g : JFrame} (hg : g.method = m) {rest : List Value} (hs : g.stack = .int x :: .int j :: .ref a :: rest) (hd : decode c.code g.pc = .ok (.iastore, 1)) :
    ∃ T' h', Stand p l e R s m args below meth c T' (locs ++ [⟨a, j.toInt.toNat⟩]) cells slots ∧ T'.heap = h' ∧ Wr h h' a j.toInt.toNat (.int x) ∧ Vec Z h' a .int n (ints (updF f j.toInt.toNat x)) ∧ ∀ t, Steps p.tables e below (T'.setTop { g with pc := g.pc + 1, stack := rest }) t → Steps p.tables e below (T.setTop g) t := by
  obtain ⟨cl, A, q1, q2, q3⟩ := id F
  obtain ⟨T', h', X', e', W', st'⟩ := stI X hx hZ eT A (inb q1 h1 h2) hg hs hd
  exact ⟨T', h', X', e', W', upd_ints f _ x ▸ F.set W', st'⟩
theorem Vec.istB {f : Nat → Int32} (X : Stand p l e R s m args below meth c T locs cells slots) (hx : p.tables.exec = Jvm.exec) (hZ : Z.Warmed39 s.vm) (eT : T.heap = h) (F : Vec Z h a .byte n (ints f)) (h1 : 0 ≤ j.toInt) (h2 : j.toInt < n.toInt) {g : JFrame} (hg : g.method = m) {rest : List Value} (hs : g.stack = .int x :: .int j :: .ref a :: rest) (hd : decode c.code g.pc = .ok (.bastore, 1)) :
    ∃ T' h', Stand p l e R s m args below meth c T' (locs ++ [⟨a, j.toInt.toNat⟩]) cells slots ∧ T'.heap = h' ∧ Wr h h' a j.toInt.toNat (.int x.toInt8.toInt32) ∧ Vec Z h' a .byte n (ints (updF f j.toInt.toNat x.toInt8.toInt32)) ∧ ∀ t, Steps p.tables e below (T'.setTop { g with pc := g.pc + 1, stack := rest }) t → Steps p.tables e below (T.setTop g) t := by
  obtain ⟨cl, A, q1, q2, q3⟩ := id F
  obtain ⟨T', h', X', e', W', st'⟩ := stB X hx hZ eT A (inb q1 h1 h2) hg hs hd
  exact ⟨T', h', X', e', W', upd_ints f _ x.toInt8.toInt32 ▸ F.set W', st'⟩
theorem Vec.istJ {f : Nat → Int64} (X : Stand p l e R s m args below meth c T locs cells slots) (hx : p.tables.exec = Jvm.exec) (hZ : Z.Warmed39 s.vm) (eT : T.heap = h) (F : Vec Z h a .long n (longs f)) (h1 : 0 ≤ j.toInt) (h2 : j.toInt < n.toInt) {g : JFrame} (hg : g.method = m) {rest : List Value} (hs : g.stack = .long y :: .int j :: .ref a :: rest) (hd : decode c.code g.pc = .ok (.lastore, 1)) :
    ∃ T' h', Stand p l e R s m args below meth c T' (locs ++ [⟨a, j.toInt.toNat⟩]) cells slots ∧ T'.heap = h' ∧ Wr h h' a j.toInt.toNat (.long y) ∧ Vec Z h' a .long n (longs (updF f j.toInt.toNat y)) ∧ ∀ t, Steps p.tables e below (T'.setTop { g with pc := g.pc + 1, stack := rest }) t → Steps p.tables e below (T.setTop g) t := by
  obtain ⟨cl, A, q1, q2, q3⟩ := id F
  obtain ⟨T', h', X', e', W', st'⟩ := stJ X hx hZ eT A (inb q1 h1 h2) hg hs hd
  exact ⟨T', h', X', e', W', upd_longs f _ y ▸ F.set W', st'⟩
end Vecs
end Jvm.OwnGo
namespace Jvm.OwnGo
open Jvm Jvm.ClassFile Sem Op Lib Jvm.Free Jvm.Stand Jvm.LawKit Jvm.RoadKit
theorem dupX2 {tb : Tables} [Ours tb] {e : Env} {below : List Frame} {T target : State} {m : MethodId} {c : Code} {g : JFrame} (h : At T m c below) (hx : tb.exec = Jvm.exec) (hg : g.method = m) {x y z : Value} {rest : List Value} (hd : decode c.code g.pc = .ok (.dup_x2, 1)) (hs : g.stack = x :: y :: z :: rest) (hc : x.category = 1) (hc2 : y.category = 1) (hc3 : z.category = 1)
    (hr : Steps tb e below (T.setTop { g with pc := g.pc + 1, stack := x :: y :: z :: x :: rest }) target) : Steps tb e below (T.setTop g) target := by
  subst hg
  jvm_step h [h.top, hx, hd, dup_x2.wp_sem, hs, hc, hc2, hc3]
  exact hr
section RVs
variable {p : Program} {l : Launch} {e : Env} {R : Room} {s : State} {m : MethodId} {args : Array Value} {below : List Frame} {meth : Method} {c : Code} {T : State} {locs : List Loc} {cells slots : Nat} {Z : State} {h h' : Heap} {a b : Addr} {n j : Int32} {v : Value} {sl : Nat} {ws : List Addr} {L : List Value}
/-- an array of int arrays at a, of length n, whose places hold L -/
def RV (Z : State) (h : Heap) (a : Addr) (n : Int32) (L : List Value) : Prop := ∃ cl : Cell, Arr Z h a cl (.array .int) ∧ OvrA Z cl.cls .int "[I" ∧ cl.slots.size = n.toInt.toNat ∧ 0 ≤ n.toInt ∧ ∀ i : Nat, (i : Int) < n.toInt → cl.slots[i]? = some (L.getD i .null)
theorem RV.lt (F : RV Z h a n L) : a < h.size := by obtain ⟨c, A, -⟩ := F; exact A.lt
theorem RV.ext (E : Ext h h') (F : RV Z h a n L) : RV Z h' a n L := by obtain ⟨c, A, r⟩ := F; exact ⟨c, A.ext E, r⟩
theorem RV.other (W : Wr h h' b sl v) (F : RV Z h a n L) (q : a ≠ b) : RV Z h' a n L := by obtain ⟨c, A, r⟩ := F; exact ⟨c, A.other W q, r⟩
theorem RV.keep (F : RV Z h a n L) (K : Keep h h' ws) (q : a ∉ ws) : RV Z h' a n L := by obtain ⟨c, A, r⟩ := F; exact ⟨c, ⟨K.2.1 a c A.1 q, A.2⟩, r⟩
theorem exi_rv (F : RV Z h a n L) : Exi h a := by obtain ⟨c, A, -⟩ := F; exact ⟨c, A.1, A.plain⟩
theorem RV.new {k : ClassId} (N : Nat) (A : Arr Z h a (newA k (.array .int) n) (.array .int)) (O : OvrA Z k .int "[I") (q : 0 ≤ n.toInt) : RV Z h a n (List.replicate N .null) := by
  refine ⟨_, A, O, sz_new _ _ _, q, fun i hi => ?_⟩
  have hi' : i < n.toNatClampNeg := by rw [nat_cl]; omega
  have e : (List.replicate N Value.null).getD i .null = .null := by
    rw [List.getD_eq_getElem?_getD, List.getElem?_replicate]; split <;> rfl
  rw [e]
  simp [newA, hi', defaultValue]
theorem RV.len (X : Stand p l e R s m args below meth c T locs cells slots) (hx : p.tables.exec = Jvm.exec) (hZ : Z.Warmed39 s.vm) (eT : T.heap = h) (F : RV Z h a n L) {g : JFrame} (hg : g.method = m) {rest : List Value} (hs : g.stack = .ref a :: rest) (hd : decode c.code g.pc = .ok (.arraylength, 1)) :
    ∀ t, Steps p.tables e below (T.setTop { g with pc := g.pc + 1, stack := .int n :: rest }) t → Steps p.tables e below (T.setTop g) t := by
  obtain ⟨cl, A, -, h1, h2, h3⟩ := F
  intro t k
  refine X.arraylength hx (by rw [eT]; exact A.1) (State.isArrayOf_alike hZ.alike A.2.1) hg hs hd _ ?_
  rw [len_of h1 (not_neg h2)]
  exact k
theorem RV.ild (X : Stand p l e R s m args below meth c T locs cells slots) (hx : p.tables.exec = Jvm.exec) (hZ : Z.Warmed39 s.vm) (eT : T.heap = h) (F : RV Z h a n L) (h1 : 0 ≤ j.toInt) (h2 : j.toInt < n.toInt) {g : JFrame} (hg : g.method = m) {rest : List Value} (hs : g.stack = .int j :: .ref a :: rest) (hd : decode c.code g.pc = .ok (.aaload, 1)) :
    ∀ t, Steps p.tables e below (T.setTop { g with pc := g.pc + 1, stack := L.getD j.toInt.toNat .null :: rest }) t → Steps p.tables e below (T.setTop g) t := by
  obtain ⟨cl, A, -, q1, q2, q3⟩ := F
  exact X.aaload hx (j := j) (v := L.getD j.toInt.toNat .null) (by rw [eT]; exact A.1) (State.isArrayOf_alike hZ.alike A.2.1) rfl A.2.2 (inb q1 h1 h2) (q3 j.toInt.toNat (by omega)) hg hs hd
theorem RV.set {k : Nat} (F : RV Z h a n L) (W : Wr h h' a k v) (hk : k < L.length) : RV Z h' a n (L.set k v) := by
  obtain ⟨c, A, O, h1, h2, h3⟩ := F
  refine ⟨_, A.same W, O, by rw [sz_set]; exact h1, h2, fun i hi => ?_⟩
  by_cases q : i = k
  · subst q
    have hi' : i < c.slots.size := by rw [h1]; omega
    simp [Cell.setSlot, hi', hk]
  · have e : (c.setSlot k v).slots[i]? = c.slots[i]? := Array.getElem?_setIfInBounds_ne (Ne.symm q)
    rw [e, h3 i hi]
    simp [List.getD_eq_getElem?_getD, List.getElem?_set, Ne.symm q]
theorem RV.ist {y : Addr} (X : Stand p l e R s m args below meth c T locs cells slots) (hx : p.tables.exec = Jvm.exec) (hZ : Z.Warmed39 s.vm) (eT : T.heap = h) (F : RV Z h a n L) (I : Ins Z h y "[I" true) (h1 : 0 ≤ j.toInt) (h2 : j.toInt < n.toInt ∧ j.toInt.toNat < L.length) {g : JFrame} (hg : g.method = m) {rest : List Value} (hs : g.stack = .ref y :: .int j :: .ref a :: rest) (hd : decode c.code g.pc = .ok (.aastore, 1)) :
    ∃ T' h', Stand p l e R s m args below meth c T' (locs ++ [⟨a, j.toInt.toNat⟩]) cells slots ∧ T'.heap = h' ∧ Wr h h' a j.toInt.toNat (.ref y) ∧ RV Z h' a n (L.set j.toInt.toNat (.ref y)) ∧ ∀ t, Steps p.tables e below (T'.setTop { g with pc := g.pc + 1, stack := rest }) t → Steps p.tables e below (T.setTop g) t := by
  obtain ⟨cl, A, O, q1, q2, q3⟩ := id F
  obtain ⟨T', h', X', e', W', st'⟩ := stR X hx hZ eT A (inb q1 h1 h2.1) rfl (Sto.ofVA A rfl O I) hg hs hd
  exact ⟨T', h', X', e', W', F.set W' h2.2, st'⟩
end RVs
/-- how often r is met among the first i -/
def ind (a r : Int) : Int := if a = r then 1 else 0
theorem ind_c (a r : Int) : (a = r ∧ ind a r = 1) ∨ (¬ a = r ∧ ind a r = 0) := by
  unfold ind
  by_cases q : a = r
  · exact Or.inl ⟨q, if_pos q⟩
  · exact Or.inr ⟨q, if_neg q⟩
def cnt (K : Nat → Int32) : Nat → Int → Int
  | 0, _ => 0
  | i + 1, r => cnt K i r + ind (K i).toInt r
theorem cnt_succ (K : Nat → Int32) (i : Nat) (r : Int) : cnt K (i + 1) r = cnt K i r + ind (K i).toInt r := rfl
theorem cnt_rng (K : Nat → Int32) : ∀ (i : Nat) (r : Int), 0 ≤ cnt K i r ∧ cnt K i r ≤ i
  | 0, _ => ⟨Int.le_refl _, Int.le_refl _⟩
  | i + 1, r => by
    have q := cnt_rng K i r
    have q2 := ind_c (K i).toInt r
    rw [cnt_succ]; omega
theorem cnt_mono (K : Nat → Int32) (i : Nat) : ∀ (d : Nat) (r : Int), cnt K i r ≤ cnt K (i + d) r
  | 0, _ => Int.le_refl _
  | d + 1, r => by
    have q := cnt_mono K i d r
    have q2 := ind_c (K (i + d)).toInt r
    have q3 : cnt K (i + (d + 1)) r = cnt K (i + d) r + ind (K (i + d)).toInt r := rfl
    omega
theorem cnt_lt (K : Nat → Int32) {i j : Nat} {r : Int} (h : i < j) (q : (K i).toInt = r) : cnt K i r < cnt K j r := by
  obtain ⟨d, rfl⟩ : ∃ d, j = (i + 1) + d := ⟨j - (i + 1), by omega⟩
  have q1 := cnt_mono K (i + 1) d r
  have q2 := ind_c (K i).toInt r
  rw [cnt_succ] at q1
  omega
theorem cnt_upd {C K : Nat → Int32} {i i' R x : Nat} {v : Int32} (hC : ∀ r : Nat, r < R → (C r).toInt = cnt K i r) (hk : (K i).toInt = x) (hv : v.toInt = (C x).toInt + 1) (hx : x < R) (hi : i' = i + 1) : ∀ r : Nat, r < R → ((updF C x v) r).toInt = cnt K i' r := by
  subst hi
  intro r hr
  have q2 := ind_c (K i).toInt r
  rw [cnt_succ]
  by_cases q : r = x
  · subst q
    rw [upd_same, hv, hC r hr]; omega
  · rw [upd_ne _ _ q, hC r hr]; omega
theorem G_upd {g K : Nat → Int32} {i i' x : Nat} {r : Int} {v : Int32} (hG : ∀ j : Nat, j < i → (K j).toInt = r → (g (cnt K j r).toNat).toInt = j) (hx : (x : Int) = cnt K i r) (hv : v.toInt = i) (hi : i' = i + 1) : ∀ j : Nat, j < i' → (K j).toInt = r → ((updF g x v) (cnt K j r).toNat).toInt = j := by
  subst hi
  intro j hj hk
  by_cases q : j = i
  · subst q
    rw [← hx, Int.toNat_natCast, upd_same]; exact hv
  · have q1 : j < i := by omega
    have q2 := cnt_lt K q1 hk
    have q3 := cnt_rng K j r
    rw [upd_ne _ _ (by omega)]
    exact hG j q1 hk
theorem G_keep {g K : Nat → Int32} {i i' : Nat} {r : Int} (hG : ∀ j : Nat, j < i → (K j).toInt = r → (g (cnt K j r).toNat).toInt = j) (hn : ¬ (K i).toInt = r) (hi : i' = i + 1) : ∀ j : Nat, j < i' → (K j).toInt = r → (g (cnt K j r).toNat).toInt = j := by
  subst hi
  intro j hj hk
  by_cases q : j = i
  · subst q; exact absurd hk hn
  · exact hG j (by omega) hk
theorem placed_ok {g K : Nat → Int32} {N i : Nat} {r : Int} {ra l ci rr : Int32} (hl : l.toInt = cnt K N r) (hG : ∀ j : Nat, j < N → (K j).toInt = r → (g (cnt K j r).toNat).toInt = j) (hi : i < N) (hk : (K i).toInt = r) (hra : ra.toInt = cnt K i r) (hci : ci.toInt = i) (f : ra.toInt < l.toInt → (g ra.toInt.toNat).toInt = ci.toInt → rr.toInt = 1) : rr.toInt = 1 :=
  f (by rw [hra, hl]; exact cnt_lt K hi hk) (by rw [hra, hG i hi hk, hci])
/-- one client more, or not -/
def Mo (P : Prop) (c d : Int) : Prop := (P ∧ d = c + 1) ∨ (¬ P ∧ d = c)
theorem mo_in {P : Prop} {k r c d kk : Int} (m : Mo (P ∧ k = r) c d) (hP : P) (hk : kk = k) : d = c + ind kk r := by
  subst hk
  rcases m with ⟨⟨-, q⟩, e⟩ | ⟨q, e⟩
  · rcases ind_c kk r with ⟨-, i⟩ | ⟨i, -⟩
    · rw [e, i]
    · exact absurd q i
  · rcases ind_c kk r with ⟨i, -⟩ | ⟨-, i⟩
    · exact absurd ⟨hP, i⟩ q
    · rw [e, i, Int.add_zero]
theorem mo_out {P Q : Prop} {c d : Int} (m : Mo (P ∧ Q) c d) (hP : ¬ P) : d = c := by
  rcases m with ⟨⟨q, -⟩, -⟩ | ⟨-, e⟩
  · exact absurd q hP
  · exact e
theorem chain_cnt {K : Nat → Int32} {n r a b c d k0 k1 k2 k3 : Int} (h0 : 0 < n → (K 0).toInt = k0) (h1 : 1 < n → (K 1).toInt = k1) (h2 : 2 < n → (K 2).toInt = k2) (h3 : 3 < n → (K 3).toInt = k3) (hn : 0 ≤ n ∧ n ≤ 4)
    (m0 : Mo (0 < n ∧ k0 = r) 0 a) (m1 : Mo (1 < n ∧ k1 = r) a b) (m2 : Mo (2 < n ∧ k2 = r) b c) (m3 : Mo (3 < n ∧ k3 = r) c d) : d = cnt K n.toNat r := by
  have hc : n = 0 ∨ n = 1 ∨ n = 2 ∨ n = 3 ∨ n = 4 := by clear m0 m1 m2 m3 h0 h1 h2 h3; omega
  rcases hc with rfl | rfl | rfl | rfl | rfl
  · rw [mo_out m3 (by decide), mo_out m2 (by decide), mo_out m1 (by decide), mo_out m0 (by decide)]; rfl
  · rw [mo_out m3 (by decide), mo_out m2 (by decide), mo_out m1 (by decide), mo_in m0 (by decide) (h0 (by decide))]; rfl
  · rw [mo_out m3 (by decide), mo_out m2 (by decide), mo_in m1 (by decide) (h1 (by decide)), mo_in m0 (by decide) (h0 (by decide))]; rfl
  · rw [mo_out m3 (by decide), mo_in m2 (by decide) (h2 (by decide)), mo_in m1 (by decide) (h1 (by decide)), mo_in m0 (by decide) (h0 (by decide))]; rfl
  · rw [mo_in m3 (by decide) (h3 (by decide)), mo_in m2 (by decide) (h2 (by decide)), mo_in m1 (by decide) (h1 (by decide)), mo_in m0 (by decide) (h0 (by decide))]; rfl
end Jvm.OwnGo
namespace Jvm.OwnGo
theorem four_rng {K : Nat → Int32} {n R k0 k1 k2 k3 : Int} (hn : n ≤ 4) (h0 : 0 < n → (K 0).toInt = k0) (h1 : 1 < n → (K 1).toInt = k1) (h2 : 2 < n → (K 2).toInt = k2) (h3 : 3 < n → (K 3).toInt = k3) (r0 : 0 ≤ k0 ∧ k0 < R) (r1 : 0 ≤ k1 ∧ k1 < R) (r2 : 0 ≤ k2 ∧ k2 < R) (r3 : 0 ≤ k3 ∧ k3 < R) :
    ∀ j : Nat, (j : Int) < n → 0 ≤ (K j).toInt ∧ (K j).toInt < R := by
  intro j hj
  rcases (by omega : j = 0 ∨ j = 1 ∨ j = 2 ∨ j = 3) with rfl | rfl | rfl | rfl
  · rw [h0 (by omega)]; exact r0
  · rw [h1 (by omega)]; exact r1
  · rw [h2 (by omega)]; exact r2
  · rw [h3 (by omega)]; exact r3
end Jvm.OwnGo
namespace Jvm.Pilot.@@N@@
open Jvm Jvm.ClassFile Sem Op Lib Jvm.Free Jvm.Stand Jvm.LawKit Jvm.RoadKit Bundle Jvm.OwnGo Jvm.Pilot.@@N@@.Jvm.D
theorem pn_0 : plainName "com/example/rackwise/rackwise/RackCosts" = true := by first | (simp [plainName, overriddenIn]; done) | decide +kernel
theorem liI_0 : (0 : Int32).toInt = 0 := by decide
theorem d1_0 : decode prog_99_method_9_code 0 = .ok (.iload_n 1, 1) := by decide +kernel
theorem d1_1 : decode prog_99_method_9_code 1 = .ok (.newarray .int, 2) := by decide +kernel
theorem d1_3 : decode prog_99_method_9_code 3 = .ok (.astore_n 2, 1) := by decide +kernel
theorem d1_4 : decode prog_99_method_9_code 4 = .ok (.aload_n 0, 1) := by decide +kernel
theorem d1_5 : decode prog_99_method_9_code 5 = .ok (.astore_n 3, 1) := by decide +kernel
theorem d1_6 : decode prog_99_method_9_code 6 = .ok (.aload_n 3, 1) := by decide +kernel
theorem d1_7 : decode prog_99_method_9_code 7 = .ok (.arraylength, 1) := by decide +kernel
theorem d1_8 : decode prog_99_method_9_code 8 = .ok (.istore 4, 2) := by decide +kernel
theorem d1_10 : decode prog_99_method_9_code 10 = .ok (.iconst 0, 1) := by decide +kernel
theorem d1_11 : decode prog_99_method_9_code 11 = .ok (.istore 5, 2) := by decide +kernel
theorem d1_13 : decode prog_99_method_9_code 13 = .ok (.iload 5, 2) := by decide +kernel
theorem d1_15 : decode prog_99_method_9_code 15 = .ok (.iload 4, 2) := by decide +kernel
theorem d1_17 : decode prog_99_method_9_code 17 = .ok (.if_icmp .ge 23, 3) := by decide +kernel
theorem d1_40 : decode prog_99_method_9_code 40 = .ok (.aload_n 2, 1) := by decide +kernel
theorem d1_41 : decode prog_99_method_9_code 41 = .ok (.arraylength, 1) := by decide +kernel
theorem d1_42 : decode prog_99_method_9_code 42 = .ok (.anewarray 25, 3) := by decide +kernel
theorem d1_45 : decode prog_99_method_9_code 45 = .ok (.astore_n 3, 1) := by decide +kernel
theorem d1_46 : decode prog_99_method_9_code 46 = .ok (.iconst 0, 1) := by decide +kernel
theorem d1_47 : decode prog_99_method_9_code 47 = .ok (.istore 4, 2) := by decide +kernel
theorem d1_49 : decode prog_99_method_9_code 49 = .ok (.iload 4, 2) := by decide +kernel
theorem d1_51 : decode prog_99_method_9_code 51 = .ok (.aload_n 3, 1) := by decide +kernel
theorem d1_52 : decode prog_99_method_9_code 52 = .ok (.arraylength, 1) := by decide +kernel
theorem d1_53 : decode prog_99_method_9_code 53 = .ok (.if_icmp .ge 24, 3) := by decide +kernel
theorem d1_77 : decode prog_99_method_9_code 77 = .ok (.iconst 0, 1) := by decide +kernel
theorem d1_78 : decode prog_99_method_9_code 78 = .ok (.istore 4, 2) := by decide +kernel
theorem d1_80 : decode prog_99_method_9_code 80 = .ok (.iload 4, 2) := by decide +kernel
theorem d1_82 : decode prog_99_method_9_code 82 = .ok (.aload_n 0, 1) := by decide +kernel
theorem d1_83 : decode prog_99_method_9_code 83 = .ok (.arraylength, 1) := by decide +kernel
theorem d1_84 : decode prog_99_method_9_code 84 = .ok (.if_icmp .ge 31, 3) := by decide +kernel
theorem d1_115 : decode prog_99_method_9_code 115 = .ok (.aload_n 3, 1) := by decide +kernel
theorem d1_116 : decode prog_99_method_9_code 116 = .ok (.areturn, 1) := by decide +kernel
theorem ef_rmc0 (m : MethodId) (cl : Addr) : entryFrame m #[(.ref cl), (.int (0 : Int32))] 7 = mkF m 0 #[.val (.ref cl), .val (.int (0 : Int32)), .unset, .unset, .unset, .unset, .unset] [] := by first | (simp [entryFrame, mkF, argsToLocals, Value.category]; done) | rfl
def Qc0 (Z : State) (cl : Addr) (nn : Int32) (KK : Nat → Int32) (h0 : Heap) (n0 : Nat) (vv : Option Value) (h : Heap) (LL : List Loc) : Prop := ∃ (res : Addr), vv = some (.ref res) ∧ Fr n0 LL ∧ Keep h0 h [] ∧ (RV Z h res (0 : Int32) [])
set_option maxRecDepth 65536 in
set_option maxHeartbeats 40000000 in
theorem rmc0 (l : Launch) (Z : State) (a0 : Array Value) (hw : ∀ d ∈ tables_1, d.before a0 Z = true) (ws : List Jvm.Cond) (cl : Addr) (nn : Int32) (KK : Nat → Int32) (h0 : Heap) (n0 : Nat) (Z0 : n0 ≤ h0.size) (hV : Vec Z h0 cl .int nn (ints KK)) (hn : 0 ≤ nn.toInt ∧ nn.toInt ≤ 0) (hKr : ∀ j : Nat, (j : Int) < nn.toInt → 0 ≤ (KK j).toInt ∧ (KK j).toInt < 0) :
    MetFree l (⟨"com/example/rackwise/rackwise/RackCosts", "clientsOfRacks", "([II)[[I"⟩ : MethodName) (head1 (Jvm.Cond.code (⟨"com/example/rackwise/rackwise/RackCosts", "clientsOfRacks", "([II)[[I"⟩ : MethodName) prog_99_method_9_code 7 (some (.array (.array .int))) :: ws) ({ frames := 0, cells := 2, slots := 0, locals := 0 } : Room)) (fun aa UU => aa = #[(.ref cl), (.int (0 : Int32))] ∧ Z.Warmed39 UU.vm ∧ UU.heap = h0) (fun _ _ _ _ _ => True) (fun _ UU oo UU' => ∃ vv LL, oo = .returned vv ∧ Qc0 Z cl nn KK h0 n0 vv UU'.heap LL ∧ FrameEnd UU oo UU' LL 2 0) := by
  refine MetFree.of_bodySF (plainFor_of_name pn_0) hisR ?_
  intro p e s m args below meth c s₁ Bd hml0 hP hK
  obtain ⟨rfl, hZ, hh⟩ := hP
  have hx := Bd.exec
  have hby := Bd.bytes
  have hlk : meth.locks = false := BodyLoose.notSynchronized Bd
  have hml : c.maxLocals = 7 := hml0
  have hown : s.vm.findClass "com/example/rackwise/rackwise/RackCosts" = some m.cls := findClass_of_methodNamed Bd.named
  have hnm := (name_of_methodNamed Bd.named Bd.method).1
  have X0 : Stand p l e ({ frames := 0, cells := 2, slots := 0, locals := 0 } : Room) s m #[(.ref cl), (.int (0 : Int32))] below meth c s₁ [] 0 0 := Stand.of_body Bd
  have e0 : s₁.heap = h0 := by rw [← hh, Bd.state]; rfl
  have N0 := Fr.nil n0
  have K0 : Keep h0 h0 [] := Keep.refl h0 _
  refine (?_ : Go p e below s (Qc0 Z cl nn KK h0 n0) 2 0 (s₁.setTop (entryFrame m #[(.ref cl), (.int (0 : Int32))] 7)))
  rw [ef_rmc0]
  generalize hQ : Qc0 Z cl nn KK h0 n0 = Q
  have hnn := rng32 nn
  show Go p e below s Q 2 0 (s₁.setTop (mkF m 0 #[.val (.ref cl), .val (.int (0 : Int32)), .unset, .unset, .unset, .unset, .unset] []))
  have f1 := liI_0
  refine Go.st (fun _ k => XS.iloadN X0.here hx rfl (hb hby d1_0) rfl k) ?_
  have r3 : 0 ≤ (0 : Int32).toInt := by decide
  have r4 : (0 : Int32).toNatClampNeg ≤ 0 := by decide
  obtain ⟨T2, h2, k2, X2, e2, E2, A2, B2, st2⟩ := newPE X0 hx hZ (hw _ (List.mem_of_getElem? (i := 1) rfl)) e0 (g := (mkF m 1 #[.val (.ref cl), .val (.int (0 : Int32)), .unset, .unset, .unset, .unset, .unset] [(.int (0 : Int32))])) rfl (hb hby d1_1) rfl (not_neg r3) (cap := 0) r4 (by decide) (by decide) (by decide) (ad := "[I") (by decide)
  obtain ⟨b2, g2⟩ : ∃ z, z = h0.size := ⟨_, rfl⟩
  rw [← g2] at A2 B2 st2
  have q5 : Hid (cl ≠ b2) := Nat.ne_of_lt (Nat.lt_of_lt_of_le hV.lt (Nat.le_of_eq g2.symm))
  have h6 : Vec Z h2 cl .int nn (ints KK) := hV.ext E2
  have Gb2 : Hid (n0 ≤ b2) := Nat.le_trans (Nat.le_trans Z0 K0.1) (Nat.le_of_eq g2.symm)
  have szb2 : Hid (h0.size ≤ b2) := Nat.le_trans K0.1 (Nat.le_of_eq g2.symm)
  have K2 : Keep h0 h2 [] := K0.ext E2
  have h7 : Vec Z h2 b2 .int (0 : Int32) (ints (fun _ => (0 : Int32))) := Vec.new A2 r3
  refine Go.st st2 ?_
  show Go p e below s Q 2 0 (T2.setTop (mkF m 3 #[.val (.ref cl), .val (.int (0 : Int32)), .unset, .unset, .unset, .unset, .unset] [(.ref b2)]))
  refine Go.st (fun _ k => XS.astoreN X2.here hx rfl (hb hby d1_3) rfl rfl (l' := #[.val (.ref cl), .val (.int (0 : Int32)), .val (.ref b2), .unset, .unset, .unset, .unset]) rfl k) ?_
  refine Go.st (fun _ k => XS.aloadN X2.here hx rfl (hb hby d1_4) rfl rfl k) ?_
  refine Go.st (fun _ k => XS.astoreN X2.here hx rfl (hb hby d1_5) rfl rfl (l' := #[.val (.ref cl), .val (.int (0 : Int32)), .val (.ref b2), .val (.ref cl), .unset, .unset, .unset]) rfl k) ?_
  refine Go.st (fun _ k => XS.aloadN X2.here hx rfl (hb hby d1_6) rfl rfl k) ?_
  refine Go.st (Vec.len X2 hx hZ e2 h6 (g := (mkF m 7 #[.val (.ref cl), .val (.int (0 : Int32)), .val (.ref b2), .val (.ref cl), .unset, .unset, .unset] [(.ref cl)])) rfl rfl (hb hby d1_7)) ?_
  show Go p e below s Q 2 0 (T2.setTop (mkF m 8 #[.val (.ref cl), .val (.int (0 : Int32)), .val (.ref b2), .val (.ref cl), .unset, .unset, .unset] [(.int nn)]))
  refine Go.st (fun _ k => XS.istore X2.here hx rfl (hb hby d1_8) rfl (l' := #[.val (.ref cl), .val (.int (0 : Int32)), .val (.ref b2), .val (.ref cl), .val (.int nn), .unset, .unset]) rfl k) ?_
  refine Go.st (fun _ k => XS.iconst X2.here hx rfl (hb hby d1_10) k) ?_
  refine Go.st (fun _ k => XS.istore X2.here hx rfl (hb hby d1_11) rfl (l' := #[.val (.ref cl), .val (.int (0 : Int32)), .val (.ref b2), .val (.ref cl), .val (.int nn), .val (.int (0 : Int32)), .unset]) rfl k) ?_
  refine Go.st (fun _ k => XS.iload X2.here hx rfl (hb hby d1_13) rfl k) ?_
  refine Go.st (fun _ k => XS.iload X2.here hx rfl (hb hby d1_15) rfl k) ?_
  have f9 := rng32 nn
  have c10 : ¬ (0 < nn.toInt) := by omega
  refine Go.st (fun _ k => XS.icmpYes X2.here hx rfl (pc0 := 17) (pc' := 40) rfl (hb hby d1_17) rfl (flt (nltI liI_0 rfl c10)).2.1 (by decide) (by decide) k) ?_
  show Go p e below s Q 2 0 (T2.setTop (mkF m 40 #[.val (.ref cl), .val (.int (0 : Int32)), .val (.ref b2), .val (.ref cl), .val (.int nn), .val (.int (0 : Int32)), .unset] []))
  refine Go.st (fun _ k => XS.aloadN X2.here hx rfl (hb hby d1_40) rfl rfl k) ?_
  refine Go.st (Vec.len X2 hx hZ e2 h7 (g := (mkF m 41 #[.val (.ref cl), .val (.int (0 : Int32)), .val (.ref b2), .val (.ref cl), .val (.int nn), .val (.int (0 : Int32)), .unset] [(.ref b2)])) rfl rfl (hb hby d1_41)) ?_
  show Go p e below s Q 2 0 (T2.setTop (mkF m 42 #[.val (.ref cl), .val (.int (0 : Int32)), .val (.ref b2), .val (.ref cl), .val (.int nn), .val (.int (0 : Int32)), .unset] [(.int (0 : Int32))]))
  have r13 : 0 ≤ (0 : Int32).toInt := by decide
  have r14 : (0 : Int32).toNatClampNeg ≤ 0 := by decide
  obtain ⟨T12, h12, k12, X12, e12, E12, A12, B12, O12, st12⟩ := newRA X2 hx hZ hown (C := "[I") (ty := .int) (by decide) (hw _ (List.mem_of_getElem? (i := 6) rfl)) (hw _ (List.mem_of_getElem? (i := 7) rfl)) e2 (g := (mkF m 42 #[.val (.ref cl), .val (.int (0 : Int32)), .val (.ref b2), .val (.ref cl), .val (.int nn), .val (.int (0 : Int32)), .unset] [(.int (0 : Int32))])) rfl (hb hby d1_42) rfl (not_neg r13) (cap := 0) r14 (by decide) (by decide) (by decide) (ad := "[[I") (by decide)
  obtain ⟨b12, g12⟩ : ∃ z, z = h2.size := ⟨_, rfl⟩
  rw [← g12] at A12 B12 st12
  have q15 : Hid (cl ≠ b12) := Nat.ne_of_lt (Nat.lt_of_lt_of_le h6.lt (Nat.le_of_eq g12.symm))
  have q16 : Hid (b2 ≠ b12) := Nat.ne_of_lt (Nat.lt_of_lt_of_le B2.lt (Nat.le_of_eq g12.symm))
  have h17 : Vec Z h12 cl .int nn (ints KK) := h6.ext E12
  have h18 : Exa Z h12 b2 "[I" := B2.ext E12
  have h19 : Vec Z h12 b2 .int (0 : Int32) (ints (fun _ => (0 : Int32))) := h7.ext E12
  have Gb12 : Hid (n0 ≤ b12) := Nat.le_trans (Nat.le_trans Z0 K2.1) (Nat.le_of_eq g12.symm)
  have szb12 : Hid (h0.size ≤ b12) := Nat.le_trans K2.1 (Nat.le_of_eq g12.symm)
  have K12 : Keep h0 h12 [] := K2.ext E12
  have h20 : RV Z h12 b12 (0 : Int32) [] := RV.new 0 A12 O12 r13
  refine Go.st st12 ?_
  show Go p e below s Q 2 0 (T12.setTop (mkF m 45 #[.val (.ref cl), .val (.int (0 : Int32)), .val (.ref b2), .val (.ref cl), .val (.int nn), .val (.int (0 : Int32)), .unset] [(.ref b12)]))
  refine Go.st (fun _ k => XS.astoreN X12.here hx rfl (hb hby d1_45) rfl rfl (l' := #[.val (.ref cl), .val (.int (0 : Int32)), .val (.ref b2), .val (.ref b12), .val (.int nn), .val (.int (0 : Int32)), .unset]) rfl k) ?_
  refine Go.st (fun _ k => XS.iconst X12.here hx rfl (hb hby d1_46) k) ?_
  refine Go.st (fun _ k => XS.istore X12.here hx rfl (hb hby d1_47) rfl (l' := #[.val (.ref cl), .val (.int (0 : Int32)), .val (.ref b2), .val (.ref b12), .val (.int (0 : Int32)), .val (.int (0 : Int32)), .unset]) rfl k) ?_
  refine Go.st (fun _ k => XS.iload X12.here hx rfl (hb hby d1_49) rfl k) ?_
  refine Go.st (fun _ k => XS.aloadN X12.here hx rfl (hb hby d1_51) rfl rfl k) ?_
  refine Go.st (RV.len X12 hx hZ e12 h20 (g := (mkF m 52 #[.val (.ref cl), .val (.int (0 : Int32)), .val (.ref b2), .val (.ref b12), .val (.int (0 : Int32)), .val (.int (0 : Int32)), .unset] [(.ref b12), (.int (0 : Int32))])) rfl rfl (hb hby d1_52)) ?_
  show Go p e below s Q 2 0 (T12.setTop (mkF m 53 #[.val (.ref cl), .val (.int (0 : Int32)), .val (.ref b2), .val (.ref b12), .val (.int (0 : Int32)), .val (.int (0 : Int32)), .unset] [(.int (0 : Int32)), (.int (0 : Int32))]))
  refine Go.st (fun _ k => XS.icmpYes X12.here hx rfl (pc0 := 53) (pc' := 77) rfl (hb hby d1_53) rfl (flt (nltI liI_0 liI_0 (by decide))).2.1 (by decide) (by decide) k) ?_
  refine Go.st (fun _ k => XS.iconst X12.here hx rfl (hb hby d1_77) k) ?_
  refine Go.st (fun _ k => XS.istore X12.here hx rfl (hb hby d1_78) rfl (l' := #[.val (.ref cl), .val (.int (0 : Int32)), .val (.ref b2), .val (.ref b12), .val (.int (0 : Int32)), .val (.int (0 : Int32)), .unset]) rfl k) ?_
  refine Go.st (fun _ k => XS.iload X12.here hx rfl (hb hby d1_80) rfl k) ?_
  refine Go.st (fun _ k => XS.aloadN X12.here hx rfl (hb hby d1_82) rfl rfl k) ?_
  refine Go.st (Vec.len X12 hx hZ e12 h17 (g := (mkF m 83 #[.val (.ref cl), .val (.int (0 : Int32)), .val (.ref b2), .val (.ref b12), .val (.int (0 : Int32)), .val (.int (0 : Int32)), .unset] [(.ref cl), (.int (0 : Int32))])) rfl rfl (hb hby d1_83)) ?_
  show Go p e below s Q 2 0 (T12.setTop (mkF m 84 #[.val (.ref cl), .val (.int (0 : Int32)), .val (.ref b2), .val (.ref b12), .val (.int (0 : Int32)), .val (.int (0 : Int32)), .unset] [(.int nn), (.int (0 : Int32))]))
  have c23 : ¬ (0 < nn.toInt) := by omega
  refine Go.st (fun _ k => XS.icmpYes X12.here hx rfl (pc0 := 84) (pc' := 115) rfl (hb hby d1_84) rfl (flt (nltI liI_0 rfl c23)).2.1 (by decide) (by decide) k) ?_
  refine Go.st (fun _ k => XS.aloadN X12.here hx rfl (hb hby d1_115) rfl rfl k) ?_
  show Go p e below s Q 2 0 (T12.setTop (mkF m 116 #[.val (.ref cl), .val (.int (0 : Int32)), .val (.ref b2), .val (.ref b12), .val (.int (0 : Int32)), .val (.int (0 : Int32)), .unset] [(.ref b12)]))
  exact Go.retA X12 hx hlk rfl Bd.returns rfl (hb hby d1_116) (by rw [← hQ, e12]; exact ⟨b12, rfl, N0, K12, h20⟩) (by decide) (by decide)
theorem liI_1 : (1 : Int32).toInt = 1 := by decide
theorem d1_20 : decode prog_99_method_9_code 20 = .ok (.aload_n 3, 1) := by decide +kernel
theorem d1_21 : decode prog_99_method_9_code 21 = .ok (.iload 5, 2) := by decide +kernel
theorem d1_23 : decode prog_99_method_9_code 23 = .ok (.iaload, 1) := by decide +kernel
theorem d1_24 : decode prog_99_method_9_code 24 = .ok (.istore 6, 2) := by decide +kernel
theorem d1_26 : decode prog_99_method_9_code 26 = .ok (.aload_n 2, 1) := by decide +kernel
theorem d1_27 : decode prog_99_method_9_code 27 = .ok (.iload 6, 2) := by decide +kernel
theorem d1_29 : decode prog_99_method_9_code 29 = .ok (.dup2, 1) := by decide +kernel
theorem d1_30 : decode prog_99_method_9_code 30 = .ok (.iaload, 1) := by decide +kernel
theorem d1_31 : decode prog_99_method_9_code 31 = .ok (.iconst 1, 1) := by decide +kernel
theorem d1_32 : decode prog_99_method_9_code 32 = .ok (.iadd, 1) := by decide +kernel
theorem d1_33 : decode prog_99_method_9_code 33 = .ok (.iastore, 1) := by decide +kernel
theorem d1_34 : decode prog_99_method_9_code 34 = .ok (.iinc 5 1, 3) := by decide +kernel
theorem d1_37 : decode prog_99_method_9_code 37 = .ok (.goto (-24), 3) := by decide +kernel
theorem d1_56 : decode prog_99_method_9_code 56 = .ok (.aload_n 3, 1) := by decide +kernel
theorem d1_57 : decode prog_99_method_9_code 57 = .ok (.iload 4, 2) := by decide +kernel
theorem d1_59 : decode prog_99_method_9_code 59 = .ok (.aload_n 2, 1) := by decide +kernel
theorem d1_60 : decode prog_99_method_9_code 60 = .ok (.iload 4, 2) := by decide +kernel
theorem d1_62 : decode prog_99_method_9_code 62 = .ok (.iaload, 1) := by decide +kernel
theorem d1_63 : decode prog_99_method_9_code 63 = .ok (.newarray .int, 2) := by decide +kernel
theorem d1_65 : decode prog_99_method_9_code 65 = .ok (.aastore, 1) := by decide +kernel
theorem d1_66 : decode prog_99_method_9_code 66 = .ok (.aload_n 2, 1) := by decide +kernel
theorem d1_67 : decode prog_99_method_9_code 67 = .ok (.iload 4, 2) := by decide +kernel
theorem d1_69 : decode prog_99_method_9_code 69 = .ok (.iconst 0, 1) := by decide +kernel
theorem d1_70 : decode prog_99_method_9_code 70 = .ok (.iastore, 1) := by decide +kernel
theorem d1_71 : decode prog_99_method_9_code 71 = .ok (.iinc 4 1, 3) := by decide +kernel
theorem d1_74 : decode prog_99_method_9_code 74 = .ok (.goto (-25), 3) := by decide +kernel
theorem d1_87 : decode prog_99_method_9_code 87 = .ok (.aload_n 0, 1) := by decide +kernel
theorem d1_88 : decode prog_99_method_9_code 88 = .ok (.iload 4, 2) := by decide +kernel
theorem d1_90 : decode prog_99_method_9_code 90 = .ok (.iaload, 1) := by decide +kernel
theorem d1_91 : decode prog_99_method_9_code 91 = .ok (.istore 5, 2) := by decide +kernel
theorem d1_93 : decode prog_99_method_9_code 93 = .ok (.aload_n 3, 1) := by decide +kernel
theorem d1_94 : decode prog_99_method_9_code 94 = .ok (.iload 5, 2) := by decide +kernel
theorem d1_96 : decode prog_99_method_9_code 96 = .ok (.aaload, 1) := by decide +kernel
theorem d1_97 : decode prog_99_method_9_code 97 = .ok (.aload_n 2, 1) := by decide +kernel
theorem d1_98 : decode prog_99_method_9_code 98 = .ok (.iload 5, 2) := by decide +kernel
theorem d1_100 : decode prog_99_method_9_code 100 = .ok (.dup2, 1) := by decide +kernel
theorem d1_101 : decode prog_99_method_9_code 101 = .ok (.iaload, 1) := by decide +kernel
theorem d1_102 : decode prog_99_method_9_code 102 = .ok (.dup_x2, 1) := by decide +kernel
theorem d1_103 : decode prog_99_method_9_code 103 = .ok (.iconst 1, 1) := by decide +kernel
theorem d1_104 : decode prog_99_method_9_code 104 = .ok (.iadd, 1) := by decide +kernel
theorem d1_105 : decode prog_99_method_9_code 105 = .ok (.iastore, 1) := by decide +kernel
theorem d1_106 : decode prog_99_method_9_code 106 = .ok (.iload 4, 2) := by decide +kernel
theorem d1_108 : decode prog_99_method_9_code 108 = .ok (.iastore, 1) := by decide +kernel
theorem d1_109 : decode prog_99_method_9_code 109 = .ok (.iinc 4 1, 3) := by decide +kernel
theorem d1_112 : decode prog_99_method_9_code 112 = .ok (.goto (-32), 3) := by decide +kernel
theorem ef_rmc1 (m : MethodId) (cl : Addr) : entryFrame m #[(.ref cl), (.int (1 : Int32))] 7 = mkF m 0 #[.val (.ref cl), .val (.int (1 : Int32)), .unset, .unset, .unset, .unset, .unset] [] := by first | (simp [entryFrame, mkF, argsToLocals, Value.category]; done) | rfl
def Qc1 (Z : State) (cl : Addr) (nn : Int32) (KK : Nat → Int32) (h0 : Heap) (n0 : Nat) (vv : Option Value) (h : Heap) (LL : List Loc) : Prop := ∃ (res : Addr) (w0 : Addr) (l0 : Int32) (g0 : Nat → Int32), vv = some (.ref res) ∧ Fr n0 LL ∧ (l0.toInt = cnt KK nn.toInt.toNat 0) ∧ (∀ j : Nat, j < nn.toInt.toNat → (KK j).toInt = 0 → (g0 (cnt KK j 0).toNat).toInt = j) ∧ Keep h0 h [] ∧ (RV Z h res (1 : Int32) [(.ref w0)]) ∧ (Vec Z h w0 .int l0 (ints g0))
set_option maxRecDepth 65536 in
set_option maxHeartbeats 40000000 in
theorem rmc1 (l : Launch) (Z : State) (a0 : Array Value) (hw : ∀ d ∈ tables_1, d.before a0 Z = true) (ws : List Jvm.Cond) (cl : Addr) (nn : Int32) (KK : Nat → Int32) (h0 : Heap) (n0 : Nat) (Z0 : n0 ≤ h0.size) (hV : Vec Z h0 cl .int nn (ints KK)) (hn : 0 ≤ nn.toInt ∧ nn.toInt ≤ 4) (hKr : ∀ j : Nat, (j : Int) < nn.toInt → 0 ≤ (KK j).toInt ∧ (KK j).toInt < 1) :
    MetFree l (⟨"com/example/rackwise/rackwise/RackCosts", "clientsOfRacks", "([II)[[I"⟩ : MethodName) (head1 (Jvm.Cond.code (⟨"com/example/rackwise/rackwise/RackCosts", "clientsOfRacks", "([II)[[I"⟩ : MethodName) prog_99_method_9_code 7 (some (.array (.array .int))) :: ws) ({ frames := 0, cells := 3, slots := 6, locals := 0 } : Room)) (fun aa UU => aa = #[(.ref cl), (.int (1 : Int32))] ∧ Z.Warmed39 UU.vm ∧ UU.heap = h0) (fun _ _ _ _ _ => True) (fun _ UU oo UU' => ∃ vv LL, oo = .returned vv ∧ Qc1 Z cl nn KK h0 n0 vv UU'.heap LL ∧ FrameEnd UU oo UU' LL 3 6) := by
  refine MetFree.of_bodySF (plainFor_of_name pn_0) hisR ?_
  intro p e s m args below meth c s₁ Bd hml0 hP hK
  obtain ⟨rfl, hZ, hh⟩ := hP
  have hx := Bd.exec
  have hby := Bd.bytes
  have hlk : meth.locks = false := BodyLoose.notSynchronized Bd
  have hml : c.maxLocals = 7 := hml0
  have hown : s.vm.findClass "com/example/rackwise/rackwise/RackCosts" = some m.cls := findClass_of_methodNamed Bd.named
  have hnm := (name_of_methodNamed Bd.named Bd.method).1
  have X0 : Stand p l e ({ frames := 0, cells := 3, slots := 6, locals := 0 } : Room) s m #[(.ref cl), (.int (1 : Int32))] below meth c s₁ [] 0 0 := Stand.of_body Bd
  have e0 : s₁.heap = h0 := by rw [← hh, Bd.state]; rfl
  have N0 := Fr.nil n0
  have K0 : Keep h0 h0 [] := Keep.refl h0 _
  refine (?_ : Go p e below s (Qc1 Z cl nn KK h0 n0) 3 6 (s₁.setTop (entryFrame m #[(.ref cl), (.int (1 : Int32))] 7)))
  rw [ef_rmc1]
  generalize hQ : Qc1 Z cl nn KK h0 n0 = Q
  have hnn := rng32 nn
  show Go p e below s Q 3 6 (s₁.setTop (mkF m 0 #[.val (.ref cl), .val (.int (1 : Int32)), .unset, .unset, .unset, .unset, .unset] []))
  have f1 := liI_1
  refine Go.st (fun _ k => XS.iloadN X0.here hx rfl (hb hby d1_0) rfl k) ?_
  have r3 : 0 ≤ (1 : Int32).toInt := by decide
  have r4 : (1 : Int32).toNatClampNeg ≤ 1 := by decide
  obtain ⟨T2, h2, k2, X2, e2, E2, A2, B2, st2⟩ := newPE X0 hx hZ (hw _ (List.mem_of_getElem? (i := 1) rfl)) e0 (g := (mkF m 1 #[.val (.ref cl), .val (.int (1 : Int32)), .unset, .unset, .unset, .unset, .unset] [(.int (1 : Int32))])) rfl (hb hby d1_1) rfl (not_neg r3) (cap := 1) r4 (by decide) (by decide) (by decide) (ad := "[I") (by decide)
  obtain ⟨b2, g2⟩ : ∃ z, z = h0.size := ⟨_, rfl⟩
  rw [← g2] at A2 B2 st2
  have q5 : Hid (cl ≠ b2) := Nat.ne_of_lt (Nat.lt_of_lt_of_le hV.lt (Nat.le_of_eq g2.symm))
  have h6 : Vec Z h2 cl .int nn (ints KK) := hV.ext E2
  have Gb2 : Hid (n0 ≤ b2) := Nat.le_trans (Nat.le_trans Z0 K0.1) (Nat.le_of_eq g2.symm)
  have szb2 : Hid (h0.size ≤ b2) := Nat.le_trans K0.1 (Nat.le_of_eq g2.symm)
  have K2 : Keep h0 h2 [] := K0.ext E2
  have h7 : Vec Z h2 b2 .int (1 : Int32) (ints (fun _ => (0 : Int32))) := Vec.new A2 r3
  refine Go.st st2 ?_
  show Go p e below s Q 3 6 (T2.setTop (mkF m 3 #[.val (.ref cl), .val (.int (1 : Int32)), .unset, .unset, .unset, .unset, .unset] [(.ref b2)]))
  refine Go.st (fun _ k => XS.astoreN X2.here hx rfl (hb hby d1_3) rfl rfl (l' := #[.val (.ref cl), .val (.int (1 : Int32)), .val (.ref b2), .unset, .unset, .unset, .unset]) rfl k) ?_
  refine Go.st (fun _ k => XS.aloadN X2.here hx rfl (hb hby d1_4) rfl rfl k) ?_
  refine Go.st (fun _ k => XS.astoreN X2.here hx rfl (hb hby d1_5) rfl rfl (l' := #[.val (.ref cl), .val (.int (1 : Int32)), .val (.ref b2), .val (.ref cl), .unset, .unset, .unset]) rfl k) ?_
  refine Go.st (fun _ k => XS.aloadN X2.here hx rfl (hb hby d1_6) rfl rfl k) ?_
  refine Go.st (Vec.len X2 hx hZ e2 h6 (g := (mkF m 7 #[.val (.ref cl), .val (.int (1 : Int32)), .val (.ref b2), .val (.ref cl), .unset, .unset, .unset] [(.ref cl)])) rfl rfl (hb hby d1_7)) ?_
  show Go p e below s Q 3 6 (T2.setTop (mkF m 8 #[.val (.ref cl), .val (.int (1 : Int32)), .val (.ref b2), .val (.ref cl), .unset, .unset, .unset] [(.int nn)]))
  refine Go.st (fun _ k => XS.istore X2.here hx rfl (hb hby d1_8) rfl (l' := #[.val (.ref cl), .val (.int (1 : Int32)), .val (.ref b2), .val (.ref cl), .val (.int nn), .unset, .unset]) rfl k) ?_
  refine Go.st (fun _ k => XS.iconst X2.here hx rfl (hb hby d1_10) k) ?_
  refine Go.st (fun _ k => XS.istore X2.here hx rfl (hb hby d1_11) rfl (l' := #[.val (.ref cl), .val (.int (1 : Int32)), .val (.ref b2), .val (.ref cl), .val (.int nn), .val (.int (0 : Int32)), .unset]) rfl k) ?_
  show Go p e below s Q 3 6 (T2.setTop (mkF m 13 #[.val (.ref cl), .val (.int (1 : Int32)), .val (.ref b2), .val (.ref cl), .val (.int nn), .val (.int (0 : Int32)), .unset] []))
  have lp10 : ∀ (kg9 : Nat) (Tg9 : State) (hg9 : Heap) (Lgg9 : List Loc) (Xg9 : Stand p l e ({ frames := 0, cells := 3, slots := 6, locals := 0 } : Room) s m #[(.ref cl), (.int (1 : Int32))] below meth c Tg9 Lgg9 1 1) (eg9 : Tg9.heap = hg9) (Ng9 : Fr n0 Lgg9) (Kg9 : Keep h0 hg9 []) (i1 : Int32) (C1 : Nat → Int32) (sl1 : Slot) (hfg9_0 : Vec Z hg9 cl .int nn (ints KK)) (hfg9_1 : Exa Z hg9 b2 "[I") (hfg9_2 : Vec Z hg9 b2 .int (1 : Int32) (ints C1)) (hpg9_0 : 0 ≤ i1.toInt ∧ i1.toInt ≤ nn.toInt) (hpg9_1 : ∀ r : Nat, r < 1 → (C1 r).toInt = cnt KK i1.toInt.toNat r) (hpg9_2 : One sl1), (nn.toInt - i1.toInt).toNat = kg9 → Go p e below s Q 3 6 (Tg9.setTop (mkF m 13 #[.val (.ref cl), .val (.int (1 : Int32)), .val (.ref b2), .val (.ref cl), .val (.int nn), .val (.int i1), sl1] [])) := by
    intro kg9
    induction kg9 using Nat.strongRecOn with
    | ind kg9 ihg9 =>
    intro Tg9 hg9 Lgg9 Xg9 eg9 Ng9 Kg9 i1 C1 sl1 hfg9_0 hfg9_1 hfg9_2 hpg9_0 hpg9_1 hpg9_2 hkg9
    have f11 := rng32 i1
    show Go p e below s Q 3 6 (Tg9.setTop (mkF m 13 #[.val (.ref cl), .val (.int (1 : Int32)), .val (.ref b2), .val (.ref cl), .val (.int nn), .val (.int i1), sl1] []))
    refine Go.st (fun _ k => XS.iload Xg9.here hx rfl (hb hby d1_13) rfl k) ?_
    refine Go.st (fun _ k => XS.iload Xg9.here hx rfl (hb hby d1_15) rfl k) ?_
    have f12 := rng32 nn
    by_cases c13 : i1.toInt < nn.toInt
    ·
      refine Go.st (fun _ k => XS.icmpNo Xg9.here hx rfl (hb hby d1_17) rfl (tlt (ltI rfl rfl c13)).2.1 k) ?_
      refine Go.st (fun _ k => XS.aloadN Xg9.here hx rfl (hb hby d1_20) rfl rfl k) ?_
      refine Go.st (fun _ k => XS.iload Xg9.here hx rfl (hb hby d1_21) rfl k) ?_
      have r15 : 0 ≤ i1.toInt := by omega
      have r16 : i1.toInt < nn.toInt := by omega
      refine Go.st (Vec.ildI Xg9 hx hZ eg9 hfg9_0 (j := i1) r15 r16 (g := (mkF m 23 #[.val (.ref cl), .val (.int (1 : Int32)), .val (.ref b2), .val (.ref cl), .val (.int nn), .val (.int i1), sl1] [(.int i1), (.ref cl)])) rfl rfl (hb hby d1_23)) ?_
      show Go p e below s Q 3 6 (Tg9.setTop (mkF m 24 #[.val (.ref cl), .val (.int (1 : Int32)), .val (.ref b2), .val (.ref cl), .val (.int nn), .val (.int i1), sl1] [(.int (KK i1.toInt.toNat))]))
      refine Go.st (fun _ k => XS.istoreS Xg9.here hx rfl (hb hby d1_24) rfl rfl hpg9_2 k) ?_
      show Go p e below s Q 3 6 (Tg9.setTop (mkF m 26 #[.val (.ref cl), .val (.int (1 : Int32)), .val (.ref b2), .val (.ref cl), .val (.int nn), .val (.int i1), .val (.int (KK i1.toInt.toNat))] []))
      have f17 := rng32 (KK i1.toInt.toNat)
      generalize hv_v18 : (KK i1.toInt.toNat) = v18 at f17 ⊢
      have hKi : 0 ≤ v18.toInt ∧ v18.toInt < 1 := by have q := hKr i1.toInt.toNat (by omega); rw [hv_v18] at q; exact q
      have hck := hpg9_1 v18.toInt.toNat (by omega)
      have hcr := cnt_rng KK i1.toInt.toNat (v18.toInt.toNat : Nat)
      refine Go.st (fun _ k => XS.aloadN Xg9.here hx rfl (hb hby d1_26) rfl rfl k) ?_
      refine Go.st (fun _ k => XS.iload Xg9.here hx rfl (hb hby d1_27) rfl k) ?_
      refine Go.st (fun _ k => XT.dup2 Xg9.here hx rfl (hb hby d1_29) rfl rfl rfl k) ?_
      have r20 : 0 ≤ v18.toInt := by omega
      have r21 : v18.toInt < (1 : Int32).toInt := by omega
      refine Go.st (Vec.ildI Xg9 hx hZ eg9 hfg9_2 (j := v18) r20 r21 (g := (mkF m 30 #[.val (.ref cl), .val (.int (1 : Int32)), .val (.ref b2), .val (.ref cl), .val (.int nn), .val (.int i1), .val (.int v18)] [(.int v18), (.ref b2), (.int v18), (.ref b2)])) rfl rfl (hb hby d1_30)) ?_
      show Go p e below s Q 3 6 (Tg9.setTop (mkF m 31 #[.val (.ref cl), .val (.int (1 : Int32)), .val (.ref b2), .val (.ref cl), .val (.int nn), .val (.int i1), .val (.int v18)] [(.int (C1 v18.toInt.toNat)), (.int v18), (.ref b2)]))
      refine Go.st (fun _ k => XS.iconst Xg9.here hx rfl (hb hby d1_31) k) ?_
      refine Go.st (fun _ k => XS.iadd Xg9.here hx rfl (hb hby d1_32) rfl k) ?_
      show Go p e below s Q 3 6 (Tg9.setTop (mkF m 33 #[.val (.ref cl), .val (.int (1 : Int32)), .val (.ref b2), .val (.ref cl), .val (.int nn), .val (.int i1), .val (.int v18)] [(.int ((C1 v18.toInt.toNat) + (1 : Int32))), (.int v18), (.ref b2)]))
      have f22 := rng32 (C1 v18.toInt.toNat)
      have f23 := c_iadd (C1 v18.toInt.toNat) (1 : Int32)
      have f24 := rng32 ((C1 v18.toInt.toNat) + (1 : Int32))
      have r26 : 0 ≤ v18.toInt := by omega
      have r27 : v18.toInt < (1 : Int32).toInt := by omega
      obtain ⟨T25, h25, X25, e25, W25, V25, st25⟩ := Vec.istI Xg9 hx hZ eg9 hfg9_2 (j := v18) r26 r27 (g := (mkF m 33 #[.val (.ref cl), .val (.int (1 : Int32)), .val (.ref b2), .val (.ref cl), .val (.int nn), .val (.int i1), .val (.int v18)] [(.int ((C1 v18.toInt.toNat) + (1 : Int32))), (.int v18), (.ref b2)])) rfl rfl (hb hby d1_33)
      have h28 : Vec Z h25 cl .int nn (ints KK) := hfg9_0.other W25 q5
      have h29 : Exa Z h25 b2 "[I" := hfg9_1.wr W25
      have h30 : Vec Z h25 b2 .int (1 : Int32) (ints (updF C1 v18.toInt.toNat ((C1 v18.toInt.toNat) + (1 : Int32)))) := V25
      have K25 : Keep h0 h25 [] := Kg9.wr W25 (Or.inr szb2)
      have N25 := Fr.snoc X25 Ng9 Gb2
      refine Go.st st25 ?_
      show Go p e below s Q 3 6 (T25.setTop (mkF m 34 #[.val (.ref cl), .val (.int (1 : Int32)), .val (.ref b2), .val (.ref cl), .val (.int nn), .val (.int i1), .val (.int v18)] []))
      refine Go.st (fun _ k => XS.iinc X25.here hx rfl (hb hby d1_34) rfl (l' := #[.val (.ref cl), .val (.int (1 : Int32)), .val (.ref b2), .val (.ref cl), .val (.int nn), .val (.int (i1 + (1 : Int32))), .val (.int v18)]) rfl k) ?_
      show Go p e below s Q 3 6 (T25.setTop (mkF m 37 #[.val (.ref cl), .val (.int (1 : Int32)), .val (.ref b2), .val (.ref cl), .val (.int nn), .val (.int (i1 + (1 : Int32))), .val (.int v18)] []))
      have f31 := c_iadd i1 (1 : Int32)
      have f32 := rng32 (i1 + (1 : Int32))
      generalize hv_v33 : (i1 + (1 : Int32)) = v33 at f31 f32 ⊢
      refine Go.st (fun _ k => XS.goto X25.here hx rfl (pc0 := 37) (pc' := 13) rfl (hb hby d1_37) (by decide) (by decide) k) ?_
      show Go p e below s Q 3 6 (T25.setTop (mkF m 13 #[.val (.ref cl), .val (.int (1 : Int32)), .val (.ref b2), .val (.ref cl), .val (.int nn), .val (.int v33), .val (.int v18)] []))
      exact ihg9 _ (by omega) T25 h25 _ (up X25 (by decide) (by decide)) e25 N25 K25 v33 (updF C1 v18.toInt.toNat ((C1 v18.toInt.toNat) + (1 : Int32))) (.val (.int v18)) h28 h29 h30 (by omega) (by exact cnt_upd hpg9_1 (by rw [hv_v18]; omega) (by omega) (by omega) (by omega)) (One.val rfl) rfl
    ·
      refine Go.st (fun _ k => XS.icmpYes Xg9.here hx rfl (pc0 := 17) (pc' := 40) rfl (hb hby d1_17) rfl (flt (nltI rfl rfl c13)).2.1 (by decide) (by decide) k) ?_
      show Go p e below s Q 3 6 (Tg9.setTop (mkF m 40 #[.val (.ref cl), .val (.int (1 : Int32)), .val (.ref b2), .val (.ref cl), .val (.int nn), .val (.int i1), sl1] []))
      have hin : i1.toInt.toNat = nn.toInt.toNat := by omega
      have hC := hpg9_1
      rw [hin] at hC
      have hcn0 := cnt_rng KK nn.toInt.toNat 0
      refine Go.st (fun _ k => XS.aloadN Xg9.here hx rfl (hb hby d1_40) rfl rfl k) ?_
      refine Go.st (Vec.len Xg9 hx hZ eg9 hfg9_2 (g := (mkF m 41 #[.val (.ref cl), .val (.int (1 : Int32)), .val (.ref b2), .val (.ref cl), .val (.int nn), .val (.int i1), sl1] [(.ref b2)])) rfl rfl (hb hby d1_41)) ?_
      show Go p e below s Q 3 6 (Tg9.setTop (mkF m 42 #[.val (.ref cl), .val (.int (1 : Int32)), .val (.ref b2), .val (.ref cl), .val (.int nn), .val (.int i1), sl1] [(.int (1 : Int32))]))
      have r36 : 0 ≤ (1 : Int32).toInt := by decide
      have r37 : (1 : Int32).toNatClampNeg ≤ 1 := by decide
      obtain ⟨T35, h35, k35, X35, e35, E35, A35, B35, O35, st35⟩ := newRA Xg9 hx hZ hown (C := "[I") (ty := .int) (by decide) (hw _ (List.mem_of_getElem? (i := 6) rfl)) (hw _ (List.mem_of_getElem? (i := 7) rfl)) eg9 (g := (mkF m 42 #[.val (.ref cl), .val (.int (1 : Int32)), .val (.ref b2), .val (.ref cl), .val (.int nn), .val (.int i1), sl1] [(.int (1 : Int32))])) rfl (hb hby d1_42) rfl (not_neg r36) (cap := 1) r37 (by decide) (by decide) (by decide) (ad := "[[I") (by decide)
      obtain ⟨b35, g35⟩ : ∃ z, z = hg9.size := ⟨_, rfl⟩
      rw [← g35] at A35 B35 st35
      have q38 : Hid (cl ≠ b35) := Nat.ne_of_lt (Nat.lt_of_lt_of_le hfg9_0.lt (Nat.le_of_eq g35.symm))
      have q39 : Hid (b2 ≠ b35) := Nat.ne_of_lt (Nat.lt_of_lt_of_le hfg9_1.lt (Nat.le_of_eq g35.symm))
      have h40 : Vec Z h35 cl .int nn (ints KK) := hfg9_0.ext E35
      have h41 : Exa Z h35 b2 "[I" := hfg9_1.ext E35
      have h42 : Vec Z h35 b2 .int (1 : Int32) (ints C1) := hfg9_2.ext E35
      have Gb35 : Hid (n0 ≤ b35) := Nat.le_trans (Nat.le_trans Z0 Kg9.1) (Nat.le_of_eq g35.symm)
      have szb35 : Hid (h0.size ≤ b35) := Nat.le_trans Kg9.1 (Nat.le_of_eq g35.symm)
      have K35 : Keep h0 h35 [] := Kg9.ext E35
      have h43 : RV Z h35 b35 (1 : Int32) [.null] := RV.new 1 A35 O35 r36
      refine Go.st st35 ?_
      show Go p e below s Q 3 6 (T35.setTop (mkF m 45 #[.val (.ref cl), .val (.int (1 : Int32)), .val (.ref b2), .val (.ref cl), .val (.int nn), .val (.int i1), sl1] [(.ref b35)]))
      refine Go.st (fun _ k => XS.astoreN X35.here hx rfl (hb hby d1_45) rfl rfl (l' := #[.val (.ref cl), .val (.int (1 : Int32)), .val (.ref b2), .val (.ref b35), .val (.int nn), .val (.int i1), sl1]) rfl k) ?_
      refine Go.st (fun _ k => XS.iconst X35.here hx rfl (hb hby d1_46) k) ?_
      refine Go.st (fun _ k => XS.istore X35.here hx rfl (hb hby d1_47) rfl (l' := #[.val (.ref cl), .val (.int (1 : Int32)), .val (.ref b2), .val (.ref b35), .val (.int (0 : Int32)), .val (.int i1), sl1]) rfl k) ?_
      refine Go.st (fun _ k => XS.iload X35.here hx rfl (hb hby d1_49) rfl k) ?_
      refine Go.st (fun _ k => XS.aloadN X35.here hx rfl (hb hby d1_51) rfl rfl k) ?_
      refine Go.st (RV.len X35 hx hZ e35 h43 (g := (mkF m 52 #[.val (.ref cl), .val (.int (1 : Int32)), .val (.ref b2), .val (.ref b35), .val (.int (0 : Int32)), .val (.int i1), sl1] [(.ref b35), (.int (0 : Int32))])) rfl rfl (hb hby d1_52)) ?_
      show Go p e below s Q 3 6 (T35.setTop (mkF m 53 #[.val (.ref cl), .val (.int (1 : Int32)), .val (.ref b2), .val (.ref b35), .val (.int (0 : Int32)), .val (.int i1), sl1] [(.int (1 : Int32)), (.int (0 : Int32))]))
      refine Go.st (fun _ k => XS.icmpNo X35.here hx rfl (hb hby d1_53) rfl (tlt (ltI liI_0 liI_1 (by decide))).2.1 k) ?_
      refine Go.st (fun _ k => XS.aloadN X35.here hx rfl (hb hby d1_56) rfl rfl k) ?_
      refine Go.st (fun _ k => XS.iload X35.here hx rfl (hb hby d1_57) rfl k) ?_
      refine Go.st (fun _ k => XS.aloadN X35.here hx rfl (hb hby d1_59) rfl rfl k) ?_
      refine Go.st (fun _ k => XS.iload X35.here hx rfl (hb hby d1_60) rfl k) ?_
      refine Go.st (Vec.ildI X35 hx hZ e35 h42 (j := (0 : Int32)) (by decide) (by decide) (g := (mkF m 62 #[.val (.ref cl), .val (.int (1 : Int32)), .val (.ref b2), .val (.ref b35), .val (.int (0 : Int32)), .val (.int i1), sl1] [(.int (0 : Int32)), (.ref b2), (.int (0 : Int32)), (.ref b35)])) rfl rfl (hb hby d1_62)) ?_
      show Go p e below s Q 3 6 (T35.setTop (mkF m 63 #[.val (.ref cl), .val (.int (1 : Int32)), .val (.ref b2), .val (.ref b35), .val (.int (0 : Int32)), .val (.int i1), sl1] [(.int (C1 0)), (.int (0 : Int32)), (.ref b35)]))
      have f46 := rng32 (C1 0)
      generalize hv_l0 : (C1 0) = l0 at f46 ⊢
      have hl0 : l0.toInt = cnt KK nn.toInt.toNat 0 := by rw [← hv_l0]; exact hC 0 (by decide)
      have r48 : 0 ≤ l0.toInt := by omega
      have r49 : l0.toNatClampNeg ≤ 4 := by rw [nat_cl]; omega
      obtain ⟨T47, h47, k47, X47, e47, E47, A47, B47, st47⟩ := newPE X35 hx hZ (hw _ (List.mem_of_getElem? (i := 1) rfl)) e35 (g := (mkF m 63 #[.val (.ref cl), .val (.int (1 : Int32)), .val (.ref b2), .val (.ref b35), .val (.int (0 : Int32)), .val (.int i1), sl1] [(.int l0), (.int (0 : Int32)), (.ref b35)])) rfl (hb hby d1_63) rfl (not_neg r48) (cap := 4) r49 (by decide) (by decide) (by decide) (ad := "[I") (by decide)
      obtain ⟨b47, g47⟩ : ∃ z, z = h35.size := ⟨_, rfl⟩
      rw [← g47] at A47 B47 st47
      have q50 : Hid (cl ≠ b47) := Nat.ne_of_lt (Nat.lt_of_lt_of_le h40.lt (Nat.le_of_eq g47.symm))
      have q51 : Hid (b2 ≠ b47) := Nat.ne_of_lt (Nat.lt_of_lt_of_le h41.lt (Nat.le_of_eq g47.symm))
      have q52 : Hid (b35 ≠ b47) := Nat.ne_of_lt (Nat.lt_of_lt_of_le h43.lt (Nat.le_of_eq g47.symm))
      have h53 : Vec Z h47 cl .int nn (ints KK) := h40.ext E47
      have h54 : Exa Z h47 b2 "[I" := h41.ext E47
      have h55 : Vec Z h47 b2 .int (1 : Int32) (ints C1) := h42.ext E47
      have h56 : RV Z h47 b35 (1 : Int32) [.null] := h43.ext E47
      have Gb47 : Hid (n0 ≤ b47) := Nat.le_trans (Nat.le_trans Z0 K35.1) (Nat.le_of_eq g47.symm)
      have szb47 : Hid (h0.size ≤ b47) := Nat.le_trans K35.1 (Nat.le_of_eq g47.symm)
      have K47 : Keep h0 h47 [] := K35.ext E47
      have h57 : Vec Z h47 b47 .int l0 (ints (fun _ => (0 : Int32))) := Vec.new A47 r48
      refine Go.st st47 ?_
      show Go p e below s Q 3 6 (T47.setTop (mkF m 65 #[.val (.ref cl), .val (.int (1 : Int32)), .val (.ref b2), .val (.ref b35), .val (.int (0 : Int32)), .val (.int i1), sl1] [(.ref b47), (.int (0 : Int32)), (.ref b35)]))
      obtain ⟨T58, h58, X58, e58, W58, V58, st58⟩ := RV.ist X47 hx hZ e47 h56 (Ins.self B47) (j := (0 : Int32)) (by decide) ⟨by decide, (by show 0 < 1; decide)⟩ (g := (mkF m 65 #[.val (.ref cl), .val (.int (1 : Int32)), .val (.ref b2), .val (.ref b35), .val (.int (0 : Int32)), .val (.int i1), sl1] [(.ref b47), (.int (0 : Int32)), (.ref b35)])) rfl rfl (hb hby d1_65)
      have h59 : Vec Z h58 cl .int nn (ints KK) := h53.other W58 q38
      have h60 : Exa Z h58 b2 "[I" := h54.wr W58
      have h61 : Vec Z h58 b2 .int (1 : Int32) (ints C1) := h55.other W58 q39
      have h62 : RV Z h58 b35 (1 : Int32) [(.ref b47)] := V58
      have h63 : Exa Z h58 b47 "[I" := B47.wr W58
      have h64 : Vec Z h58 b47 .int l0 (ints (fun _ => (0 : Int32))) := h57.other W58 (Ne.symm q52)
      have K58 : Keep h0 h58 [] := K47.wr W58 (Or.inr szb35)
      have N58 := Fr.snoc X58 Ng9 Gb35
      refine Go.st st58 ?_
      show Go p e below s Q 3 6 (T58.setTop (mkF m 66 #[.val (.ref cl), .val (.int (1 : Int32)), .val (.ref b2), .val (.ref b35), .val (.int (0 : Int32)), .val (.int i1), sl1] []))
      refine Go.st (fun _ k => XS.aloadN X58.here hx rfl (hb hby d1_66) rfl rfl k) ?_
      refine Go.st (fun _ k => XS.iload X58.here hx rfl (hb hby d1_67) rfl k) ?_
      refine Go.st (fun _ k => XS.iconst X58.here hx rfl (hb hby d1_69) k) ?_
      obtain ⟨T65, h65, X65, e65, W65, V65, st65⟩ := Vec.istI X58 hx hZ e58 h61 (j := (0 : Int32)) (by decide) (by decide) (g := (mkF m 70 #[.val (.ref cl), .val (.int (1 : Int32)), .val (.ref b2), .val (.ref b35), .val (.int (0 : Int32)), .val (.int i1), sl1] [(.int (0 : Int32)), (.int (0 : Int32)), (.ref b2)])) rfl rfl (hb hby d1_70)
      have h66 : Vec Z h65 cl .int nn (ints KK) := h59.other W65 q5
      have h67 : Exa Z h65 b2 "[I" := h60.wr W65
      have h68 : Vec Z h65 b2 .int (1 : Int32) (ints (updF C1 0 (0 : Int32))) := V65
      have h69 : RV Z h65 b35 (1 : Int32) [(.ref b47)] := h62.other W65 (Ne.symm q39)
      have h70 : Exa Z h65 b47 "[I" := h63.wr W65
      have h71 : Vec Z h65 b47 .int l0 (ints (fun _ => (0 : Int32))) := h64.other W65 (Ne.symm q51)
      have K65 : Keep h0 h65 [] := K58.wr W65 (Or.inr szb2)
      have N65 := Fr.snoc X65 N58 Gb2
      refine Go.st st65 ?_
      show Go p e below s Q 3 6 (T65.setTop (mkF m 71 #[.val (.ref cl), .val (.int (1 : Int32)), .val (.ref b2), .val (.ref b35), .val (.int (0 : Int32)), .val (.int i1), sl1] []))
      refine Go.st (fun _ k => XS.iinc X65.here hx rfl (hb hby d1_71) rfl (l' := #[.val (.ref cl), .val (.int (1 : Int32)), .val (.ref b2), .val (.ref b35), .val (.int (1 : Int32)), .val (.int i1), sl1]) rfl k) ?_
      refine Go.st (fun _ k => XS.goto X65.here hx rfl (pc0 := 74) (pc' := 49) rfl (hb hby d1_74) (by decide) (by decide) k) ?_
      refine Go.st (fun _ k => XS.iload X65.here hx rfl (hb hby d1_49) rfl k) ?_
      refine Go.st (fun _ k => XS.aloadN X65.here hx rfl (hb hby d1_51) rfl rfl k) ?_
      refine Go.st (RV.len X65 hx hZ e65 h69 (g := (mkF m 52 #[.val (.ref cl), .val (.int (1 : Int32)), .val (.ref b2), .val (.ref b35), .val (.int (1 : Int32)), .val (.int i1), sl1] [(.ref b35), (.int (1 : Int32))])) rfl rfl (hb hby d1_52)) ?_
      show Go p e below s Q 3 6 (T65.setTop (mkF m 53 #[.val (.ref cl), .val (.int (1 : Int32)), .val (.ref b2), .val (.ref b35), .val (.int (1 : Int32)), .val (.int i1), sl1] [(.int (1 : Int32)), (.int (1 : Int32))]))
      refine Go.st (fun _ k => XS.icmpYes X65.here hx rfl (pc0 := 53) (pc' := 77) rfl (hb hby d1_53) rfl (flt (nltI liI_1 liI_1 (by decide))).2.1 (by decide) (by decide) k) ?_
      refine Go.st (fun _ k => XS.iconst X65.here hx rfl (hb hby d1_77) k) ?_
      refine Go.st (fun _ k => XS.istore X65.here hx rfl (hb hby d1_78) rfl (l' := #[.val (.ref cl), .val (.int (1 : Int32)), .val (.ref b2), .val (.ref b35), .val (.int (0 : Int32)), .val (.int i1), sl1]) rfl k) ?_
      show Go p e below s Q 3 6 (T65.setTop (mkF m 80 #[.val (.ref cl), .val (.int (1 : Int32)), .val (.ref b2), .val (.ref b35), .val (.int (0 : Int32)), .val (.int i1), sl1] []))
      have lp74 : ∀ (kg73 : Nat) (Tg73 : State) (hg73 : Heap) (Lgg73 : List Loc) (Xg73 : Stand p l e ({ frames := 0, cells := 3, slots := 6, locals := 0 } : Room) s m #[(.ref cl), (.int (1 : Int32))] below meth c Tg73 Lgg73 3 6) (eg73 : Tg73.heap = hg73) (Ng73 : Fr n0 Lgg73) (Kg73 : Keep h0 hg73 []) (i3 : Int32) (x5 : Int32) (C3 : Nat → Int32) (g0 : Nat → Int32) (hfg73_0 : Vec Z hg73 cl .int nn (ints KK)) (hfg73_1 : Vec Z hg73 b2 .int (1 : Int32) (ints C3)) (hfg73_2 : RV Z hg73 b35 (1 : Int32) [(.ref b47)]) (hfg73_3 : Vec Z hg73 b47 .int l0 (ints g0)) (hpg73_0 : 0 ≤ i3.toInt ∧ i3.toInt ≤ nn.toInt) (hpg73_1 : ∀ r : Nat, r < 1 → (C3 r).toInt = cnt KK i3.toInt.toNat r) (hpg73_2 : ∀ j : Nat, j < i3.toInt.toNat → (KK j).toInt = 0 → (g0 (cnt KK j 0).toNat).toInt = j), (nn.toInt - i3.toInt).toNat = kg73 → Go p e below s Q 3 6 (Tg73.setTop (mkF m 80 #[.val (.ref cl), .val (.int (1 : Int32)), .val (.ref b2), .val (.ref b35), .val (.int i3), .val (.int x5), sl1] [])) := by
        intro kg73
        induction kg73 using Nat.strongRecOn with
        | ind kg73 ihg73 =>
        intro Tg73 hg73 Lgg73 Xg73 eg73 Ng73 Kg73 i3 x5 C3 g0 hfg73_0 hfg73_1 hfg73_2 hfg73_3 hpg73_0 hpg73_1 hpg73_2 hkg73
        have f75 := rng32 i3
        have f76 := rng32 x5
        show Go p e below s Q 3 6 (Tg73.setTop (mkF m 80 #[.val (.ref cl), .val (.int (1 : Int32)), .val (.ref b2), .val (.ref b35), .val (.int i3), .val (.int x5), sl1] []))
        refine Go.st (fun _ k => XS.iload Xg73.here hx rfl (hb hby d1_80) rfl k) ?_
        refine Go.st (fun _ k => XS.aloadN Xg73.here hx rfl (hb hby d1_82) rfl rfl k) ?_
        refine Go.st (Vec.len Xg73 hx hZ eg73 hfg73_0 (g := (mkF m 83 #[.val (.ref cl), .val (.int (1 : Int32)), .val (.ref b2), .val (.ref b35), .val (.int i3), .val (.int x5), sl1] [(.ref cl), (.int i3)])) rfl rfl (hb hby d1_83)) ?_
        show Go p e below s Q 3 6 (Tg73.setTop (mkF m 84 #[.val (.ref cl), .val (.int (1 : Int32)), .val (.ref b2), .val (.ref b35), .val (.int i3), .val (.int x5), sl1] [(.int nn), (.int i3)]))
        by_cases c78 : i3.toInt < nn.toInt
        ·
          refine Go.st (fun _ k => XS.icmpNo Xg73.here hx rfl (hb hby d1_84) rfl (tlt (ltI rfl rfl c78)).2.1 k) ?_
          refine Go.st (fun _ k => XS.aloadN Xg73.here hx rfl (hb hby d1_87) rfl rfl k) ?_
          refine Go.st (fun _ k => XS.iload Xg73.here hx rfl (hb hby d1_88) rfl k) ?_
          have r80 : 0 ≤ i3.toInt := by omega
          have r81 : i3.toInt < nn.toInt := by omega
          refine Go.st (Vec.ildI Xg73 hx hZ eg73 hfg73_0 (j := i3) r80 r81 (g := (mkF m 90 #[.val (.ref cl), .val (.int (1 : Int32)), .val (.ref b2), .val (.ref b35), .val (.int i3), .val (.int x5), sl1] [(.int i3), (.ref cl)])) rfl rfl (hb hby d1_90)) ?_
          show Go p e below s Q 3 6 (Tg73.setTop (mkF m 91 #[.val (.ref cl), .val (.int (1 : Int32)), .val (.ref b2), .val (.ref b35), .val (.int i3), .val (.int x5), sl1] [(.int (KK i3.toInt.toNat))]))
          refine Go.st (fun _ k => XS.istore Xg73.here hx rfl (hb hby d1_91) rfl (l' := #[.val (.ref cl), .val (.int (1 : Int32)), .val (.ref b2), .val (.ref b35), .val (.int i3), .val (.int (KK i3.toInt.toNat)), sl1]) rfl k) ?_
          show Go p e below s Q 3 6 (Tg73.setTop (mkF m 93 #[.val (.ref cl), .val (.int (1 : Int32)), .val (.ref b2), .val (.ref b35), .val (.int i3), .val (.int (KK i3.toInt.toNat)), sl1] []))
          have f82 := rng32 (KK i3.toInt.toNat)
          generalize hv_v83 : (KK i3.toInt.toNat) = v83 at f82 ⊢
          have hKi : 0 ≤ v83.toInt ∧ v83.toInt < 1 := by have q := hKr i3.toInt.toNat (by omega); rw [hv_v83] at q; exact q
          have cs84 : v83.toInt = 0 := by omega
          ·
            have cs84' : v83 = (0 : Int32) := eqI cs84 liI_0 rfl
            subst cs84'
            have f85 := liI_0
            show Go p e below s Q 3 6 (Tg73.setTop (mkF m 93 #[.val (.ref cl), .val (.int (1 : Int32)), .val (.ref b2), .val (.ref b35), .val (.int i3), .val (.int (0 : Int32)), sl1] []))
            have hck : (C3 0).toInt = cnt KK i3.toInt.toNat 0 := hpg73_1 0 (by decide)
            have hcr := cnt_rng KK i3.toInt.toNat 0
            have hlt := cnt_lt KK (i := i3.toInt.toNat) (j := nn.toInt.toNat) (r := 0) (by omega) (by rw [hv_v83]; decide)
            refine Go.st (fun _ k => XS.aloadN Xg73.here hx rfl (hb hby d1_93) rfl rfl k) ?_
            refine Go.st (fun _ k => XS.iload Xg73.here hx rfl (hb hby d1_94) rfl k) ?_
            refine Go.st (RV.ild Xg73 hx hZ eg73 hfg73_2 (j := (0 : Int32)) (by decide) (by decide) (g := (mkF m 96 #[.val (.ref cl), .val (.int (1 : Int32)), .val (.ref b2), .val (.ref b35), .val (.int i3), .val (.int (0 : Int32)), sl1] [(.int (0 : Int32)), (.ref b35)])) rfl rfl (hb hby d1_96)) ?_
            show Go p e below s Q 3 6 (Tg73.setTop (mkF m 97 #[.val (.ref cl), .val (.int (1 : Int32)), .val (.ref b2), .val (.ref b35), .val (.int i3), .val (.int (0 : Int32)), sl1] [(.ref b47)]))
            refine Go.st (fun _ k => XS.aloadN Xg73.here hx rfl (hb hby d1_97) rfl rfl k) ?_
            refine Go.st (fun _ k => XS.iload Xg73.here hx rfl (hb hby d1_98) rfl k) ?_
            refine Go.st (fun _ k => XT.dup2 Xg73.here hx rfl (hb hby d1_100) rfl rfl rfl k) ?_
            refine Go.st (Vec.ildI Xg73 hx hZ eg73 hfg73_1 (j := (0 : Int32)) (by decide) (by decide) (g := (mkF m 101 #[.val (.ref cl), .val (.int (1 : Int32)), .val (.ref b2), .val (.ref b35), .val (.int i3), .val (.int (0 : Int32)), sl1] [(.int (0 : Int32)), (.ref b2), (.int (0 : Int32)), (.ref b2), (.ref b47)])) rfl rfl (hb hby d1_101)) ?_
            show Go p e below s Q 3 6 (Tg73.setTop (mkF m 102 #[.val (.ref cl), .val (.int (1 : Int32)), .val (.ref b2), .val (.ref b35), .val (.int i3), .val (.int (0 : Int32)), sl1] [(.int (C3 0)), (.int (0 : Int32)), (.ref b2), (.ref b47)]))
            refine Go.st (fun _ k => dupX2 Xg73.here hx rfl (hb hby d1_102) rfl rfl rfl rfl k) ?_
            refine Go.st (fun _ k => XS.iconst Xg73.here hx rfl (hb hby d1_103) k) ?_
            refine Go.st (fun _ k => XS.iadd Xg73.here hx rfl (hb hby d1_104) rfl k) ?_
            show Go p e below s Q 3 6 (Tg73.setTop (mkF m 105 #[.val (.ref cl), .val (.int (1 : Int32)), .val (.ref b2), .val (.ref b35), .val (.int i3), .val (.int (0 : Int32)), sl1] [(.int ((C3 0) + (1 : Int32))), (.int (0 : Int32)), (.ref b2), (.int (C3 0)), (.ref b47)]))
            have f88 := rng32 (C3 0)
            have f89 := c_iadd (C3 0) (1 : Int32)
            have f90 := rng32 ((C3 0) + (1 : Int32))
            obtain ⟨T91, h91, X91, e91, W91, V91, st91⟩ := Vec.istI Xg73 hx hZ eg73 hfg73_1 (j := (0 : Int32)) (by decide) (by decide) (g := (mkF m 105 #[.val (.ref cl), .val (.int (1 : Int32)), .val (.ref b2), .val (.ref b35), .val (.int i3), .val (.int (0 : Int32)), sl1] [(.int ((C3 0) + (1 : Int32))), (.int (0 : Int32)), (.ref b2), (.int (C3 0)), (.ref b47)])) rfl rfl (hb hby d1_105)
            have h92 : Vec Z h91 cl .int nn (ints KK) := hfg73_0.other W91 q5
            have h93 : Vec Z h91 b2 .int (1 : Int32) (ints (updF C3 0 ((C3 0) + (1 : Int32)))) := V91
            have h94 : RV Z h91 b35 (1 : Int32) [(.ref b47)] := hfg73_2.other W91 (Ne.symm q39)
            have h95 : Vec Z h91 b47 .int l0 (ints g0) := hfg73_3.other W91 (Ne.symm q51)
            have K91 : Keep h0 h91 [] := Kg73.wr W91 (Or.inr szb2)
            have N91 := Fr.snoc X91 Ng73 Gb2
            refine Go.st st91 ?_
            show Go p e below s Q 3 6 (T91.setTop (mkF m 106 #[.val (.ref cl), .val (.int (1 : Int32)), .val (.ref b2), .val (.ref b35), .val (.int i3), .val (.int (0 : Int32)), sl1] [(.int (C3 0)), (.ref b47)]))
            refine Go.st (fun _ k => XS.iload X91.here hx rfl (hb hby d1_106) rfl k) ?_
            have r97 : 0 ≤ (C3 0).toInt := by omega
            have r98 : (C3 0).toInt < l0.toInt := by omega
            obtain ⟨T96, h96, X96, e96, W96, V96, st96⟩ := Vec.istI X91 hx hZ e91 h95 (j := (C3 0)) r97 r98 (g := (mkF m 108 #[.val (.ref cl), .val (.int (1 : Int32)), .val (.ref b2), .val (.ref b35), .val (.int i3), .val (.int (0 : Int32)), sl1] [(.int i3), (.int (C3 0)), (.ref b47)])) rfl rfl (hb hby d1_108)
            have h99 : Vec Z h96 cl .int nn (ints KK) := h92.other W96 q50
            have h100 : Vec Z h96 b2 .int (1 : Int32) (ints (updF C3 0 ((C3 0) + (1 : Int32)))) := h93.other W96 q51
            have h101 : RV Z h96 b35 (1 : Int32) [(.ref b47)] := h94.other W96 q52
            have h102 : Vec Z h96 b47 .int l0 (ints (updF g0 (C3 0).toInt.toNat i3)) := V96
            have K96 : Keep h0 h96 [] := K91.wr W96 (Or.inr szb47)
            have N96 := Fr.snoc X96 N91 Gb47
            refine Go.st st96 ?_
            show Go p e below s Q 3 6 (T96.setTop (mkF m 109 #[.val (.ref cl), .val (.int (1 : Int32)), .val (.ref b2), .val (.ref b35), .val (.int i3), .val (.int (0 : Int32)), sl1] []))
            refine Go.st (fun _ k => XS.iinc X96.here hx rfl (hb hby d1_109) rfl (l' := #[.val (.ref cl), .val (.int (1 : Int32)), .val (.ref b2), .val (.ref b35), .val (.int (i3 + (1 : Int32))), .val (.int (0 : Int32)), sl1]) rfl k) ?_
            show Go p e below s Q 3 6 (T96.setTop (mkF m 112 #[.val (.ref cl), .val (.int (1 : Int32)), .val (.ref b2), .val (.ref b35), .val (.int (i3 + (1 : Int32))), .val (.int (0 : Int32)), sl1] []))
            have f103 := c_iadd i3 (1 : Int32)
            have f104 := rng32 (i3 + (1 : Int32))
            generalize hv_v105 : (i3 + (1 : Int32)) = v105 at f103 f104 ⊢
            refine Go.st (fun _ k => XS.goto X96.here hx rfl (pc0 := 112) (pc' := 80) rfl (hb hby d1_112) (by decide) (by decide) k) ?_
            show Go p e below s Q 3 6 (T96.setTop (mkF m 80 #[.val (.ref cl), .val (.int (1 : Int32)), .val (.ref b2), .val (.ref b35), .val (.int v105), .val (.int (0 : Int32)), sl1] []))
            exact ihg73 _ (by omega) T96 h96 _ (up X96 (by decide) (by decide)) e96 N96 K96 v105 (0 : Int32) (updF C3 0 ((C3 0) + (1 : Int32))) (updF g0 (C3 0).toInt.toNat i3) h99 h100 h101 h102 (by omega) (by exact cnt_upd (x := 0) hpg73_1 (by rw [hv_v83]; decide) (by omega) (by decide) (by omega)) (by exact G_upd hpg73_2 (by omega) (by omega) (by omega)) rfl
        ·
          refine Go.st (fun _ k => XS.icmpYes Xg73.here hx rfl (pc0 := 84) (pc' := 115) rfl (hb hby d1_84) rfl (flt (nltI rfl rfl c78)).2.1 (by decide) (by decide) k) ?_
          refine Go.st (fun _ k => XS.aloadN Xg73.here hx rfl (hb hby d1_115) rfl rfl k) ?_
          show Go p e below s Q 3 6 (Tg73.setTop (mkF m 116 #[.val (.ref cl), .val (.int (1 : Int32)), .val (.ref b2), .val (.ref b35), .val (.int i3), .val (.int x5), sl1] [(.ref b35)]))
          exact Go.retA Xg73 hx hlk rfl Bd.returns rfl (hb hby d1_116) (by rw [← hQ, eg73]; exact ⟨b35, b47, l0, g0, rfl, Ng73, (by exact hl0), (by exact (show i3.toInt.toNat = nn.toInt.toNat by omega) ▸ hpg73_2), Kg73, hfg73_2, hfg73_3⟩) (by decide) (by decide)
      have f106 := liI_0
      exact lp74 _ T65 h65 _ (up X65 (by decide) (by decide)) e65 N65 K65 (0 : Int32) i1 (updF C1 0 (0 : Int32)) (fun _ => (0 : Int32)) h66 h68 h69 h71 (by omega) (by intro r hr; rcases (by omega : r = 0) with rfl <;> rfl) (by intro j hj; exact absurd hj (Nat.not_lt_zero j)) rfl
  have f107 := rng32 nn
  have f108 := liI_0
  exact lp10 _ T2 h2 _ (up X2 (by decide) (by decide)) e2 N0 K2 (0 : Int32) (fun _ => (0 : Int32)) (.unset) h6 B2 h7 (by omega) (by intro r hr; rfl) One.u rfl
theorem liI_2 : (2 : Int32).toInt = 2 := by decide
theorem ef_rmc2 (m : MethodId) (cl : Addr) : entryFrame m #[(.ref cl), (.int (2 : Int32))] 7 = mkF m 0 #[.val (.ref cl), .val (.int (2 : Int32)), .unset, .unset, .unset, .unset, .unset] [] := by first | (simp [entryFrame, mkF, argsToLocals, Value.category]; done) | rfl
def Qc2 (Z : State) (cl : Addr) (nn : Int32) (KK : Nat → Int32) (h0 : Heap) (n0 : Nat) (vv : Option Value) (h : Heap) (LL : List Loc) : Prop := ∃ (res : Addr) (w0 : Addr) (l0 : Int32) (g0 : Nat → Int32) (w1 : Addr) (l1 : Int32) (g1 : Nat → Int32), vv = some (.ref res) ∧ Fr n0 LL ∧ (l0.toInt = cnt KK nn.toInt.toNat 0) ∧ (l1.toInt = cnt KK nn.toInt.toNat 1) ∧ (∀ j : Nat, j < nn.toInt.toNat → (KK j).toInt = 0 → (g0 (cnt KK j 0).toNat).toInt = j) ∧ (∀ j : Nat, j < nn.toInt.toNat → (KK j).toInt = 1 → (g1 (cnt KK j 1).toNat).toInt = j) ∧ Keep h0 h [] ∧ (RV Z h res (2 : Int32) [(.ref w0), (.ref w1)]) ∧ (Vec Z h w0 .int l0 (ints g0)) ∧ (Vec Z h w1 .int l1 (ints g1))
set_option maxRecDepth 65536 in
set_option maxHeartbeats 40000000 in
theorem rmc2 (l : Launch) (Z : State) (a0 : Array Value) (hw : ∀ d ∈ tables_1, d.before a0 Z = true) (ws : List Jvm.Cond) (cl : Addr) (nn : Int32) (KK : Nat → Int32) (h0 : Heap) (n0 : Nat) (Z0 : n0 ≤ h0.size) (hV : Vec Z h0 cl .int nn (ints KK)) (hn : 0 ≤ nn.toInt ∧ nn.toInt ≤ 4) (hKr : ∀ j : Nat, (j : Int) < nn.toInt → 0 ≤ (KK j).toInt ∧ (KK j).toInt < 2) :
    MetFree l (⟨"com/example/rackwise/rackwise/RackCosts", "clientsOfRacks", "([II)[[I"⟩ : MethodName) (head1 (Jvm.Cond.code (⟨"com/example/rackwise/rackwise/RackCosts", "clientsOfRacks", "([II)[[I"⟩ : MethodName) prog_99_method_9_code 7 (some (.array (.array .int))) :: ws) ({ frames := 0, cells := 4, slots := 12, locals := 0 } : Room)) (fun aa UU => aa = #[(.ref cl), (.int (2 : Int32))] ∧ Z.Warmed39 UU.vm ∧ UU.heap = h0) (fun _ _ _ _ _ => True) (fun _ UU oo UU' => ∃ vv LL, oo = .returned vv ∧ Qc2 Z cl nn KK h0 n0 vv UU'.heap LL ∧ FrameEnd UU oo UU' LL 4 12) := by
  refine MetFree.of_bodySF (plainFor_of_name pn_0) hisR ?_
  intro p e s m args below meth c s₁ Bd hml0 hP hK
  obtain ⟨rfl, hZ, hh⟩ := hP
  have hx := Bd.exec
  have hby := Bd.bytes
  have hlk : meth.locks = false := BodyLoose.notSynchronized Bd
  have hml : c.maxLocals = 7 := hml0
  have hown : s.vm.findClass "com/example/rackwise/rackwise/RackCosts" = some m.cls := findClass_of_methodNamed Bd.named
  have hnm := (name_of_methodNamed Bd.named Bd.method).1
  have X0 : Stand p l e ({ frames := 0, cells := 4, slots := 12, locals := 0 } : Room) s m #[(.ref cl), (.int (2 : Int32))] below meth c s₁ [] 0 0 := Stand.of_body Bd
  have e0 : s₁.heap = h0 := by rw [← hh, Bd.state]; rfl
  have N0 := Fr.nil n0
  have K0 : Keep h0 h0 [] := Keep.refl h0 _
  refine (?_ : Go p e below s (Qc2 Z cl nn KK h0 n0) 4 12 (s₁.setTop (entryFrame m #[(.ref cl), (.int (2 : Int32))] 7)))
  rw [ef_rmc2]
  generalize hQ : Qc2 Z cl nn KK h0 n0 = Q
  have hnn := rng32 nn
  show Go p e below s Q 4 12 (s₁.setTop (mkF m 0 #[.val (.ref cl), .val (.int (2 : Int32)), .unset, .unset, .unset, .unset, .unset] []))
  have f1 := liI_2
  refine Go.st (fun _ k => XS.iloadN X0.here hx rfl (hb hby d1_0) rfl k) ?_
  have r3 : 0 ≤ (2 : Int32).toInt := by decide
  have r4 : (2 : Int32).toNatClampNeg ≤ 2 := by decide
  obtain ⟨T2, h2, k2, X2, e2, E2, A2, B2, st2⟩ := newPE X0 hx hZ (hw _ (List.mem_of_getElem? (i := 1) rfl)) e0 (g := (mkF m 1 #[.val (.ref cl), .val (.int (2 : Int32)), .unset, .unset, .unset, .unset, .unset] [(.int (2 : Int32))])) rfl (hb hby d1_1) rfl (not_neg r3) (cap := 2) r4 (by decide) (by decide) (by decide) (ad := "[I") (by decide)
  obtain ⟨b2, g2⟩ : ∃ z, z = h0.size := ⟨_, rfl⟩
  rw [← g2] at A2 B2 st2
  have q5 : Hid (cl ≠ b2) := Nat.ne_of_lt (Nat.lt_of_lt_of_le hV.lt (Nat.le_of_eq g2.symm))
  have h6 : Vec Z h2 cl .int nn (ints KK) := hV.ext E2
  have Gb2 : Hid (n0 ≤ b2) := Nat.le_trans (Nat.le_trans Z0 K0.1) (Nat.le_of_eq g2.symm)
  have szb2 : Hid (h0.size ≤ b2) := Nat.le_trans K0.1 (Nat.le_of_eq g2.symm)
  have K2 : Keep h0 h2 [] := K0.ext E2
  have h7 : Vec Z h2 b2 .int (2 : Int32) (ints (fun _ => (0 : Int32))) := Vec.new A2 r3
  refine Go.st st2 ?_
  show Go p e below s Q 4 12 (T2.setTop (mkF m 3 #[.val (.ref cl), .val (.int (2 : Int32)), .unset, .unset, .unset, .unset, .unset] [(.ref b2)]))
  refine Go.st (fun _ k => XS.astoreN X2.here hx rfl (hb hby d1_3) rfl rfl (l' := #[.val (.ref cl), .val (.int (2 : Int32)), .val (.ref b2), .unset, .unset, .unset, .unset]) rfl k) ?_
  refine Go.st (fun _ k => XS.aloadN X2.here hx rfl (hb hby d1_4) rfl rfl k) ?_
  refine Go.st (fun _ k => XS.astoreN X2.here hx rfl (hb hby d1_5) rfl rfl (l' := #[.val (.ref cl), .val (.int (2 : Int32)), .val (.ref b2), .val (.ref cl), .unset, .unset, .unset]) rfl k) ?_
  refine Go.st (fun _ k => XS.aloadN X2.here hx rfl (hb hby d1_6) rfl rfl k) ?_
  refine Go.st (Vec.len X2 hx hZ e2 h6 (g := (mkF m 7 #[.val (.ref cl), .val (.int (2 : Int32)), .val (.ref b2), .val (.ref cl), .unset, .unset, .unset] [(.ref cl)])) rfl rfl (hb hby d1_7)) ?_
  show Go p e below s Q 4 12 (T2.setTop (mkF m 8 #[.val (.ref cl), .val (.int (2 : Int32)), .val (.ref b2), .val (.ref cl), .unset, .unset, .unset] [(.int nn)]))
  refine Go.st (fun _ k => XS.istore X2.here hx rfl (hb hby d1_8) rfl (l' := #[.val (.ref cl), .val (.int (2 : Int32)), .val (.ref b2), .val (.ref cl), .val (.int nn), .unset, .unset]) rfl k) ?_
  refine Go.st (fun _ k => XS.iconst X2.here hx rfl (hb hby d1_10) k) ?_
  refine Go.st (fun _ k => XS.istore X2.here hx rfl (hb hby d1_11) rfl (l' := #[.val (.ref cl), .val (.int (2 : Int32)), .val (.ref b2), .val (.ref cl), .val (.int nn), .val (.int (0 : Int32)), .unset]) rfl k) ?_
  show Go p e below s Q 4 12 (T2.setTop (mkF m 13 #[.val (.ref cl), .val (.int (2 : Int32)), .val (.ref b2), .val (.ref cl), .val (.int nn), .val (.int (0 : Int32)), .unset] []))
  have lp10 : ∀ (kg9 : Nat) (Tg9 : State) (hg9 : Heap) (Lgg9 : List Loc) (Xg9 : Stand p l e ({ frames := 0, cells := 4, slots := 12, locals := 0 } : Room) s m #[(.ref cl), (.int (2 : Int32))] below meth c Tg9 Lgg9 1 2) (eg9 : Tg9.heap = hg9) (Ng9 : Fr n0 Lgg9) (Kg9 : Keep h0 hg9 []) (i1 : Int32) (C1 : Nat → Int32) (sl1 : Slot) (hfg9_0 : Vec Z hg9 cl .int nn (ints KK)) (hfg9_1 : Exa Z hg9 b2 "[I") (hfg9_2 : Vec Z hg9 b2 .int (2 : Int32) (ints C1)) (hpg9_0 : 0 ≤ i1.toInt ∧ i1.toInt ≤ nn.toInt) (hpg9_1 : ∀ r : Nat, r < 2 → (C1 r).toInt = cnt KK i1.toInt.toNat r) (hpg9_2 : One sl1), (nn.toInt - i1.toInt).toNat = kg9 → Go p e below s Q 4 12 (Tg9.setTop (mkF m 13 #[.val (.ref cl), .val (.int (2 : Int32)), .val (.ref b2), .val (.ref cl), .val (.int nn), .val (.int i1), sl1] [])) := by
    intro kg9
    induction kg9 using Nat.strongRecOn with
    | ind kg9 ihg9 =>
    intro Tg9 hg9 Lgg9 Xg9 eg9 Ng9 Kg9 i1 C1 sl1 hfg9_0 hfg9_1 hfg9_2 hpg9_0 hpg9_1 hpg9_2 hkg9
    have f11 := rng32 i1
    show Go p e below s Q 4 12 (Tg9.setTop (mkF m 13 #[.val (.ref cl), .val (.int (2 : Int32)), .val (.ref b2), .val (.ref cl), .val (.int nn), .val (.int i1), sl1] []))
    refine Go.st (fun _ k => XS.iload Xg9.here hx rfl (hb hby d1_13) rfl k) ?_
    refine Go.st (fun _ k => XS.iload Xg9.here hx rfl (hb hby d1_15) rfl k) ?_
    have f12 := rng32 nn
    by_cases c13 : i1.toInt < nn.toInt
    ·
      refine Go.st (fun _ k => XS.icmpNo Xg9.here hx rfl (hb hby d1_17) rfl (tlt (ltI rfl rfl c13)).2.1 k) ?_
      refine Go.st (fun _ k => XS.aloadN Xg9.here hx rfl (hb hby d1_20) rfl rfl k) ?_
      refine Go.st (fun _ k => XS.iload Xg9.here hx rfl (hb hby d1_21) rfl k) ?_
      have r15 : 0 ≤ i1.toInt := by omega
      have r16 : i1.toInt < nn.toInt := by omega
      refine Go.st (Vec.ildI Xg9 hx hZ eg9 hfg9_0 (j := i1) r15 r16 (g := (mkF m 23 #[.val (.ref cl), .val (.int (2 : Int32)), .val (.ref b2), .val (.ref cl), .val (.int nn), .val (.int i1), sl1] [(.int i1), (.ref cl)])) rfl rfl (hb hby d1_23)) ?_
      show Go p e below s Q 4 12 (Tg9.setTop (mkF m 24 #[.val (.ref cl), .val (.int (2 : Int32)), .val (.ref b2), .val (.ref cl), .val (.int nn), .val (.int i1), sl1] [(.int (KK i1.toInt.toNat))]))
      refine Go.st (fun _ k => XS.istoreS Xg9.here hx rfl (hb hby d1_24) rfl rfl hpg9_2 k) ?_
      show Go p e below s Q 4 12 (Tg9.setTop (mkF m 26 #[.val (.ref cl), .val (.int (2 : Int32)), .val (.ref b2), .val (.ref cl), .val (.int nn), .val (.int i1), .val (.int (KK i1.toInt.toNat))] []))
      have f17 := rng32 (KK i1.toInt.toNat)
      generalize hv_v18 : (KK i1.toInt.toNat) = v18 at f17 ⊢
      have hKi : 0 ≤ v18.toInt ∧ v18.toInt < 2 := by have q := hKr i1.toInt.toNat (by omega); rw [hv_v18] at q; exact q
      have hck := hpg9_1 v18.toInt.toNat (by omega)
      have hcr := cnt_rng KK i1.toInt.toNat (v18.toInt.toNat : Nat)
      refine Go.st (fun _ k => XS.aloadN Xg9.here hx rfl (hb hby d1_26) rfl rfl k) ?_
      refine Go.st (fun _ k => XS.iload Xg9.here hx rfl (hb hby d1_27) rfl k) ?_
      refine Go.st (fun _ k => XT.dup2 Xg9.here hx rfl (hb hby d1_29) rfl rfl rfl k) ?_
      have r20 : 0 ≤ v18.toInt := by omega
      have r21 : v18.toInt < (2 : Int32).toInt := by omega
      refine Go.st (Vec.ildI Xg9 hx hZ eg9 hfg9_2 (j := v18) r20 r21 (g := (mkF m 30 #[.val (.ref cl), .val (.int (2 : Int32)), .val (.ref b2), .val (.ref cl), .val (.int nn), .val (.int i1), .val (.int v18)] [(.int v18), (.ref b2), (.int v18), (.ref b2)])) rfl rfl (hb hby d1_30)) ?_
      show Go p e below s Q 4 12 (Tg9.setTop (mkF m 31 #[.val (.ref cl), .val (.int (2 : Int32)), .val (.ref b2), .val (.ref cl), .val (.int nn), .val (.int i1), .val (.int v18)] [(.int (C1 v18.toInt.toNat)), (.int v18), (.ref b2)]))
      refine Go.st (fun _ k => XS.iconst Xg9.here hx rfl (hb hby d1_31) k) ?_
      refine Go.st (fun _ k => XS.iadd Xg9.here hx rfl (hb hby d1_32) rfl k) ?_
      show Go p e below s Q 4 12 (Tg9.setTop (mkF m 33 #[.val (.ref cl), .val (.int (2 : Int32)), .val (.ref b2), .val (.ref cl), .val (.int nn), .val (.int i1), .val (.int v18)] [(.int ((C1 v18.toInt.toNat) + (1 : Int32))), (.int v18), (.ref b2)]))
      have f22 := rng32 (C1 v18.toInt.toNat)
      have f23 := liI_1
      have f24 := c_iadd (C1 v18.toInt.toNat) (1 : Int32)
      have f25 := rng32 ((C1 v18.toInt.toNat) + (1 : Int32))
      have r27 : 0 ≤ v18.toInt := by omega
      have r28 : v18.toInt < (2 : Int32).toInt := by omega
      obtain ⟨T26, h26, X26, e26, W26, V26, st26⟩ := Vec.istI Xg9 hx hZ eg9 hfg9_2 (j := v18) r27 r28 (g := (mkF m 33 #[.val (.ref cl), .val (.int (2 : Int32)), .val (.ref b2), .val (.ref cl), .val (.int nn), .val (.int i1), .val (.int v18)] [(.int ((C1 v18.toInt.toNat) + (1 : Int32))), (.int v18), (.ref b2)])) rfl rfl (hb hby d1_33)
      have h29 : Vec Z h26 cl .int nn (ints KK) := hfg9_0.other W26 q5
      have h30 : Exa Z h26 b2 "[I" := hfg9_1.wr W26
      have h31 : Vec Z h26 b2 .int (2 : Int32) (ints (updF C1 v18.toInt.toNat ((C1 v18.toInt.toNat) + (1 : Int32)))) := V26
      have K26 : Keep h0 h26 [] := Kg9.wr W26 (Or.inr szb2)
      have N26 := Fr.snoc X26 Ng9 Gb2
      refine Go.st st26 ?_
      show Go p e below s Q 4 12 (T26.setTop (mkF m 34 #[.val (.ref cl), .val (.int (2 : Int32)), .val (.ref b2), .val (.ref cl), .val (.int nn), .val (.int i1), .val (.int v18)] []))
      refine Go.st (fun _ k => XS.iinc X26.here hx rfl (hb hby d1_34) rfl (l' := #[.val (.ref cl), .val (.int (2 : Int32)), .val (.ref b2), .val (.ref cl), .val (.int nn), .val (.int (i1 + (1 : Int32))), .val (.int v18)]) rfl k) ?_
      show Go p e below s Q 4 12 (T26.setTop (mkF m 37 #[.val (.ref cl), .val (.int (2 : Int32)), .val (.ref b2), .val (.ref cl), .val (.int nn), .val (.int (i1 + (1 : Int32))), .val (.int v18)] []))
      have f32 := c_iadd i1 (1 : Int32)
      have f33 := rng32 (i1 + (1 : Int32))
      generalize hv_v34 : (i1 + (1 : Int32)) = v34 at f32 f33 ⊢
      refine Go.st (fun _ k => XS.goto X26.here hx rfl (pc0 := 37) (pc' := 13) rfl (hb hby d1_37) (by decide) (by decide) k) ?_
      show Go p e below s Q 4 12 (T26.setTop (mkF m 13 #[.val (.ref cl), .val (.int (2 : Int32)), .val (.ref b2), .val (.ref cl), .val (.int nn), .val (.int v34), .val (.int v18)] []))
      exact ihg9 _ (by omega) T26 h26 _ (up X26 (by decide) (by decide)) e26 N26 K26 v34 (updF C1 v18.toInt.toNat ((C1 v18.toInt.toNat) + (1 : Int32))) (.val (.int v18)) h29 h30 h31 (by omega) (by exact cnt_upd hpg9_1 (by rw [hv_v18]; omega) (by omega) (by omega) (by omega)) (One.val rfl) rfl
    ·
      refine Go.st (fun _ k => XS.icmpYes Xg9.here hx rfl (pc0 := 17) (pc' := 40) rfl (hb hby d1_17) rfl (flt (nltI rfl rfl c13)).2.1 (by decide) (by decide) k) ?_
      show Go p e below s Q 4 12 (Tg9.setTop (mkF m 40 #[.val (.ref cl), .val (.int (2 : Int32)), .val (.ref b2), .val (.ref cl), .val (.int nn), .val (.int i1), sl1] []))
      have hin : i1.toInt.toNat = nn.toInt.toNat := by omega
      have hC := hpg9_1
      rw [hin] at hC
      have hcn0 := cnt_rng KK nn.toInt.toNat 0
      have hcn1 := cnt_rng KK nn.toInt.toNat 1
      refine Go.st (fun _ k => XS.aloadN Xg9.here hx rfl (hb hby d1_40) rfl rfl k) ?_
      refine Go.st (Vec.len Xg9 hx hZ eg9 hfg9_2 (g := (mkF m 41 #[.val (.ref cl), .val (.int (2 : Int32)), .val (.ref b2), .val (.ref cl), .val (.int nn), .val (.int i1), sl1] [(.ref b2)])) rfl rfl (hb hby d1_41)) ?_
      show Go p e below s Q 4 12 (Tg9.setTop (mkF m 42 #[.val (.ref cl), .val (.int (2 : Int32)), .val (.ref b2), .val (.ref cl), .val (.int nn), .val (.int i1), sl1] [(.int (2 : Int32))]))
      have r37 : 0 ≤ (2 : Int32).toInt := by decide
      have r38 : (2 : Int32).toNatClampNeg ≤ 2 := by decide
      obtain ⟨T36, h36, k36, X36, e36, E36, A36, B36, O36, st36⟩ := newRA Xg9 hx hZ hown (C := "[I") (ty := .int) (by decide) (hw _ (List.mem_of_getElem? (i := 6) rfl)) (hw _ (List.mem_of_getElem? (i := 7) rfl)) eg9 (g := (mkF m 42 #[.val (.ref cl), .val (.int (2 : Int32)), .val (.ref b2), .val (.ref cl), .val (.int nn), .val (.int i1), sl1] [(.int (2 : Int32))])) rfl (hb hby d1_42) rfl (not_neg r37) (cap := 2) r38 (by decide) (by decide) (by decide) (ad := "[[I") (by decide)
      obtain ⟨b36, g36⟩ : ∃ z, z = hg9.size := ⟨_, rfl⟩
      rw [← g36] at A36 B36 st36
      have q39 : Hid (cl ≠ b36) := Nat.ne_of_lt (Nat.lt_of_lt_of_le hfg9_0.lt (Nat.le_of_eq g36.symm))
      have q40 : Hid (b2 ≠ b36) := Nat.ne_of_lt (Nat.lt_of_lt_of_le hfg9_1.lt (Nat.le_of_eq g36.symm))
      have h41 : Vec Z h36 cl .int nn (ints KK) := hfg9_0.ext E36
      have h42 : Exa Z h36 b2 "[I" := hfg9_1.ext E36
      have h43 : Vec Z h36 b2 .int (2 : Int32) (ints C1) := hfg9_2.ext E36
      have Gb36 : Hid (n0 ≤ b36) := Nat.le_trans (Nat.le_trans Z0 Kg9.1) (Nat.le_of_eq g36.symm)
      have szb36 : Hid (h0.size ≤ b36) := Nat.le_trans Kg9.1 (Nat.le_of_eq g36.symm)
      have K36 : Keep h0 h36 [] := Kg9.ext E36
      have h44 : RV Z h36 b36 (2 : Int32) [.null, .null] := RV.new 2 A36 O36 r37
      refine Go.st st36 ?_
      show Go p e below s Q 4 12 (T36.setTop (mkF m 45 #[.val (.ref cl), .val (.int (2 : Int32)), .val (.ref b2), .val (.ref cl), .val (.int nn), .val (.int i1), sl1] [(.ref b36)]))
      refine Go.st (fun _ k => XS.astoreN X36.here hx rfl (hb hby d1_45) rfl rfl (l' := #[.val (.ref cl), .val (.int (2 : Int32)), .val (.ref b2), .val (.ref b36), .val (.int nn), .val (.int i1), sl1]) rfl k) ?_
      refine Go.st (fun _ k => XS.iconst X36.here hx rfl (hb hby d1_46) k) ?_
      refine Go.st (fun _ k => XS.istore X36.here hx rfl (hb hby d1_47) rfl (l' := #[.val (.ref cl), .val (.int (2 : Int32)), .val (.ref b2), .val (.ref b36), .val (.int (0 : Int32)), .val (.int i1), sl1]) rfl k) ?_
      refine Go.st (fun _ k => XS.iload X36.here hx rfl (hb hby d1_49) rfl k) ?_
      refine Go.st (fun _ k => XS.aloadN X36.here hx rfl (hb hby d1_51) rfl rfl k) ?_
      refine Go.st (RV.len X36 hx hZ e36 h44 (g := (mkF m 52 #[.val (.ref cl), .val (.int (2 : Int32)), .val (.ref b2), .val (.ref b36), .val (.int (0 : Int32)), .val (.int i1), sl1] [(.ref b36), (.int (0 : Int32))])) rfl rfl (hb hby d1_52)) ?_
      show Go p e below s Q 4 12 (T36.setTop (mkF m 53 #[.val (.ref cl), .val (.int (2 : Int32)), .val (.ref b2), .val (.ref b36), .val (.int (0 : Int32)), .val (.int i1), sl1] [(.int (2 : Int32)), (.int (0 : Int32))]))
      refine Go.st (fun _ k => XS.icmpNo X36.here hx rfl (hb hby d1_53) rfl (tlt (ltI liI_0 liI_2 (by decide))).2.1 k) ?_
      refine Go.st (fun _ k => XS.aloadN X36.here hx rfl (hb hby d1_56) rfl rfl k) ?_
      refine Go.st (fun _ k => XS.iload X36.here hx rfl (hb hby d1_57) rfl k) ?_
      refine Go.st (fun _ k => XS.aloadN X36.here hx rfl (hb hby d1_59) rfl rfl k) ?_
      refine Go.st (fun _ k => XS.iload X36.here hx rfl (hb hby d1_60) rfl k) ?_
      refine Go.st (Vec.ildI X36 hx hZ e36 h43 (j := (0 : Int32)) (by decide) (by decide) (g := (mkF m 62 #[.val (.ref cl), .val (.int (2 : Int32)), .val (.ref b2), .val (.ref b36), .val (.int (0 : Int32)), .val (.int i1), sl1] [(.int (0 : Int32)), (.ref b2), (.int (0 : Int32)), (.ref b36)])) rfl rfl (hb hby d1_62)) ?_
      show Go p e below s Q 4 12 (T36.setTop (mkF m 63 #[.val (.ref cl), .val (.int (2 : Int32)), .val (.ref b2), .val (.ref b36), .val (.int (0 : Int32)), .val (.int i1), sl1] [(.int (C1 0)), (.int (0 : Int32)), (.ref b36)]))
      have f47 := rng32 (C1 0)
      generalize hv_l0 : (C1 0) = l0 at f47 ⊢
      have hl0 : l0.toInt = cnt KK nn.toInt.toNat 0 := by rw [← hv_l0]; exact hC 0 (by decide)
      have r49 : 0 ≤ l0.toInt := by omega
      have r50 : l0.toNatClampNeg ≤ 4 := by rw [nat_cl]; omega
      obtain ⟨T48, h48, k48, X48, e48, E48, A48, B48, st48⟩ := newPE X36 hx hZ (hw _ (List.mem_of_getElem? (i := 1) rfl)) e36 (g := (mkF m 63 #[.val (.ref cl), .val (.int (2 : Int32)), .val (.ref b2), .val (.ref b36), .val (.int (0 : Int32)), .val (.int i1), sl1] [(.int l0), (.int (0 : Int32)), (.ref b36)])) rfl (hb hby d1_63) rfl (not_neg r49) (cap := 4) r50 (by decide) (by decide) (by decide) (ad := "[I") (by decide)
      obtain ⟨b48, g48⟩ : ∃ z, z = h36.size := ⟨_, rfl⟩
      rw [← g48] at A48 B48 st48
      have q51 : Hid (cl ≠ b48) := Nat.ne_of_lt (Nat.lt_of_lt_of_le h41.lt (Nat.le_of_eq g48.symm))
      have q52 : Hid (b2 ≠ b48) := Nat.ne_of_lt (Nat.lt_of_lt_of_le h42.lt (Nat.le_of_eq g48.symm))
      have q53 : Hid (b36 ≠ b48) := Nat.ne_of_lt (Nat.lt_of_lt_of_le h44.lt (Nat.le_of_eq g48.symm))
      have h54 : Vec Z h48 cl .int nn (ints KK) := h41.ext E48
      have h55 : Exa Z h48 b2 "[I" := h42.ext E48
      have h56 : Vec Z h48 b2 .int (2 : Int32) (ints C1) := h43.ext E48
      have h57 : RV Z h48 b36 (2 : Int32) [.null, .null] := h44.ext E48
      have Gb48 : Hid (n0 ≤ b48) := Nat.le_trans (Nat.le_trans Z0 K36.1) (Nat.le_of_eq g48.symm)
      have szb48 : Hid (h0.size ≤ b48) := Nat.le_trans K36.1 (Nat.le_of_eq g48.symm)
      have K48 : Keep h0 h48 [] := K36.ext E48
      have h58 : Vec Z h48 b48 .int l0 (ints (fun _ => (0 : Int32))) := Vec.new A48 r49
      refine Go.st st48 ?_
      show Go p e below s Q 4 12 (T48.setTop (mkF m 65 #[.val (.ref cl), .val (.int (2 : Int32)), .val (.ref b2), .val (.ref b36), .val (.int (0 : Int32)), .val (.int i1), sl1] [(.ref b48), (.int (0 : Int32)), (.ref b36)]))
      obtain ⟨T59, h59, X59, e59, W59, V59, st59⟩ := RV.ist X48 hx hZ e48 h57 (Ins.self B48) (j := (0 : Int32)) (by decide) ⟨by decide, (by show 0 < 2; decide)⟩ (g := (mkF m 65 #[.val (.ref cl), .val (.int (2 : Int32)), .val (.ref b2), .val (.ref b36), .val (.int (0 : Int32)), .val (.int i1), sl1] [(.ref b48), (.int (0 : Int32)), (.ref b36)])) rfl rfl (hb hby d1_65)
      have h60 : Vec Z h59 cl .int nn (ints KK) := h54.other W59 q39
      have h61 : Exa Z h59 b2 "[I" := h55.wr W59
      have h62 : Vec Z h59 b2 .int (2 : Int32) (ints C1) := h56.other W59 q40
      have h63 : RV Z h59 b36 (2 : Int32) [(.ref b48), .null] := V59
      have h64 : Exa Z h59 b48 "[I" := B48.wr W59
      have h65 : Vec Z h59 b48 .int l0 (ints (fun _ => (0 : Int32))) := h58.other W59 (Ne.symm q53)
      have K59 : Keep h0 h59 [] := K48.wr W59 (Or.inr szb36)
      have N59 := Fr.snoc X59 Ng9 Gb36
      refine Go.st st59 ?_
      show Go p e below s Q 4 12 (T59.setTop (mkF m 66 #[.val (.ref cl), .val (.int (2 : Int32)), .val (.ref b2), .val (.ref b36), .val (.int (0 : Int32)), .val (.int i1), sl1] []))
      refine Go.st (fun _ k => XS.aloadN X59.here hx rfl (hb hby d1_66) rfl rfl k) ?_
      refine Go.st (fun _ k => XS.iload X59.here hx rfl (hb hby d1_67) rfl k) ?_
      refine Go.st (fun _ k => XS.iconst X59.here hx rfl (hb hby d1_69) k) ?_
      obtain ⟨T66, h66, X66, e66, W66, V66, st66⟩ := Vec.istI X59 hx hZ e59 h62 (j := (0 : Int32)) (by decide) (by decide) (g := (mkF m 70 #[.val (.ref cl), .val (.int (2 : Int32)), .val (.ref b2), .val (.ref b36), .val (.int (0 : Int32)), .val (.int i1), sl1] [(.int (0 : Int32)), (.int (0 : Int32)), (.ref b2)])) rfl rfl (hb hby d1_70)
      have h67 : Vec Z h66 cl .int nn (ints KK) := h60.other W66 q5
      have h68 : Exa Z h66 b2 "[I" := h61.wr W66
      have h69 : Vec Z h66 b2 .int (2 : Int32) (ints (updF C1 0 (0 : Int32))) := V66
      have h70 : RV Z h66 b36 (2 : Int32) [(.ref b48), .null] := h63.other W66 (Ne.symm q40)
      have h71 : Exa Z h66 b48 "[I" := h64.wr W66
      have h72 : Vec Z h66 b48 .int l0 (ints (fun _ => (0 : Int32))) := h65.other W66 (Ne.symm q52)
      have K66 : Keep h0 h66 [] := K59.wr W66 (Or.inr szb2)
      have N66 := Fr.snoc X66 N59 Gb2
      refine Go.st st66 ?_
      show Go p e below s Q 4 12 (T66.setTop (mkF m 71 #[.val (.ref cl), .val (.int (2 : Int32)), .val (.ref b2), .val (.ref b36), .val (.int (0 : Int32)), .val (.int i1), sl1] []))
      refine Go.st (fun _ k => XS.iinc X66.here hx rfl (hb hby d1_71) rfl (l' := #[.val (.ref cl), .val (.int (2 : Int32)), .val (.ref b2), .val (.ref b36), .val (.int (1 : Int32)), .val (.int i1), sl1]) rfl k) ?_
      refine Go.st (fun _ k => XS.goto X66.here hx rfl (pc0 := 74) (pc' := 49) rfl (hb hby d1_74) (by decide) (by decide) k) ?_
      refine Go.st (fun _ k => XS.iload X66.here hx rfl (hb hby d1_49) rfl k) ?_
      refine Go.st (fun _ k => XS.aloadN X66.here hx rfl (hb hby d1_51) rfl rfl k) ?_
      refine Go.st (RV.len X66 hx hZ e66 h70 (g := (mkF m 52 #[.val (.ref cl), .val (.int (2 : Int32)), .val (.ref b2), .val (.ref b36), .val (.int (1 : Int32)), .val (.int i1), sl1] [(.ref b36), (.int (1 : Int32))])) rfl rfl (hb hby d1_52)) ?_
      show Go p e below s Q 4 12 (T66.setTop (mkF m 53 #[.val (.ref cl), .val (.int (2 : Int32)), .val (.ref b2), .val (.ref b36), .val (.int (1 : Int32)), .val (.int i1), sl1] [(.int (2 : Int32)), (.int (1 : Int32))]))
      refine Go.st (fun _ k => XS.icmpNo X66.here hx rfl (hb hby d1_53) rfl (tlt (ltI liI_1 liI_2 (by decide))).2.1 k) ?_
      refine Go.st (fun _ k => XS.aloadN X66.here hx rfl (hb hby d1_56) rfl rfl k) ?_
      refine Go.st (fun _ k => XS.iload X66.here hx rfl (hb hby d1_57) rfl k) ?_
      refine Go.st (fun _ k => XS.aloadN X66.here hx rfl (hb hby d1_59) rfl rfl k) ?_
      refine Go.st (fun _ k => XS.iload X66.here hx rfl (hb hby d1_60) rfl k) ?_
      refine Go.st (Vec.ildI X66 hx hZ e66 h69 (j := (1 : Int32)) (by decide) (by decide) (g := (mkF m 62 #[.val (.ref cl), .val (.int (2 : Int32)), .val (.ref b2), .val (.ref b36), .val (.int (1 : Int32)), .val (.int i1), sl1] [(.int (1 : Int32)), (.ref b2), (.int (1 : Int32)), (.ref b36)])) rfl rfl (hb hby d1_62)) ?_
      show Go p e below s Q 4 12 (T66.setTop (mkF m 63 #[.val (.ref cl), .val (.int (2 : Int32)), .val (.ref b2), .val (.ref b36), .val (.int (1 : Int32)), .val (.int i1), sl1] [(.int ((updF C1 0 (0 : Int32)) 1)), (.int (1 : Int32)), (.ref b36)]))
      have f75 := rng32 ((updF C1 0 (0 : Int32)) 1)
      generalize hv_l1 : ((updF C1 0 (0 : Int32)) 1) = l1 at f75 ⊢
      have hl1 : l1.toInt = cnt KK nn.toInt.toNat 1 := by rw [← hv_l1]; exact hC 1 (by decide)
      have r77 : 0 ≤ l1.toInt := by omega
      have r78 : l1.toNatClampNeg ≤ 4 := by rw [nat_cl]; omega
      obtain ⟨T76, h76, k76, X76, e76, E76, A76, B76, st76⟩ := newPE X66 hx hZ (hw _ (List.mem_of_getElem? (i := 1) rfl)) e66 (g := (mkF m 63 #[.val (.ref cl), .val (.int (2 : Int32)), .val (.ref b2), .val (.ref b36), .val (.int (1 : Int32)), .val (.int i1), sl1] [(.int l1), (.int (1 : Int32)), (.ref b36)])) rfl (hb hby d1_63) rfl (not_neg r77) (cap := 4) r78 (by decide) (by decide) (by decide) (ad := "[I") (by decide)
      obtain ⟨b76, g76⟩ : ∃ z, z = h66.size := ⟨_, rfl⟩
      rw [← g76] at A76 B76 st76
      have q79 : Hid (cl ≠ b76) := Nat.ne_of_lt (Nat.lt_of_lt_of_le h67.lt (Nat.le_of_eq g76.symm))
      have q80 : Hid (b2 ≠ b76) := Nat.ne_of_lt (Nat.lt_of_lt_of_le h68.lt (Nat.le_of_eq g76.symm))
      have q81 : Hid (b36 ≠ b76) := Nat.ne_of_lt (Nat.lt_of_lt_of_le h70.lt (Nat.le_of_eq g76.symm))
      have q82 : Hid (b48 ≠ b76) := Nat.ne_of_lt (Nat.lt_of_lt_of_le h71.lt (Nat.le_of_eq g76.symm))
      have h83 : Vec Z h76 cl .int nn (ints KK) := h67.ext E76
      have h84 : Exa Z h76 b2 "[I" := h68.ext E76
      have h85 : Vec Z h76 b2 .int (2 : Int32) (ints (updF C1 0 (0 : Int32))) := h69.ext E76
      have h86 : RV Z h76 b36 (2 : Int32) [(.ref b48), .null] := h70.ext E76
      have h87 : Exa Z h76 b48 "[I" := h71.ext E76
      have h88 : Vec Z h76 b48 .int l0 (ints (fun _ => (0 : Int32))) := h72.ext E76
      have Gb76 : Hid (n0 ≤ b76) := Nat.le_trans (Nat.le_trans Z0 K66.1) (Nat.le_of_eq g76.symm)
      have szb76 : Hid (h0.size ≤ b76) := Nat.le_trans K66.1 (Nat.le_of_eq g76.symm)
      have K76 : Keep h0 h76 [] := K66.ext E76
      have h89 : Vec Z h76 b76 .int l1 (ints (fun _ => (0 : Int32))) := Vec.new A76 r77
      refine Go.st st76 ?_
      show Go p e below s Q 4 12 (T76.setTop (mkF m 65 #[.val (.ref cl), .val (.int (2 : Int32)), .val (.ref b2), .val (.ref b36), .val (.int (1 : Int32)), .val (.int i1), sl1] [(.ref b76), (.int (1 : Int32)), (.ref b36)]))
      obtain ⟨T90, h90, X90, e90, W90, V90, st90⟩ := RV.ist X76 hx hZ e76 h86 (Ins.self B76) (j := (1 : Int32)) (by decide) ⟨by decide, (by show 1 < 2; decide)⟩ (g := (mkF m 65 #[.val (.ref cl), .val (.int (2 : Int32)), .val (.ref b2), .val (.ref b36), .val (.int (1 : Int32)), .val (.int i1), sl1] [(.ref b76), (.int (1 : Int32)), (.ref b36)])) rfl rfl (hb hby d1_65)
      have h91 : Vec Z h90 cl .int nn (ints KK) := h83.other W90 q39
      have h92 : Exa Z h90 b2 "[I" := h84.wr W90
      have h93 : Vec Z h90 b2 .int (2 : Int32) (ints (updF C1 0 (0 : Int32))) := h85.other W90 q40
      have h94 : RV Z h90 b36 (2 : Int32) [(.ref b48), (.ref b76)] := V90
      have h95 : Exa Z h90 b48 "[I" := h87.wr W90
      have h96 : Vec Z h90 b48 .int l0 (ints (fun _ => (0 : Int32))) := h88.other W90 (Ne.symm q53)
      have h97 : Exa Z h90 b76 "[I" := B76.wr W90
      have h98 : Vec Z h90 b76 .int l1 (ints (fun _ => (0 : Int32))) := h89.other W90 (Ne.symm q81)
      have K90 : Keep h0 h90 [] := K76.wr W90 (Or.inr szb36)
      have N90 := Fr.snoc X90 N66 Gb36
      refine Go.st st90 ?_
      show Go p e below s Q 4 12 (T90.setTop (mkF m 66 #[.val (.ref cl), .val (.int (2 : Int32)), .val (.ref b2), .val (.ref b36), .val (.int (1 : Int32)), .val (.int i1), sl1] []))
      refine Go.st (fun _ k => XS.aloadN X90.here hx rfl (hb hby d1_66) rfl rfl k) ?_
      refine Go.st (fun _ k => XS.iload X90.here hx rfl (hb hby d1_67) rfl k) ?_
      refine Go.st (fun _ k => XS.iconst X90.here hx rfl (hb hby d1_69) k) ?_
      obtain ⟨T99, h99, X99, e99, W99, V99, st99⟩ := Vec.istI X90 hx hZ e90 h93 (j := (1 : Int32)) (by decide) (by decide) (g := (mkF m 70 #[.val (.ref cl), .val (.int (2 : Int32)), .val (.ref b2), .val (.ref b36), .val (.int (1 : Int32)), .val (.int i1), sl1] [(.int (0 : Int32)), (.int (1 : Int32)), (.ref b2)])) rfl rfl (hb hby d1_70)
      have h100 : Vec Z h99 cl .int nn (ints KK) := h91.other W99 q5
      have h101 : Exa Z h99 b2 "[I" := h92.wr W99
      have h102 : Vec Z h99 b2 .int (2 : Int32) (ints (updF (updF C1 0 (0 : Int32)) 1 (0 : Int32))) := V99
      have h103 : RV Z h99 b36 (2 : Int32) [(.ref b48), (.ref b76)] := h94.other W99 (Ne.symm q40)
      have h104 : Exa Z h99 b48 "[I" := h95.wr W99
      have h105 : Vec Z h99 b48 .int l0 (ints (fun _ => (0 : Int32))) := h96.other W99 (Ne.symm q52)
      have h106 : Exa Z h99 b76 "[I" := h97.wr W99
      have h107 : Vec Z h99 b76 .int l1 (ints (fun _ => (0 : Int32))) := h98.other W99 (Ne.symm q80)
      have K99 : Keep h0 h99 [] := K90.wr W99 (Or.inr szb2)
      have N99 := Fr.snoc X99 N90 Gb2
      refine Go.st st99 ?_
      show Go p e below s Q 4 12 (T99.setTop (mkF m 71 #[.val (.ref cl), .val (.int (2 : Int32)), .val (.ref b2), .val (.ref b36), .val (.int (1 : Int32)), .val (.int i1), sl1] []))
      refine Go.st (fun _ k => XS.iinc X99.here hx rfl (hb hby d1_71) rfl (l' := #[.val (.ref cl), .val (.int (2 : Int32)), .val (.ref b2), .val (.ref b36), .val (.int (2 : Int32)), .val (.int i1), sl1]) rfl k) ?_
      refine Go.st (fun _ k => XS.goto X99.here hx rfl (pc0 := 74) (pc' := 49) rfl (hb hby d1_74) (by decide) (by decide) k) ?_
      refine Go.st (fun _ k => XS.iload X99.here hx rfl (hb hby d1_49) rfl k) ?_
      refine Go.st (fun _ k => XS.aloadN X99.here hx rfl (hb hby d1_51) rfl rfl k) ?_
      refine Go.st (RV.len X99 hx hZ e99 h103 (g := (mkF m 52 #[.val (.ref cl), .val (.int (2 : Int32)), .val (.ref b2), .val (.ref b36), .val (.int (2 : Int32)), .val (.int i1), sl1] [(.ref b36), (.int (2 : Int32))])) rfl rfl (hb hby d1_52)) ?_
      show Go p e below s Q 4 12 (T99.setTop (mkF m 53 #[.val (.ref cl), .val (.int (2 : Int32)), .val (.ref b2), .val (.ref b36), .val (.int (2 : Int32)), .val (.int i1), sl1] [(.int (2 : Int32)), (.int (2 : Int32))]))
      refine Go.st (fun _ k => XS.icmpYes X99.here hx rfl (pc0 := 53) (pc' := 77) rfl (hb hby d1_53) rfl (flt (nltI liI_2 liI_2 (by decide))).2.1 (by decide) (by decide) k) ?_
      refine Go.st (fun _ k => XS.iconst X99.here hx rfl (hb hby d1_77) k) ?_
      refine Go.st (fun _ k => XS.istore X99.here hx rfl (hb hby d1_78) rfl (l' := #[.val (.ref cl), .val (.int (2 : Int32)), .val (.ref b2), .val (.ref b36), .val (.int (0 : Int32)), .val (.int i1), sl1]) rfl k) ?_
      show Go p e below s Q 4 12 (T99.setTop (mkF m 80 #[.val (.ref cl), .val (.int (2 : Int32)), .val (.ref b2), .val (.ref b36), .val (.int (0 : Int32)), .val (.int i1), sl1] []))
      have lp110 : ∀ (kg109 : Nat) (Tg109 : State) (hg109 : Heap) (Lgg109 : List Loc) (Xg109 : Stand p l e ({ frames := 0, cells := 4, slots := 12, locals := 0 } : Room) s m #[(.ref cl), (.int (2 : Int32))] below meth c Tg109 Lgg109 4 12) (eg109 : Tg109.heap = hg109) (Ng109 : Fr n0 Lgg109) (Kg109 : Keep h0 hg109 []) (i3 : Int32) (x5 : Int32) (C3 : Nat → Int32) (g0 : Nat → Int32) (g1 : Nat → Int32) (hfg109_0 : Vec Z hg109 cl .int nn (ints KK)) (hfg109_1 : Vec Z hg109 b2 .int (2 : Int32) (ints C3)) (hfg109_2 : RV Z hg109 b36 (2 : Int32) [(.ref b48), (.ref b76)]) (hfg109_3 : Vec Z hg109 b48 .int l0 (ints g0)) (hfg109_4 : Vec Z hg109 b76 .int l1 (ints g1)) (hpg109_0 : 0 ≤ i3.toInt ∧ i3.toInt ≤ nn.toInt) (hpg109_1 : ∀ r : Nat, r < 2 → (C3 r).toInt = cnt KK i3.toInt.toNat r) (hpg109_2 : ∀ j : Nat, j < i3.toInt.toNat → (KK j).toInt = 0 → (g0 (cnt KK j 0).toNat).toInt = j) (hpg109_3 : ∀ j : Nat, j < i3.toInt.toNat → (KK j).toInt = 1 → (g1 (cnt KK j 1).toNat).toInt = j), (nn.toInt - i3.toInt).toNat = kg109 → Go p e below s Q 4 12 (Tg109.setTop (mkF m 80 #[.val (.ref cl), .val (.int (2 : Int32)), .val (.ref b2), .val (.ref b36), .val (.int i3), .val (.int x5), sl1] [])) := by
        intro kg109
        induction kg109 using Nat.strongRecOn with
        | ind kg109 ihg109 =>
        intro Tg109 hg109 Lgg109 Xg109 eg109 Ng109 Kg109 i3 x5 C3 g0 g1 hfg109_0 hfg109_1 hfg109_2 hfg109_3 hfg109_4 hpg109_0 hpg109_1 hpg109_2 hpg109_3 hkg109
        have f111 := rng32 i3
        have f112 := rng32 x5
        show Go p e below s Q 4 12 (Tg109.setTop (mkF m 80 #[.val (.ref cl), .val (.int (2 : Int32)), .val (.ref b2), .val (.ref b36), .val (.int i3), .val (.int x5), sl1] []))
        refine Go.st (fun _ k => XS.iload Xg109.here hx rfl (hb hby d1_80) rfl k) ?_
        refine Go.st (fun _ k => XS.aloadN Xg109.here hx rfl (hb hby d1_82) rfl rfl k) ?_
        refine Go.st (Vec.len Xg109 hx hZ eg109 hfg109_0 (g := (mkF m 83 #[.val (.ref cl), .val (.int (2 : Int32)), .val (.ref b2), .val (.ref b36), .val (.int i3), .val (.int x5), sl1] [(.ref cl), (.int i3)])) rfl rfl (hb hby d1_83)) ?_
        show Go p e below s Q 4 12 (Tg109.setTop (mkF m 84 #[.val (.ref cl), .val (.int (2 : Int32)), .val (.ref b2), .val (.ref b36), .val (.int i3), .val (.int x5), sl1] [(.int nn), (.int i3)]))
        by_cases c114 : i3.toInt < nn.toInt
        ·
          refine Go.st (fun _ k => XS.icmpNo Xg109.here hx rfl (hb hby d1_84) rfl (tlt (ltI rfl rfl c114)).2.1 k) ?_
          refine Go.st (fun _ k => XS.aloadN Xg109.here hx rfl (hb hby d1_87) rfl rfl k) ?_
          refine Go.st (fun _ k => XS.iload Xg109.here hx rfl (hb hby d1_88) rfl k) ?_
          have r116 : 0 ≤ i3.toInt := by omega
          have r117 : i3.toInt < nn.toInt := by omega
          refine Go.st (Vec.ildI Xg109 hx hZ eg109 hfg109_0 (j := i3) r116 r117 (g := (mkF m 90 #[.val (.ref cl), .val (.int (2 : Int32)), .val (.ref b2), .val (.ref b36), .val (.int i3), .val (.int x5), sl1] [(.int i3), (.ref cl)])) rfl rfl (hb hby d1_90)) ?_
          show Go p e below s Q 4 12 (Tg109.setTop (mkF m 91 #[.val (.ref cl), .val (.int (2 : Int32)), .val (.ref b2), .val (.ref b36), .val (.int i3), .val (.int x5), sl1] [(.int (KK i3.toInt.toNat))]))
          refine Go.st (fun _ k => XS.istore Xg109.here hx rfl (hb hby d1_91) rfl (l' := #[.val (.ref cl), .val (.int (2 : Int32)), .val (.ref b2), .val (.ref b36), .val (.int i3), .val (.int (KK i3.toInt.toNat)), sl1]) rfl k) ?_
          show Go p e below s Q 4 12 (Tg109.setTop (mkF m 93 #[.val (.ref cl), .val (.int (2 : Int32)), .val (.ref b2), .val (.ref b36), .val (.int i3), .val (.int (KK i3.toInt.toNat)), sl1] []))
          have f118 := rng32 (KK i3.toInt.toNat)
          generalize hv_v119 : (KK i3.toInt.toNat) = v119 at f118 ⊢
          have hKi : 0 ≤ v119.toInt ∧ v119.toInt < 2 := by have q := hKr i3.toInt.toNat (by omega); rw [hv_v119] at q; exact q
          have cs120 : v119.toInt = 0 ∨ v119.toInt = 1 := by omega
          rcases cs120 with cs121 | cs122
          ·
            have cs121' : v119 = (0 : Int32) := eqI cs121 liI_0 rfl
            subst cs121'
            have f123 := liI_0
            show Go p e below s Q 4 12 (Tg109.setTop (mkF m 93 #[.val (.ref cl), .val (.int (2 : Int32)), .val (.ref b2), .val (.ref b36), .val (.int i3), .val (.int (0 : Int32)), sl1] []))
            have hck : (C3 0).toInt = cnt KK i3.toInt.toNat 0 := hpg109_1 0 (by decide)
            have hcr := cnt_rng KK i3.toInt.toNat 0
            have hlt := cnt_lt KK (i := i3.toInt.toNat) (j := nn.toInt.toNat) (r := 0) (by omega) (by rw [hv_v119]; decide)
            refine Go.st (fun _ k => XS.aloadN Xg109.here hx rfl (hb hby d1_93) rfl rfl k) ?_
            refine Go.st (fun _ k => XS.iload Xg109.here hx rfl (hb hby d1_94) rfl k) ?_
            refine Go.st (RV.ild Xg109 hx hZ eg109 hfg109_2 (j := (0 : Int32)) (by decide) (by decide) (g := (mkF m 96 #[.val (.ref cl), .val (.int (2 : Int32)), .val (.ref b2), .val (.ref b36), .val (.int i3), .val (.int (0 : Int32)), sl1] [(.int (0 : Int32)), (.ref b36)])) rfl rfl (hb hby d1_96)) ?_
            show Go p e below s Q 4 12 (Tg109.setTop (mkF m 97 #[.val (.ref cl), .val (.int (2 : Int32)), .val (.ref b2), .val (.ref b36), .val (.int i3), .val (.int (0 : Int32)), sl1] [(.ref b48)]))
            refine Go.st (fun _ k => XS.aloadN Xg109.here hx rfl (hb hby d1_97) rfl rfl k) ?_
            refine Go.st (fun _ k => XS.iload Xg109.here hx rfl (hb hby d1_98) rfl k) ?_
            refine Go.st (fun _ k => XT.dup2 Xg109.here hx rfl (hb hby d1_100) rfl rfl rfl k) ?_
            refine Go.st (Vec.ildI Xg109 hx hZ eg109 hfg109_1 (j := (0 : Int32)) (by decide) (by decide) (g := (mkF m 101 #[.val (.ref cl), .val (.int (2 : Int32)), .val (.ref b2), .val (.ref b36), .val (.int i3), .val (.int (0 : Int32)), sl1] [(.int (0 : Int32)), (.ref b2), (.int (0 : Int32)), (.ref b2), (.ref b48)])) rfl rfl (hb hby d1_101)) ?_
            show Go p e below s Q 4 12 (Tg109.setTop (mkF m 102 #[.val (.ref cl), .val (.int (2 : Int32)), .val (.ref b2), .val (.ref b36), .val (.int i3), .val (.int (0 : Int32)), sl1] [(.int (C3 0)), (.int (0 : Int32)), (.ref b2), (.ref b48)]))
            refine Go.st (fun _ k => dupX2 Xg109.here hx rfl (hb hby d1_102) rfl rfl rfl rfl k) ?_
            refine Go.st (fun _ k => XS.iconst Xg109.here hx rfl (hb hby d1_103) k) ?_
            refine Go.st (fun _ k => XS.iadd Xg109.here hx rfl (hb hby d1_104) rfl k) ?_
            show Go p e below s Q 4 12 (Tg109.setTop (mkF m 105 #[.val (.ref cl), .val (.int (2 : Int32)), .val (.ref b2), .val (.ref b36), .val (.int i3), .val (.int (0 : Int32)), sl1] [(.int ((C3 0) + (1 : Int32))), (.int (0 : Int32)), (.ref b2), (.int (C3 0)), (.ref b48)]))
            have f126 := rng32 (C3 0)
            have f127 := liI_1
            have f128 := c_iadd (C3 0) (1 : Int32)
            have f129 := rng32 ((C3 0) + (1 : Int32))
            obtain ⟨T130, h130, X130, e130, W130, V130, st130⟩ := Vec.istI Xg109 hx hZ eg109 hfg109_1 (j := (0 : Int32)) (by decide) (by decide) (g := (mkF m 105 #[.val (.ref cl), .val (.int (2 : Int32)), .val (.ref b2), .val (.ref b36), .val (.int i3), .val (.int (0 : Int32)), sl1] [(.int ((C3 0) + (1 : Int32))), (.int (0 : Int32)), (.ref b2), (.int (C3 0)), (.ref b48)])) rfl rfl (hb hby d1_105)
            have h131 : Vec Z h130 cl .int nn (ints KK) := hfg109_0.other W130 q5
            have h132 : Vec Z h130 b2 .int (2 : Int32) (ints (updF C3 0 ((C3 0) + (1 : Int32)))) := V130
            have h133 : RV Z h130 b36 (2 : Int32) [(.ref b48), (.ref b76)] := hfg109_2.other W130 (Ne.symm q40)
            have h134 : Vec Z h130 b48 .int l0 (ints g0) := hfg109_3.other W130 (Ne.symm q52)
            have h135 : Vec Z h130 b76 .int l1 (ints g1) := hfg109_4.other W130 (Ne.symm q80)
            have K130 : Keep h0 h130 [] := Kg109.wr W130 (Or.inr szb2)
            have N130 := Fr.snoc X130 Ng109 Gb2
            refine Go.st st130 ?_
            show Go p e below s Q 4 12 (T130.setTop (mkF m 106 #[.val (.ref cl), .val (.int (2 : Int32)), .val (.ref b2), .val (.ref b36), .val (.int i3), .val (.int (0 : Int32)), sl1] [(.int (C3 0)), (.ref b48)]))
            refine Go.st (fun _ k => XS.iload X130.here hx rfl (hb hby d1_106) rfl k) ?_
            have r137 : 0 ≤ (C3 0).toInt := by omega
            have r138 : (C3 0).toInt < l0.toInt := by omega
            obtain ⟨T136, h136, X136, e136, W136, V136, st136⟩ := Vec.istI X130 hx hZ e130 h134 (j := (C3 0)) r137 r138 (g := (mkF m 108 #[.val (.ref cl), .val (.int (2 : Int32)), .val (.ref b2), .val (.ref b36), .val (.int i3), .val (.int (0 : Int32)), sl1] [(.int i3), (.int (C3 0)), (.ref b48)])) rfl rfl (hb hby d1_108)
            have h139 : Vec Z h136 cl .int nn (ints KK) := h131.other W136 q51
            have h140 : Vec Z h136 b2 .int (2 : Int32) (ints (updF C3 0 ((C3 0) + (1 : Int32)))) := h132.other W136 q52
            have h141 : RV Z h136 b36 (2 : Int32) [(.ref b48), (.ref b76)] := h133.other W136 q53
            have h142 : Vec Z h136 b48 .int l0 (ints (updF g0 (C3 0).toInt.toNat i3)) := V136
            have h143 : Vec Z h136 b76 .int l1 (ints g1) := h135.other W136 (Ne.symm q82)
            have K136 : Keep h0 h136 [] := K130.wr W136 (Or.inr szb48)
            have N136 := Fr.snoc X136 N130 Gb48
            refine Go.st st136 ?_
            show Go p e below s Q 4 12 (T136.setTop (mkF m 109 #[.val (.ref cl), .val (.int (2 : Int32)), .val (.ref b2), .val (.ref b36), .val (.int i3), .val (.int (0 : Int32)), sl1] []))
            refine Go.st (fun _ k => XS.iinc X136.here hx rfl (hb hby d1_109) rfl (l' := #[.val (.ref cl), .val (.int (2 : Int32)), .val (.ref b2), .val (.ref b36), .val (.int (i3 + (1 : Int32))), .val (.int (0 : Int32)), sl1]) rfl k) ?_
            show Go p e below s Q 4 12 (T136.setTop (mkF m 112 #[.val (.ref cl), .val (.int (2 : Int32)), .val (.ref b2), .val (.ref b36), .val (.int (i3 + (1 : Int32))), .val (.int (0 : Int32)), sl1] []))
            have f144 := c_iadd i3 (1 : Int32)
            have f145 := rng32 (i3 + (1 : Int32))
            generalize hv_v146 : (i3 + (1 : Int32)) = v146 at f144 f145 ⊢
            refine Go.st (fun _ k => XS.goto X136.here hx rfl (pc0 := 112) (pc' := 80) rfl (hb hby d1_112) (by decide) (by decide) k) ?_
            show Go p e below s Q 4 12 (T136.setTop (mkF m 80 #[.val (.ref cl), .val (.int (2 : Int32)), .val (.ref b2), .val (.ref b36), .val (.int v146), .val (.int (0 : Int32)), sl1] []))
            exact ihg109 _ (by omega) T136 h136 _ (up X136 (by decide) (by decide)) e136 N136 K136 v146 (0 : Int32) (updF C3 0 ((C3 0) + (1 : Int32))) (updF g0 (C3 0).toInt.toNat i3) g1 h139 h140 h141 h142 h143 (by omega) (by exact cnt_upd (x := 0) hpg109_1 (by rw [hv_v119]; decide) (by omega) (by decide) (by omega)) (by exact G_upd hpg109_2 (by omega) (by omega) (by omega)) (by exact G_keep hpg109_3 (by rw [hv_v119]; decide) (by omega)) rfl
          ·
            have cs122' : v119 = (1 : Int32) := eqI cs122 liI_1 rfl
            subst cs122'
            have f147 := liI_1
            show Go p e below s Q 4 12 (Tg109.setTop (mkF m 93 #[.val (.ref cl), .val (.int (2 : Int32)), .val (.ref b2), .val (.ref b36), .val (.int i3), .val (.int (1 : Int32)), sl1] []))
            have hck : (C3 1).toInt = cnt KK i3.toInt.toNat 1 := hpg109_1 1 (by decide)
            have hcr := cnt_rng KK i3.toInt.toNat 1
            have hlt := cnt_lt KK (i := i3.toInt.toNat) (j := nn.toInt.toNat) (r := 1) (by omega) (by rw [hv_v119]; decide)
            refine Go.st (fun _ k => XS.aloadN Xg109.here hx rfl (hb hby d1_93) rfl rfl k) ?_
            refine Go.st (fun _ k => XS.iload Xg109.here hx rfl (hb hby d1_94) rfl k) ?_
            refine Go.st (RV.ild Xg109 hx hZ eg109 hfg109_2 (j := (1 : Int32)) (by decide) (by decide) (g := (mkF m 96 #[.val (.ref cl), .val (.int (2 : Int32)), .val (.ref b2), .val (.ref b36), .val (.int i3), .val (.int (1 : Int32)), sl1] [(.int (1 : Int32)), (.ref b36)])) rfl rfl (hb hby d1_96)) ?_
            show Go p e below s Q 4 12 (Tg109.setTop (mkF m 97 #[.val (.ref cl), .val (.int (2 : Int32)), .val (.ref b2), .val (.ref b36), .val (.int i3), .val (.int (1 : Int32)), sl1] [(.ref b76)]))
            refine Go.st (fun _ k => XS.aloadN Xg109.here hx rfl (hb hby d1_97) rfl rfl k) ?_
            refine Go.st (fun _ k => XS.iload Xg109.here hx rfl (hb hby d1_98) rfl k) ?_
            refine Go.st (fun _ k => XT.dup2 Xg109.here hx rfl (hb hby d1_100) rfl rfl rfl k) ?_
            refine Go.st (Vec.ildI Xg109 hx hZ eg109 hfg109_1 (j := (1 : Int32)) (by decide) (by decide) (g := (mkF m 101 #[.val (.ref cl), .val (.int (2 : Int32)), .val (.ref b2), .val (.ref b36), .val (.int i3), .val (.int (1 : Int32)), sl1] [(.int (1 : Int32)), (.ref b2), (.int (1 : Int32)), (.ref b2), (.ref b76)])) rfl rfl (hb hby d1_101)) ?_
            show Go p e below s Q 4 12 (Tg109.setTop (mkF m 102 #[.val (.ref cl), .val (.int (2 : Int32)), .val (.ref b2), .val (.ref b36), .val (.int i3), .val (.int (1 : Int32)), sl1] [(.int (C3 1)), (.int (1 : Int32)), (.ref b2), (.ref b76)]))
            refine Go.st (fun _ k => dupX2 Xg109.here hx rfl (hb hby d1_102) rfl rfl rfl rfl k) ?_
            refine Go.st (fun _ k => XS.iconst Xg109.here hx rfl (hb hby d1_103) k) ?_
            refine Go.st (fun _ k => XS.iadd Xg109.here hx rfl (hb hby d1_104) rfl k) ?_
            show Go p e below s Q 4 12 (Tg109.setTop (mkF m 105 #[.val (.ref cl), .val (.int (2 : Int32)), .val (.ref b2), .val (.ref b36), .val (.int i3), .val (.int (1 : Int32)), sl1] [(.int ((C3 1) + (1 : Int32))), (.int (1 : Int32)), (.ref b2), (.int (C3 1)), (.ref b76)]))
            have f150 := rng32 (C3 1)
            have f151 := c_iadd (C3 1) (1 : Int32)
            have f152 := rng32 ((C3 1) + (1 : Int32))
            obtain ⟨T153, h153, X153, e153, W153, V153, st153⟩ := Vec.istI Xg109 hx hZ eg109 hfg109_1 (j := (1 : Int32)) (by decide) (by decide) (g := (mkF m 105 #[.val (.ref cl), .val (.int (2 : Int32)), .val (.ref b2), .val (.ref b36), .val (.int i3), .val (.int (1 : Int32)), sl1] [(.int ((C3 1) + (1 : Int32))), (.int (1 : Int32)), (.ref b2), (.int (C3 1)), (.ref b76)])) rfl rfl (hb hby d1_105)
            have h154 : Vec Z h153 cl .int nn (ints KK) := hfg109_0.other W153 q5
            have h155 : Vec Z h153 b2 .int (2 : Int32) (ints (updF C3 1 ((C3 1) + (1 : Int32)))) := V153
            have h156 : RV Z h153 b36 (2 : Int32) [(.ref b48), (.ref b76)] := hfg109_2.other W153 (Ne.symm q40)
            have h157 : Vec Z h153 b48 .int l0 (ints g0) := hfg109_3.other W153 (Ne.symm q52)
            have h158 : Vec Z h153 b76 .int l1 (ints g1) := hfg109_4.other W153 (Ne.symm q80)
            have K153 : Keep h0 h153 [] := Kg109.wr W153 (Or.inr szb2)
            have N153 := Fr.snoc X153 Ng109 Gb2
            refine Go.st st153 ?_
            show Go p e below s Q 4 12 (T153.setTop (mkF m 106 #[.val (.ref cl), .val (.int (2 : Int32)), .val (.ref b2), .val (.ref b36), .val (.int i3), .val (.int (1 : Int32)), sl1] [(.int (C3 1)), (.ref b76)]))
            refine Go.st (fun _ k => XS.iload X153.here hx rfl (hb hby d1_106) rfl k) ?_
            have r160 : 0 ≤ (C3 1).toInt := by omega
            have r161 : (C3 1).toInt < l1.toInt := by omega
            obtain ⟨T159, h159, X159, e159, W159, V159, st159⟩ := Vec.istI X153 hx hZ e153 h158 (j := (C3 1)) r160 r161 (g := (mkF m 108 #[.val (.ref cl), .val (.int (2 : Int32)), .val (.ref b2), .val (.ref b36), .val (.int i3), .val (.int (1 : Int32)), sl1] [(.int i3), (.int (C3 1)), (.ref b76)])) rfl rfl (hb hby d1_108)
            have h162 : Vec Z h159 cl .int nn (ints KK) := h154.other W159 q79
            have h163 : Vec Z h159 b2 .int (2 : Int32) (ints (updF C3 1 ((C3 1) + (1 : Int32)))) := h155.other W159 q80
            have h164 : RV Z h159 b36 (2 : Int32) [(.ref b48), (.ref b76)] := h156.other W159 q81
            have h165 : Vec Z h159 b48 .int l0 (ints g0) := h157.other W159 q82
            have h166 : Vec Z h159 b76 .int l1 (ints (updF g1 (C3 1).toInt.toNat i3)) := V159
            have K159 : Keep h0 h159 [] := K153.wr W159 (Or.inr szb76)
            have N159 := Fr.snoc X159 N153 Gb76
            refine Go.st st159 ?_
            show Go p e below s Q 4 12 (T159.setTop (mkF m 109 #[.val (.ref cl), .val (.int (2 : Int32)), .val (.ref b2), .val (.ref b36), .val (.int i3), .val (.int (1 : Int32)), sl1] []))
            refine Go.st (fun _ k => XS.iinc X159.here hx rfl (hb hby d1_109) rfl (l' := #[.val (.ref cl), .val (.int (2 : Int32)), .val (.ref b2), .val (.ref b36), .val (.int (i3 + (1 : Int32))), .val (.int (1 : Int32)), sl1]) rfl k) ?_
            show Go p e below s Q 4 12 (T159.setTop (mkF m 112 #[.val (.ref cl), .val (.int (2 : Int32)), .val (.ref b2), .val (.ref b36), .val (.int (i3 + (1 : Int32))), .val (.int (1 : Int32)), sl1] []))
            have f167 := c_iadd i3 (1 : Int32)
            have f168 := rng32 (i3 + (1 : Int32))
            generalize hv_v169 : (i3 + (1 : Int32)) = v169 at f167 f168 ⊢
            refine Go.st (fun _ k => XS.goto X159.here hx rfl (pc0 := 112) (pc' := 80) rfl (hb hby d1_112) (by decide) (by decide) k) ?_
            show Go p e below s Q 4 12 (T159.setTop (mkF m 80 #[.val (.ref cl), .val (.int (2 : Int32)), .val (.ref b2), .val (.ref b36), .val (.int v169), .val (.int (1 : Int32)), sl1] []))
            exact ihg109 _ (by omega) T159 h159 _ (up X159 (by decide) (by decide)) e159 N159 K159 v169 (1 : Int32) (updF C3 1 ((C3 1) + (1 : Int32))) g0 (updF g1 (C3 1).toInt.toNat i3) h162 h163 h164 h165 h166 (by omega) (by exact cnt_upd (x := 1) hpg109_1 (by rw [hv_v119]; decide) (by omega) (by decide) (by omega)) (by exact G_keep hpg109_2 (by rw [hv_v119]; decide) (by omega)) (by exact G_upd hpg109_3 (by omega) (by omega) (by omega)) rfl
        ·
          refine Go.st (fun _ k => XS.icmpYes Xg109.here hx rfl (pc0 := 84) (pc' := 115) rfl (hb hby d1_84) rfl (flt (nltI rfl rfl c114)).2.1 (by decide) (by decide) k) ?_
          refine Go.st (fun _ k => XS.aloadN Xg109.here hx rfl (hb hby d1_115) rfl rfl k) ?_
          show Go p e below s Q 4 12 (Tg109.setTop (mkF m 116 #[.val (.ref cl), .val (.int (2 : Int32)), .val (.ref b2), .val (.ref b36), .val (.int i3), .val (.int x5), sl1] [(.ref b36)]))
          exact Go.retA Xg109 hx hlk rfl Bd.returns rfl (hb hby d1_116) (by rw [← hQ, eg109]; exact ⟨b36, b48, l0, g0, b76, l1, g1, rfl, Ng109, (by exact hl0), (by exact hl1), (by exact (show i3.toInt.toNat = nn.toInt.toNat by omega) ▸ hpg109_2), (by exact (show i3.toInt.toNat = nn.toInt.toNat by omega) ▸ hpg109_3), Kg109, hfg109_2, hfg109_3, hfg109_4⟩) (by decide) (by decide)
      have f170 := liI_0
      exact lp110 _ T99 h99 _ (up X99 (by decide) (by decide)) e99 N99 K99 (0 : Int32) i1 (updF (updF C1 0 (0 : Int32)) 1 (0 : Int32)) (fun _ => (0 : Int32)) (fun _ => (0 : Int32)) h100 h102 h103 h105 h107 (by omega) (by intro r hr; rcases (by omega : r = 0 ∨ r = 1) with rfl | rfl <;> rfl) (by intro j hj; exact absurd hj (Nat.not_lt_zero j)) (by intro j hj; exact absurd hj (Nat.not_lt_zero j)) rfl
  have f171 := rng32 nn
  have f172 := liI_0
  exact lp10 _ T2 h2 _ (up X2 (by decide) (by decide)) e2 N0 K2 (0 : Int32) (fun _ => (0 : Int32)) (.unset) h6 B2 h7 (by omega) (by intro r hr; rfl) One.u rfl
theorem liI_3 : (3 : Int32).toInt = 3 := by decide
theorem ef_rmc3 (m : MethodId) (cl : Addr) : entryFrame m #[(.ref cl), (.int (3 : Int32))] 7 = mkF m 0 #[.val (.ref cl), .val (.int (3 : Int32)), .unset, .unset, .unset, .unset, .unset] [] := by first | (simp [entryFrame, mkF, argsToLocals, Value.category]; done) | rfl
def Qc3 (Z : State) (cl : Addr) (nn : Int32) (KK : Nat → Int32) (h0 : Heap) (n0 : Nat) (vv : Option Value) (h : Heap) (LL : List Loc) : Prop := ∃ (res : Addr) (w0 : Addr) (l0 : Int32) (g0 : Nat → Int32) (w1 : Addr) (l1 : Int32) (g1 : Nat → Int32) (w2 : Addr) (l2 : Int32) (g2 : Nat → Int32), vv = some (.ref res) ∧ Fr n0 LL ∧ (l0.toInt = cnt KK nn.toInt.toNat 0) ∧ (l1.toInt = cnt KK nn.toInt.toNat 1) ∧ (l2.toInt = cnt KK nn.toInt.toNat 2) ∧ (∀ j : Nat, j < nn.toInt.toNat → (KK j).toInt = 0 → (g0 (cnt KK j 0).toNat).toInt = j) ∧ (∀ j : Nat, j < nn.toInt.toNat → (KK j).toInt = 1 → (g1 (cnt KK j 1).toNat).toInt = j) ∧ (∀ j : Nat, j < nn.toInt.toNat → (KK j).toInt = 2 → (g2 (cnt KK j 2).toNat).toInt = j) ∧ Keep h0 h [] ∧ (RV Z h res (3 : Int32) [(.ref w0), (.ref w1), (.ref w2)]) ∧ (Vec Z h w0 .int l0 (ints g0)) ∧ (Vec Z h w1 .int l1 (ints g1)) ∧ (Vec Z h w2 .int l2 (ints g2))
set_option maxRecDepth 65536 in
set_option maxHeartbeats 40000000 in
theorem rmc3 (l : Launch) (Z : State) (a0 : Array Value) (hw : ∀ d ∈ tables_1, d.before a0 Z = true) (ws : List Jvm.Cond) (cl : Addr) (nn : Int32) (KK : Nat → Int32) (h0 : Heap) (n0 : Nat) (Z0 : n0 ≤ h0.size) (hV : Vec Z h0 cl .int nn (ints KK)) (hn : 0 ≤ nn.toInt ∧ nn.toInt ≤ 4) (hKr : ∀ j : Nat, (j : Int) < nn.toInt → 0 ≤ (KK j).toInt ∧ (KK j).toInt < 3) :
    MetFree l (⟨"com/example/rackwise/rackwise/RackCosts", "clientsOfRacks", "([II)[[I"⟩ : MethodName) (head1 (Jvm.Cond.code (⟨"com/example/rackwise/rackwise/RackCosts", "clientsOfRacks", "([II)[[I"⟩ : MethodName) prog_99_method_9_code 7 (some (.array (.array .int))) :: ws) ({ frames := 0, cells := 5, slots := 18, locals := 0 } : Room)) (fun aa UU => aa = #[(.ref cl), (.int (3 : Int32))] ∧ Z.Warmed39 UU.vm ∧ UU.heap = h0) (fun _ _ _ _ _ => True) (fun _ UU oo UU' => ∃ vv LL, oo = .returned vv ∧ Qc3 Z cl nn KK h0 n0 vv UU'.heap LL ∧ FrameEnd UU oo UU' LL 5 18) := by
  refine MetFree.of_bodySF (plainFor_of_name pn_0) hisR ?_
  intro p e s m args below meth c s₁ Bd hml0 hP hK
  obtain ⟨rfl, hZ, hh⟩ := hP
  have hx := Bd.exec
  have hby := Bd.bytes
  have hlk : meth.locks = false := BodyLoose.notSynchronized Bd
  have hml : c.maxLocals = 7 := hml0
  have hown : s.vm.findClass "com/example/rackwise/rackwise/RackCosts" = some m.cls := findClass_of_methodNamed Bd.named
  have hnm := (name_of_methodNamed Bd.named Bd.method).1
  have X0 : Stand p l e ({ frames := 0, cells := 5, slots := 18, locals := 0 } : Room) s m #[(.ref cl), (.int (3 : Int32))] below meth c s₁ [] 0 0 := Stand.of_body Bd
  have e0 : s₁.heap = h0 := by rw [← hh, Bd.state]; rfl
  have N0 := Fr.nil n0
  have K0 : Keep h0 h0 [] := Keep.refl h0 _
  refine (?_ : Go p e below s (Qc3 Z cl nn KK h0 n0) 5 18 (s₁.setTop (entryFrame m #[(.ref cl), (.int (3 : Int32))] 7)))
  rw [ef_rmc3]
  generalize hQ : Qc3 Z cl nn KK h0 n0 = Q
  have hnn := rng32 nn
  show Go p e below s Q 5 18 (s₁.setTop (mkF m 0 #[.val (.ref cl), .val (.int (3 : Int32)), .unset, .unset, .unset, .unset, .unset] []))
  have f1 := liI_3
  refine Go.st (fun _ k => XS.iloadN X0.here hx rfl (hb hby d1_0) rfl k) ?_
  have r3 : 0 ≤ (3 : Int32).toInt := by decide
  have r4 : (3 : Int32).toNatClampNeg ≤ 3 := by decide
  obtain ⟨T2, h2, k2, X2, e2, E2, A2, B2, st2⟩ := newPE X0 hx hZ (hw _ (List.mem_of_getElem? (i := 1) rfl)) e0 (g := (mkF m 1 #[.val (.ref cl), .val (.int (3 : Int32)), .unset, .unset, .unset, .unset, .unset] [(.int (3 : Int32))])) rfl (hb hby d1_1) rfl (not_neg r3) (cap := 3) r4 (by decide) (by decide) (by decide) (ad := "[I") (by decide)
  obtain ⟨b2, g2⟩ : ∃ z, z = h0.size := ⟨_, rfl⟩
  rw [← g2] at A2 B2 st2
  have q5 : Hid (cl ≠ b2) := Nat.ne_of_lt (Nat.lt_of_lt_of_le hV.lt (Nat.le_of_eq g2.symm))
  have h6 : Vec Z h2 cl .int nn (ints KK) := hV.ext E2
  have Gb2 : Hid (n0 ≤ b2) := Nat.le_trans (Nat.le_trans Z0 K0.1) (Nat.le_of_eq g2.symm)
  have szb2 : Hid (h0.size ≤ b2) := Nat.le_trans K0.1 (Nat.le_of_eq g2.symm)
  have K2 : Keep h0 h2 [] := K0.ext E2
  have h7 : Vec Z h2 b2 .int (3 : Int32) (ints (fun _ => (0 : Int32))) := Vec.new A2 r3
  refine Go.st st2 ?_
  show Go p e below s Q 5 18 (T2.setTop (mkF m 3 #[.val (.ref cl), .val (.int (3 : Int32)), .unset, .unset, .unset, .unset, .unset] [(.ref b2)]))
  refine Go.st (fun _ k => XS.astoreN X2.here hx rfl (hb hby d1_3) rfl rfl (l' := #[.val (.ref cl), .val (.int (3 : Int32)), .val (.ref b2), .unset, .unset, .unset, .unset]) rfl k) ?_
  refine Go.st (fun _ k => XS.aloadN X2.here hx rfl (hb hby d1_4) rfl rfl k) ?_
  refine Go.st (fun _ k => XS.astoreN X2.here hx rfl (hb hby d1_5) rfl rfl (l' := #[.val (.ref cl), .val (.int (3 : Int32)), .val (.ref b2), .val (.ref cl), .unset, .unset, .unset]) rfl k) ?_
  refine Go.st (fun _ k => XS.aloadN X2.here hx rfl (hb hby d1_6) rfl rfl k) ?_
  refine Go.st (Vec.len X2 hx hZ e2 h6 (g := (mkF m 7 #[.val (.ref cl), .val (.int (3 : Int32)), .val (.ref b2), .val (.ref cl), .unset, .unset, .unset] [(.ref cl)])) rfl rfl (hb hby d1_7)) ?_
  show Go p e below s Q 5 18 (T2.setTop (mkF m 8 #[.val (.ref cl), .val (.int (3 : Int32)), .val (.ref b2), .val (.ref cl), .unset, .unset, .unset] [(.int nn)]))
  refine Go.st (fun _ k => XS.istore X2.here hx rfl (hb hby d1_8) rfl (l' := #[.val (.ref cl), .val (.int (3 : Int32)), .val (.ref b2), .val (.ref cl), .val (.int nn), .unset, .unset]) rfl k) ?_
  refine Go.st (fun _ k => XS.iconst X2.here hx rfl (hb hby d1_10) k) ?_
  refine Go.st (fun _ k => XS.istore X2.here hx rfl (hb hby d1_11) rfl (l' := #[.val (.ref cl), .val (.int (3 : Int32)), .val (.ref b2), .val (.ref cl), .val (.int nn), .val (.int (0 : Int32)), .unset]) rfl k) ?_
  show Go p e below s Q 5 18 (T2.setTop (mkF m 13 #[.val (.ref cl), .val (.int (3 : Int32)), .val (.ref b2), .val (.ref cl), .val (.int nn), .val (.int (0 : Int32)), .unset] []))
  have lp10 : ∀ (kg9 : Nat) (Tg9 : State) (hg9 : Heap) (Lgg9 : List Loc) (Xg9 : Stand p l e ({ frames := 0, cells := 5, slots := 18, locals := 0 } : Room) s m #[(.ref cl), (.int (3 : Int32))] below meth c Tg9 Lgg9 1 3) (eg9 : Tg9.heap = hg9) (Ng9 : Fr n0 Lgg9) (Kg9 : Keep h0 hg9 []) (i1 : Int32) (C1 : Nat → Int32) (sl1 : Slot) (hfg9_0 : Vec Z hg9 cl .int nn (ints KK)) (hfg9_1 : Exa Z hg9 b2 "[I") (hfg9_2 : Vec Z hg9 b2 .int (3 : Int32) (ints C1)) (hpg9_0 : 0 ≤ i1.toInt ∧ i1.toInt ≤ nn.toInt) (hpg9_1 : ∀ r : Nat, r < 3 → (C1 r).toInt = cnt KK i1.toInt.toNat r) (hpg9_2 : One sl1), (nn.toInt - i1.toInt).toNat = kg9 → Go p e below s Q 5 18 (Tg9.setTop (mkF m 13 #[.val (.ref cl), .val (.int (3 : Int32)), .val (.ref b2), .val (.ref cl), .val (.int nn), .val (.int i1), sl1] [])) := by
    intro kg9
    induction kg9 using Nat.strongRecOn with
    | ind kg9 ihg9 =>
    intro Tg9 hg9 Lgg9 Xg9 eg9 Ng9 Kg9 i1 C1 sl1 hfg9_0 hfg9_1 hfg9_2 hpg9_0 hpg9_1 hpg9_2 hkg9
    have f11 := rng32 i1
    show Go p e below s Q 5 18 (Tg9.setTop (mkF m 13 #[.val (.ref cl), .val (.int (3 : Int32)), .val (.ref b2), .val (.ref cl), .val (.int nn), .val (.int i1), sl1] []))
    refine Go.st (fun _ k => XS.iload Xg9.here hx rfl (hb hby d1_13) rfl k) ?_
    refine Go.st (fun _ k => XS.iload Xg9.here hx rfl (hb hby d1_15) rfl k) ?_
    have f12 := rng32 nn
    by_cases c13 : i1.toInt < nn.toInt
    ·
      refine Go.st (fun _ k => XS.icmpNo Xg9.here hx rfl (hb hby d1_17) rfl (tlt (ltI rfl rfl c13)).2.1 k) ?_
      refine Go.st (fun _ k => XS.aloadN Xg9.here hx rfl (hb hby d1_20) rfl rfl k) ?_
      refine Go.st (fun _ k => XS.iload Xg9.here hx rfl (hb hby d1_21) rfl k) ?_
      have r15 : 0 ≤ i1.toInt := by omega
      have r16 : i1.toInt < nn.toInt := by omega
      refine Go.st (Vec.ildI Xg9 hx hZ eg9 hfg9_0 (j := i1) r15 r16 (g := (mkF m 23 #[.val (.ref cl), .val (.int (3 : Int32)), .val (.ref b2), .val (.ref cl), .val (.int nn), .val (.int i1), sl1] [(.int i1), (.ref cl)])) rfl rfl (hb hby d1_23)) ?_
      show Go p e below s Q 5 18 (Tg9.setTop (mkF m 24 #[.val (.ref cl), .val (.int (3 : Int32)), .val (.ref b2), .val (.ref cl), .val (.int nn), .val (.int i1), sl1] [(.int (KK i1.toInt.toNat))]))
      refine Go.st (fun _ k => XS.istoreS Xg9.here hx rfl (hb hby d1_24) rfl rfl hpg9_2 k) ?_
      show Go p e below s Q 5 18 (Tg9.setTop (mkF m 26 #[.val (.ref cl), .val (.int (3 : Int32)), .val (.ref b2), .val (.ref cl), .val (.int nn), .val (.int i1), .val (.int (KK i1.toInt.toNat))] []))
      have f17 := rng32 (KK i1.toInt.toNat)
      generalize hv_v18 : (KK i1.toInt.toNat) = v18 at f17 ⊢
      have hKi : 0 ≤ v18.toInt ∧ v18.toInt < 3 := by have q := hKr i1.toInt.toNat (by omega); rw [hv_v18] at q; exact q
      have hck := hpg9_1 v18.toInt.toNat (by omega)
      have hcr := cnt_rng KK i1.toInt.toNat (v18.toInt.toNat : Nat)
      refine Go.st (fun _ k => XS.aloadN Xg9.here hx rfl (hb hby d1_26) rfl rfl k) ?_
      refine Go.st (fun _ k => XS.iload Xg9.here hx rfl (hb hby d1_27) rfl k) ?_
      refine Go.st (fun _ k => XT.dup2 Xg9.here hx rfl (hb hby d1_29) rfl rfl rfl k) ?_
      have r20 : 0 ≤ v18.toInt := by omega
      have r21 : v18.toInt < (3 : Int32).toInt := by omega
      refine Go.st (Vec.ildI Xg9 hx hZ eg9 hfg9_2 (j := v18) r20 r21 (g := (mkF m 30 #[.val (.ref cl), .val (.int (3 : Int32)), .val (.ref b2), .val (.ref cl), .val (.int nn), .val (.int i1), .val (.int v18)] [(.int v18), (.ref b2), (.int v18), (.ref b2)])) rfl rfl (hb hby d1_30)) ?_
      show Go p e below s Q 5 18 (Tg9.setTop (mkF m 31 #[.val (.ref cl), .val (.int (3 : Int32)), .val (.ref b2), .val (.ref cl), .val (.int nn), .val (.int i1), .val (.int v18)] [(.int (C1 v18.toInt.toNat)), (.int v18), (.ref b2)]))
      refine Go.st (fun _ k => XS.iconst Xg9.here hx rfl (hb hby d1_31) k) ?_
      refine Go.st (fun _ k => XS.iadd Xg9.here hx rfl (hb hby d1_32) rfl k) ?_
      show Go p e below s Q 5 18 (Tg9.setTop (mkF m 33 #[.val (.ref cl), .val (.int (3 : Int32)), .val (.ref b2), .val (.ref cl), .val (.int nn), .val (.int i1), .val (.int v18)] [(.int ((C1 v18.toInt.toNat) + (1 : Int32))), (.int v18), (.ref b2)]))
      have f22 := rng32 (C1 v18.toInt.toNat)
      have f23 := liI_1
      have f24 := c_iadd (C1 v18.toInt.toNat) (1 : Int32)
      have f25 := rng32 ((C1 v18.toInt.toNat) + (1 : Int32))
      have r27 : 0 ≤ v18.toInt := by omega
      have r28 : v18.toInt < (3 : Int32).toInt := by omega
      obtain ⟨T26, h26, X26, e26, W26, V26, st26⟩ := Vec.istI Xg9 hx hZ eg9 hfg9_2 (j := v18) r27 r28 (g := (mkF m 33 #[.val (.ref cl), .val (.int (3 : Int32)), .val (.ref b2), .val (.ref cl), .val (.int nn), .val (.int i1), .val (.int v18)] [(.int ((C1 v18.toInt.toNat) + (1 : Int32))), (.int v18), (.ref b2)])) rfl rfl (hb hby d1_33)
      have h29 : Vec Z h26 cl .int nn (ints KK) := hfg9_0.other W26 q5
      have h30 : Exa Z h26 b2 "[I" := hfg9_1.wr W26
      have h31 : Vec Z h26 b2 .int (3 : Int32) (ints (updF C1 v18.toInt.toNat ((C1 v18.toInt.toNat) + (1 : Int32)))) := V26
      have K26 : Keep h0 h26 [] := Kg9.wr W26 (Or.inr szb2)
      have N26 := Fr.snoc X26 Ng9 Gb2
      refine Go.st st26 ?_
      show Go p e below s Q 5 18 (T26.setTop (mkF m 34 #[.val (.ref cl), .val (.int (3 : Int32)), .val (.ref b2), .val (.ref cl), .val (.int nn), .val (.int i1), .val (.int v18)] []))
      refine Go.st (fun _ k => XS.iinc X26.here hx rfl (hb hby d1_34) rfl (l' := #[.val (.ref cl), .val (.int (3 : Int32)), .val (.ref b2), .val (.ref cl), .val (.int nn), .val (.int (i1 + (1 : Int32))), .val (.int v18)]) rfl k) ?_
      show Go p e below s Q 5 18 (T26.setTop (mkF m 37 #[.val (.ref cl), .val (.int (3 : Int32)), .val (.ref b2), .val (.ref cl), .val (.int nn), .val (.int (i1 + (1 : Int32))), .val (.int v18)] []))
      have f32 := c_iadd i1 (1 : Int32)
      have f33 := rng32 (i1 + (1 : Int32))
      generalize hv_v34 : (i1 + (1 : Int32)) = v34 at f32 f33 ⊢
      refine Go.st (fun _ k => XS.goto X26.here hx rfl (pc0 := 37) (pc' := 13) rfl (hb hby d1_37) (by decide) (by decide) k) ?_
      show Go p e below s Q 5 18 (T26.setTop (mkF m 13 #[.val (.ref cl), .val (.int (3 : Int32)), .val (.ref b2), .val (.ref cl), .val (.int nn), .val (.int v34), .val (.int v18)] []))
      exact ihg9 _ (by omega) T26 h26 _ (up X26 (by decide) (by decide)) e26 N26 K26 v34 (updF C1 v18.toInt.toNat ((C1 v18.toInt.toNat) + (1 : Int32))) (.val (.int v18)) h29 h30 h31 (by omega) (by exact cnt_upd hpg9_1 (by rw [hv_v18]; omega) (by omega) (by omega) (by omega)) (One.val rfl) rfl
    ·
      refine Go.st (fun _ k => XS.icmpYes Xg9.here hx rfl (pc0 := 17) (pc' := 40) rfl (hb hby d1_17) rfl (flt (nltI rfl rfl c13)).2.1 (by decide) (by decide) k) ?_
      show Go p e below s Q 5 18 (Tg9.setTop (mkF m 40 #[.val (.ref cl), .val (.int (3 : Int32)), .val (.ref b2), .val (.ref cl), .val (.int nn), .val (.int i1), sl1] []))
      have hin : i1.toInt.toNat = nn.toInt.toNat := by omega
      have hC := hpg9_1
      rw [hin] at hC
      have hcn0 := cnt_rng KK nn.toInt.toNat 0
      have hcn1 := cnt_rng KK nn.toInt.toNat 1
      have hcn2 := cnt_rng KK nn.toInt.toNat 2
      refine Go.st (fun _ k => XS.aloadN Xg9.here hx rfl (hb hby d1_40) rfl rfl k) ?_
      refine Go.st (Vec.len Xg9 hx hZ eg9 hfg9_2 (g := (mkF m 41 #[.val (.ref cl), .val (.int (3 : Int32)), .val (.ref b2), .val (.ref cl), .val (.int nn), .val (.int i1), sl1] [(.ref b2)])) rfl rfl (hb hby d1_41)) ?_
      show Go p e below s Q 5 18 (Tg9.setTop (mkF m 42 #[.val (.ref cl), .val (.int (3 : Int32)), .val (.ref b2), .val (.ref cl), .val (.int nn), .val (.int i1), sl1] [(.int (3 : Int32))]))
      have r37 : 0 ≤ (3 : Int32).toInt := by decide
      have r38 : (3 : Int32).toNatClampNeg ≤ 3 := by decide
      obtain ⟨T36, h36, k36, X36, e36, E36, A36, B36, O36, st36⟩ := newRA Xg9 hx hZ hown (C := "[I") (ty := .int) (by decide) (hw _ (List.mem_of_getElem? (i := 6) rfl)) (hw _ (List.mem_of_getElem? (i := 7) rfl)) eg9 (g := (mkF m 42 #[.val (.ref cl), .val (.int (3 : Int32)), .val (.ref b2), .val (.ref cl), .val (.int nn), .val (.int i1), sl1] [(.int (3 : Int32))])) rfl (hb hby d1_42) rfl (not_neg r37) (cap := 3) r38 (by decide) (by decide) (by decide) (ad := "[[I") (by decide)
      obtain ⟨b36, g36⟩ : ∃ z, z = hg9.size := ⟨_, rfl⟩
      rw [← g36] at A36 B36 st36
      have q39 : Hid (cl ≠ b36) := Nat.ne_of_lt (Nat.lt_of_lt_of_le hfg9_0.lt (Nat.le_of_eq g36.symm))
      have q40 : Hid (b2 ≠ b36) := Nat.ne_of_lt (Nat.lt_of_lt_of_le hfg9_1.lt (Nat.le_of_eq g36.symm))
      have h41 : Vec Z h36 cl .int nn (ints KK) := hfg9_0.ext E36
      have h42 : Exa Z h36 b2 "[I" := hfg9_1.ext E36
      have h43 : Vec Z h36 b2 .int (3 : Int32) (ints C1) := hfg9_2.ext E36
      have Gb36 : Hid (n0 ≤ b36) := Nat.le_trans (Nat.le_trans Z0 Kg9.1) (Nat.le_of_eq g36.symm)
      have szb36 : Hid (h0.size ≤ b36) := Nat.le_trans Kg9.1 (Nat.le_of_eq g36.symm)
      have K36 : Keep h0 h36 [] := Kg9.ext E36
      have h44 : RV Z h36 b36 (3 : Int32) [.null, .null, .null] := RV.new 3 A36 O36 r37
      refine Go.st st36 ?_
      show Go p e below s Q 5 18 (T36.setTop (mkF m 45 #[.val (.ref cl), .val (.int (3 : Int32)), .val (.ref b2), .val (.ref cl), .val (.int nn), .val (.int i1), sl1] [(.ref b36)]))
      refine Go.st (fun _ k => XS.astoreN X36.here hx rfl (hb hby d1_45) rfl rfl (l' := #[.val (.ref cl), .val (.int (3 : Int32)), .val (.ref b2), .val (.ref b36), .val (.int nn), .val (.int i1), sl1]) rfl k) ?_
      refine Go.st (fun _ k => XS.iconst X36.here hx rfl (hb hby d1_46) k) ?_
      refine Go.st (fun _ k => XS.istore X36.here hx rfl (hb hby d1_47) rfl (l' := #[.val (.ref cl), .val (.int (3 : Int32)), .val (.ref b2), .val (.ref b36), .val (.int (0 : Int32)), .val (.int i1), sl1]) rfl k) ?_
      refine Go.st (fun _ k => XS.iload X36.here hx rfl (hb hby d1_49) rfl k) ?_
      refine Go.st (fun _ k => XS.aloadN X36.here hx rfl (hb hby d1_51) rfl rfl k) ?_
      refine Go.st (RV.len X36 hx hZ e36 h44 (g := (mkF m 52 #[.val (.ref cl), .val (.int (3 : Int32)), .val (.ref b2), .val (.ref b36), .val (.int (0 : Int32)), .val (.int i1), sl1] [(.ref b36), (.int (0 : Int32))])) rfl rfl (hb hby d1_52)) ?_
      show Go p e below s Q 5 18 (T36.setTop (mkF m 53 #[.val (.ref cl), .val (.int (3 : Int32)), .val (.ref b2), .val (.ref b36), .val (.int (0 : Int32)), .val (.int i1), sl1] [(.int (3 : Int32)), (.int (0 : Int32))]))
      refine Go.st (fun _ k => XS.icmpNo X36.here hx rfl (hb hby d1_53) rfl (tlt (ltI liI_0 liI_3 (by decide))).2.1 k) ?_
      refine Go.st (fun _ k => XS.aloadN X36.here hx rfl (hb hby d1_56) rfl rfl k) ?_
      refine Go.st (fun _ k => XS.iload X36.here hx rfl (hb hby d1_57) rfl k) ?_
      refine Go.st (fun _ k => XS.aloadN X36.here hx rfl (hb hby d1_59) rfl rfl k) ?_
      refine Go.st (fun _ k => XS.iload X36.here hx rfl (hb hby d1_60) rfl k) ?_
      refine Go.st (Vec.ildI X36 hx hZ e36 h43 (j := (0 : Int32)) (by decide) (by decide) (g := (mkF m 62 #[.val (.ref cl), .val (.int (3 : Int32)), .val (.ref b2), .val (.ref b36), .val (.int (0 : Int32)), .val (.int i1), sl1] [(.int (0 : Int32)), (.ref b2), (.int (0 : Int32)), (.ref b36)])) rfl rfl (hb hby d1_62)) ?_
      show Go p e below s Q 5 18 (T36.setTop (mkF m 63 #[.val (.ref cl), .val (.int (3 : Int32)), .val (.ref b2), .val (.ref b36), .val (.int (0 : Int32)), .val (.int i1), sl1] [(.int (C1 0)), (.int (0 : Int32)), (.ref b36)]))
      have f47 := rng32 (C1 0)
      generalize hv_l0 : (C1 0) = l0 at f47 ⊢
      have hl0 : l0.toInt = cnt KK nn.toInt.toNat 0 := by rw [← hv_l0]; exact hC 0 (by decide)
      have r49 : 0 ≤ l0.toInt := by omega
      have r50 : l0.toNatClampNeg ≤ 4 := by rw [nat_cl]; omega
      obtain ⟨T48, h48, k48, X48, e48, E48, A48, B48, st48⟩ := newPE X36 hx hZ (hw _ (List.mem_of_getElem? (i := 1) rfl)) e36 (g := (mkF m 63 #[.val (.ref cl), .val (.int (3 : Int32)), .val (.ref b2), .val (.ref b36), .val (.int (0 : Int32)), .val (.int i1), sl1] [(.int l0), (.int (0 : Int32)), (.ref b36)])) rfl (hb hby d1_63) rfl (not_neg r49) (cap := 4) r50 (by decide) (by decide) (by decide) (ad := "[I") (by decide)
      obtain ⟨b48, g48⟩ : ∃ z, z = h36.size := ⟨_, rfl⟩
      rw [← g48] at A48 B48 st48
      have q51 : Hid (cl ≠ b48) := Nat.ne_of_lt (Nat.lt_of_lt_of_le h41.lt (Nat.le_of_eq g48.symm))
      have q52 : Hid (b2 ≠ b48) := Nat.ne_of_lt (Nat.lt_of_lt_of_le h42.lt (Nat.le_of_eq g48.symm))
      have q53 : Hid (b36 ≠ b48) := Nat.ne_of_lt (Nat.lt_of_lt_of_le h44.lt (Nat.le_of_eq g48.symm))
      have h54 : Vec Z h48 cl .int nn (ints KK) := h41.ext E48
      have h55 : Exa Z h48 b2 "[I" := h42.ext E48
      have h56 : Vec Z h48 b2 .int (3 : Int32) (ints C1) := h43.ext E48
      have h57 : RV Z h48 b36 (3 : Int32) [.null, .null, .null] := h44.ext E48
      have Gb48 : Hid (n0 ≤ b48) := Nat.le_trans (Nat.le_trans Z0 K36.1) (Nat.le_of_eq g48.symm)
      have szb48 : Hid (h0.size ≤ b48) := Nat.le_trans K36.1 (Nat.le_of_eq g48.symm)
      have K48 : Keep h0 h48 [] := K36.ext E48
      have h58 : Vec Z h48 b48 .int l0 (ints (fun _ => (0 : Int32))) := Vec.new A48 r49
      refine Go.st st48 ?_
      show Go p e below s Q 5 18 (T48.setTop (mkF m 65 #[.val (.ref cl), .val (.int (3 : Int32)), .val (.ref b2), .val (.ref b36), .val (.int (0 : Int32)), .val (.int i1), sl1] [(.ref b48), (.int (0 : Int32)), (.ref b36)]))
      obtain ⟨T59, h59, X59, e59, W59, V59, st59⟩ := RV.ist X48 hx hZ e48 h57 (Ins.self B48) (j := (0 : Int32)) (by decide) ⟨by decide, (by show 0 < 3; decide)⟩ (g := (mkF m 65 #[.val (.ref cl), .val (.int (3 : Int32)), .val (.ref b2), .val (.ref b36), .val (.int (0 : Int32)), .val (.int i1), sl1] [(.ref b48), (.int (0 : Int32)), (.ref b36)])) rfl rfl (hb hby d1_65)
      have h60 : Vec Z h59 cl .int nn (ints KK) := h54.other W59 q39
      have h61 : Exa Z h59 b2 "[I" := h55.wr W59
      have h62 : Vec Z h59 b2 .int (3 : Int32) (ints C1) := h56.other W59 q40
      have h63 : RV Z h59 b36 (3 : Int32) [(.ref b48), .null, .null] := V59
      have h64 : Exa Z h59 b48 "[I" := B48.wr W59
      have h65 : Vec Z h59 b48 .int l0 (ints (fun _ => (0 : Int32))) := h58.other W59 (Ne.symm q53)
      have K59 : Keep h0 h59 [] := K48.wr W59 (Or.inr szb36)
      have N59 := Fr.snoc X59 Ng9 Gb36
      refine Go.st st59 ?_
      show Go p e below s Q 5 18 (T59.setTop (mkF m 66 #[.val (.ref cl), .val (.int (3 : Int32)), .val (.ref b2), .val (.ref b36), .val (.int (0 : Int32)), .val (.int i1), sl1] []))
      refine Go.st (fun _ k => XS.aloadN X59.here hx rfl (hb hby d1_66) rfl rfl k) ?_
      refine Go.st (fun _ k => XS.iload X59.here hx rfl (hb hby d1_67) rfl k) ?_
      refine Go.st (fun _ k => XS.iconst X59.here hx rfl (hb hby d1_69) k) ?_
      obtain ⟨T66, h66, X66, e66, W66, V66, st66⟩ := Vec.istI X59 hx hZ e59 h62 (j := (0 : Int32)) (by decide) (by decide) (g := (mkF m 70 #[.val (.ref cl), .val (.int (3 : Int32)), .val (.ref b2), .val (.ref b36), .val (.int (0 : Int32)), .val (.int i1), sl1] [(.int (0 : Int32)), (.int (0 : Int32)), (.ref b2)])) rfl rfl (hb hby d1_70)
      have h67 : Vec Z h66 cl .int nn (ints KK) := h60.other W66 q5
      have h68 : Exa Z h66 b2 "[I" := h61.wr W66
      have h69 : Vec Z h66 b2 .int (3 : Int32) (ints (updF C1 0 (0 : Int32))) := V66
      have h70 : RV Z h66 b36 (3 : Int32) [(.ref b48), .null, .null] := h63.other W66 (Ne.symm q40)
      have h71 : Exa Z h66 b48 "[I" := h64.wr W66
      have h72 : Vec Z h66 b48 .int l0 (ints (fun _ => (0 : Int32))) := h65.other W66 (Ne.symm q52)
      have K66 : Keep h0 h66 [] := K59.wr W66 (Or.inr szb2)
      have N66 := Fr.snoc X66 N59 Gb2
      refine Go.st st66 ?_
      show Go p e below s Q 5 18 (T66.setTop (mkF m 71 #[.val (.ref cl), .val (.int (3 : Int32)), .val (.ref b2), .val (.ref b36), .val (.int (0 : Int32)), .val (.int i1), sl1] []))
      refine Go.st (fun _ k => XS.iinc X66.here hx rfl (hb hby d1_71) rfl (l' := #[.val (.ref cl), .val (.int (3 : Int32)), .val (.ref b2), .val (.ref b36), .val (.int (1 : Int32)), .val (.int i1), sl1]) rfl k) ?_
      refine Go.st (fun _ k => XS.goto X66.here hx rfl (pc0 := 74) (pc' := 49) rfl (hb hby d1_74) (by decide) (by decide) k) ?_
      refine Go.st (fun _ k => XS.iload X66.here hx rfl (hb hby d1_49) rfl k) ?_
      refine Go.st (fun _ k => XS.aloadN X66.here hx rfl (hb hby d1_51) rfl rfl k) ?_
      refine Go.st (RV.len X66 hx hZ e66 h70 (g := (mkF m 52 #[.val (.ref cl), .val (.int (3 : Int32)), .val (.ref b2), .val (.ref b36), .val (.int (1 : Int32)), .val (.int i1), sl1] [(.ref b36), (.int (1 : Int32))])) rfl rfl (hb hby d1_52)) ?_
      show Go p e below s Q 5 18 (T66.setTop (mkF m 53 #[.val (.ref cl), .val (.int (3 : Int32)), .val (.ref b2), .val (.ref b36), .val (.int (1 : Int32)), .val (.int i1), sl1] [(.int (3 : Int32)), (.int (1 : Int32))]))
      refine Go.st (fun _ k => XS.icmpNo X66.here hx rfl (hb hby d1_53) rfl (tlt (ltI liI_1 liI_3 (by decide))).2.1 k) ?_
      refine Go.st (fun _ k => XS.aloadN X66.here hx rfl (hb hby d1_56) rfl rfl k) ?_
      refine Go.st (fun _ k => XS.iload X66.here hx rfl (hb hby d1_57) rfl k) ?_
      refine Go.st (fun _ k => XS.aloadN X66.here hx rfl (hb hby d1_59) rfl rfl k) ?_
      refine Go.st (fun _ k => XS.iload X66.here hx rfl (hb hby d1_60) rfl k) ?_
      refine Go.st (Vec.ildI X66 hx hZ e66 h69 (j := (1 : Int32)) (by decide) (by decide) (g := (mkF m 62 #[.val (.ref cl), .val (.int (3 : Int32)), .val (.ref b2), .val (.ref b36), .val (.int (1 : Int32)), .val (.int i1), sl1] [(.int (1 : Int32)), (.ref b2), (.int (1 : Int32)), (.ref b36)])) rfl rfl (hb hby d1_62)) ?_
      show Go p e below s Q 5 18 (T66.setTop (mkF m 63 #[.val (.ref cl), .val (.int (3 : Int32)), .val (.ref b2), .val (.ref b36), .val (.int (1 : Int32)), .val (.int i1), sl1] [(.int ((updF C1 0 (0 : Int32)) 1)), (.int (1 : Int32)), (.ref b36)]))
      have f75 := rng32 ((updF C1 0 (0 : Int32)) 1)
      generalize hv_l1 : ((updF C1 0 (0 : Int32)) 1) = l1 at f75 ⊢
      have hl1 : l1.toInt = cnt KK nn.toInt.toNat 1 := by rw [← hv_l1]; exact hC 1 (by decide)
      have r77 : 0 ≤ l1.toInt := by omega
      have r78 : l1.toNatClampNeg ≤ 4 := by rw [nat_cl]; omega
      obtain ⟨T76, h76, k76, X76, e76, E76, A76, B76, st76⟩ := newPE X66 hx hZ (hw _ (List.mem_of_getElem? (i := 1) rfl)) e66 (g := (mkF m 63 #[.val (.ref cl), .val (.int (3 : Int32)), .val (.ref b2), .val (.ref b36), .val (.int (1 : Int32)), .val (.int i1), sl1] [(.int l1), (.int (1 : Int32)), (.ref b36)])) rfl (hb hby d1_63) rfl (not_neg r77) (cap := 4) r78 (by decide) (by decide) (by decide) (ad := "[I") (by decide)
      obtain ⟨b76, g76⟩ : ∃ z, z = h66.size := ⟨_, rfl⟩
      rw [← g76] at A76 B76 st76
      have q79 : Hid (cl ≠ b76) := Nat.ne_of_lt (Nat.lt_of_lt_of_le h67.lt (Nat.le_of_eq g76.symm))
      have q80 : Hid (b2 ≠ b76) := Nat.ne_of_lt (Nat.lt_of_lt_of_le h68.lt (Nat.le_of_eq g76.symm))
      have q81 : Hid (b36 ≠ b76) := Nat.ne_of_lt (Nat.lt_of_lt_of_le h70.lt (Nat.le_of_eq g76.symm))
      have q82 : Hid (b48 ≠ b76) := Nat.ne_of_lt (Nat.lt_of_lt_of_le h71.lt (Nat.le_of_eq g76.symm))
      have h83 : Vec Z h76 cl .int nn (ints KK) := h67.ext E76
      have h84 : Exa Z h76 b2 "[I" := h68.ext E76
      have h85 : Vec Z h76 b2 .int (3 : Int32) (ints (updF C1 0 (0 : Int32))) := h69.ext E76
      have h86 : RV Z h76 b36 (3 : Int32) [(.ref b48), .null, .null] := h70.ext E76
      have h87 : Exa Z h76 b48 "[I" := h71.ext E76
      have h88 : Vec Z h76 b48 .int l0 (ints (fun _ => (0 : Int32))) := h72.ext E76
      have Gb76 : Hid (n0 ≤ b76) := Nat.le_trans (Nat.le_trans Z0 K66.1) (Nat.le_of_eq g76.symm)
      have szb76 : Hid (h0.size ≤ b76) := Nat.le_trans K66.1 (Nat.le_of_eq g76.symm)
      have K76 : Keep h0 h76 [] := K66.ext E76
      have h89 : Vec Z h76 b76 .int l1 (ints (fun _ => (0 : Int32))) := Vec.new A76 r77
      refine Go.st st76 ?_
      show Go p e below s Q 5 18 (T76.setTop (mkF m 65 #[.val (.ref cl), .val (.int (3 : Int32)), .val (.ref b2), .val (.ref b36), .val (.int (1 : Int32)), .val (.int i1), sl1] [(.ref b76), (.int (1 : Int32)), (.ref b36)]))
      obtain ⟨T90, h90, X90, e90, W90, V90, st90⟩ := RV.ist X76 hx hZ e76 h86 (Ins.self B76) (j := (1 : Int32)) (by decide) ⟨by decide, (by show 1 < 3; decide)⟩ (g := (mkF m 65 #[.val (.ref cl), .val (.int (3 : Int32)), .val (.ref b2), .val (.ref b36), .val (.int (1 : Int32)), .val (.int i1), sl1] [(.ref b76), (.int (1 : Int32)), (.ref b36)])) rfl rfl (hb hby d1_65)
      have h91 : Vec Z h90 cl .int nn (ints KK) := h83.other W90 q39
      have h92 : Exa Z h90 b2 "[I" := h84.wr W90
      have h93 : Vec Z h90 b2 .int (3 : Int32) (ints (updF C1 0 (0 : Int32))) := h85.other W90 q40
      have h94 : RV Z h90 b36 (3 : Int32) [(.ref b48), (.ref b76), .null] := V90
      have h95 : Exa Z h90 b48 "[I" := h87.wr W90
      have h96 : Vec Z h90 b48 .int l0 (ints (fun _ => (0 : Int32))) := h88.other W90 (Ne.symm q53)
      have h97 : Exa Z h90 b76 "[I" := B76.wr W90
      have h98 : Vec Z h90 b76 .int l1 (ints (fun _ => (0 : Int32))) := h89.other W90 (Ne.symm q81)
      have K90 : Keep h0 h90 [] := K76.wr W90 (Or.inr szb36)
      have N90 := Fr.snoc X90 N66 Gb36
      refine Go.st st90 ?_
      show Go p e below s Q 5 18 (T90.setTop (mkF m 66 #[.val (.ref cl), .val (.int (3 : Int32)), .val (.ref b2), .val (.ref b36), .val (.int (1 : Int32)), .val (.int i1), sl1] []))
      refine Go.st (fun _ k => XS.aloadN X90.here hx rfl (hb hby d1_66) rfl rfl k) ?_
      refine Go.st (fun _ k => XS.iload X90.here hx rfl (hb hby d1_67) rfl k) ?_
      refine Go.st (fun _ k => XS.iconst X90.here hx rfl (hb hby d1_69) k) ?_
      obtain ⟨T99, h99, X99, e99, W99, V99, st99⟩ := Vec.istI X90 hx hZ e90 h93 (j := (1 : Int32)) (by decide) (by decide) (g := (mkF m 70 #[.val (.ref cl), .val (.int (3 : Int32)), .val (.ref b2), .val (.ref b36), .val (.int (1 : Int32)), .val (.int i1), sl1] [(.int (0 : Int32)), (.int (1 : Int32)), (.ref b2)])) rfl rfl (hb hby d1_70)
      have h100 : Vec Z h99 cl .int nn (ints KK) := h91.other W99 q5
      have h101 : Exa Z h99 b2 "[I" := h92.wr W99
      have h102 : Vec Z h99 b2 .int (3 : Int32) (ints (updF (updF C1 0 (0 : Int32)) 1 (0 : Int32))) := V99
      have h103 : RV Z h99 b36 (3 : Int32) [(.ref b48), (.ref b76), .null] := h94.other W99 (Ne.symm q40)
      have h104 : Exa Z h99 b48 "[I" := h95.wr W99
      have h105 : Vec Z h99 b48 .int l0 (ints (fun _ => (0 : Int32))) := h96.other W99 (Ne.symm q52)
      have h106 : Exa Z h99 b76 "[I" := h97.wr W99
      have h107 : Vec Z h99 b76 .int l1 (ints (fun _ => (0 : Int32))) := h98.other W99 (Ne.symm q80)
      have K99 : Keep h0 h99 [] := K90.wr W99 (Or.inr szb2)
      have N99 := Fr.snoc X99 N90 Gb2
      refine Go.st st99 ?_
      show Go p e below s Q 5 18 (T99.setTop (mkF m 71 #[.val (.ref cl), .val (.int (3 : Int32)), .val (.ref b2), .val (.ref b36), .val (.int (1 : Int32)), .val (.int i1), sl1] []))
      refine Go.st (fun _ k => XS.iinc X99.here hx rfl (hb hby d1_71) rfl (l' := #[.val (.ref cl), .val (.int (3 : Int32)), .val (.ref b2), .val (.ref b36), .val (.int (2 : Int32)), .val (.int i1), sl1]) rfl k) ?_
      refine Go.st (fun _ k => XS.goto X99.here hx rfl (pc0 := 74) (pc' := 49) rfl (hb hby d1_74) (by decide) (by decide) k) ?_
      refine Go.st (fun _ k => XS.iload X99.here hx rfl (hb hby d1_49) rfl k) ?_
      refine Go.st (fun _ k => XS.aloadN X99.here hx rfl (hb hby d1_51) rfl rfl k) ?_
      refine Go.st (RV.len X99 hx hZ e99 h103 (g := (mkF m 52 #[.val (.ref cl), .val (.int (3 : Int32)), .val (.ref b2), .val (.ref b36), .val (.int (2 : Int32)), .val (.int i1), sl1] [(.ref b36), (.int (2 : Int32))])) rfl rfl (hb hby d1_52)) ?_
      show Go p e below s Q 5 18 (T99.setTop (mkF m 53 #[.val (.ref cl), .val (.int (3 : Int32)), .val (.ref b2), .val (.ref b36), .val (.int (2 : Int32)), .val (.int i1), sl1] [(.int (3 : Int32)), (.int (2 : Int32))]))
      refine Go.st (fun _ k => XS.icmpNo X99.here hx rfl (hb hby d1_53) rfl (tlt (ltI liI_2 liI_3 (by decide))).2.1 k) ?_
      refine Go.st (fun _ k => XS.aloadN X99.here hx rfl (hb hby d1_56) rfl rfl k) ?_
      refine Go.st (fun _ k => XS.iload X99.here hx rfl (hb hby d1_57) rfl k) ?_
      refine Go.st (fun _ k => XS.aloadN X99.here hx rfl (hb hby d1_59) rfl rfl k) ?_
      refine Go.st (fun _ k => XS.iload X99.here hx rfl (hb hby d1_60) rfl k) ?_
      refine Go.st (Vec.ildI X99 hx hZ e99 h102 (j := (2 : Int32)) (by decide) (by decide) (g := (mkF m 62 #[.val (.ref cl), .val (.int (3 : Int32)), .val (.ref b2), .val (.ref b36), .val (.int (2 : Int32)), .val (.int i1), sl1] [(.int (2 : Int32)), (.ref b2), (.int (2 : Int32)), (.ref b36)])) rfl rfl (hb hby d1_62)) ?_
      show Go p e below s Q 5 18 (T99.setTop (mkF m 63 #[.val (.ref cl), .val (.int (3 : Int32)), .val (.ref b2), .val (.ref b36), .val (.int (2 : Int32)), .val (.int i1), sl1] [(.int ((updF (updF C1 0 (0 : Int32)) 1 (0 : Int32)) 2)), (.int (2 : Int32)), (.ref b36)]))
      have f110 := rng32 ((updF (updF C1 0 (0 : Int32)) 1 (0 : Int32)) 2)
      generalize hv_l2 : ((updF (updF C1 0 (0 : Int32)) 1 (0 : Int32)) 2) = l2 at f110 ⊢
      have hl2 : l2.toInt = cnt KK nn.toInt.toNat 2 := by rw [← hv_l2]; exact hC 2 (by decide)
      have r112 : 0 ≤ l2.toInt := by omega
      have r113 : l2.toNatClampNeg ≤ 4 := by rw [nat_cl]; omega
      obtain ⟨T111, h111, k111, X111, e111, E111, A111, B111, st111⟩ := newPE X99 hx hZ (hw _ (List.mem_of_getElem? (i := 1) rfl)) e99 (g := (mkF m 63 #[.val (.ref cl), .val (.int (3 : Int32)), .val (.ref b2), .val (.ref b36), .val (.int (2 : Int32)), .val (.int i1), sl1] [(.int l2), (.int (2 : Int32)), (.ref b36)])) rfl (hb hby d1_63) rfl (not_neg r112) (cap := 4) r113 (by decide) (by decide) (by decide) (ad := "[I") (by decide)
      obtain ⟨b111, g111⟩ : ∃ z, z = h99.size := ⟨_, rfl⟩
      rw [← g111] at A111 B111 st111
      have q114 : Hid (cl ≠ b111) := Nat.ne_of_lt (Nat.lt_of_lt_of_le h100.lt (Nat.le_of_eq g111.symm))
      have q115 : Hid (b2 ≠ b111) := Nat.ne_of_lt (Nat.lt_of_lt_of_le h101.lt (Nat.le_of_eq g111.symm))
      have q116 : Hid (b36 ≠ b111) := Nat.ne_of_lt (Nat.lt_of_lt_of_le h103.lt (Nat.le_of_eq g111.symm))
      have q117 : Hid (b48 ≠ b111) := Nat.ne_of_lt (Nat.lt_of_lt_of_le h104.lt (Nat.le_of_eq g111.symm))
      have q118 : Hid (b76 ≠ b111) := Nat.ne_of_lt (Nat.lt_of_lt_of_le h106.lt (Nat.le_of_eq g111.symm))
      have h119 : Vec Z h111 cl .int nn (ints KK) := h100.ext E111
      have h120 : Exa Z h111 b2 "[I" := h101.ext E111
      have h121 : Vec Z h111 b2 .int (3 : Int32) (ints (updF (updF C1 0 (0 : Int32)) 1 (0 : Int32))) := h102.ext E111
      have h122 : RV Z h111 b36 (3 : Int32) [(.ref b48), (.ref b76), .null] := h103.ext E111
      have h123 : Exa Z h111 b48 "[I" := h104.ext E111
      have h124 : Vec Z h111 b48 .int l0 (ints (fun _ => (0 : Int32))) := h105.ext E111
      have h125 : Exa Z h111 b76 "[I" := h106.ext E111
      have h126 : Vec Z h111 b76 .int l1 (ints (fun _ => (0 : Int32))) := h107.ext E111
      have Gb111 : Hid (n0 ≤ b111) := Nat.le_trans (Nat.le_trans Z0 K99.1) (Nat.le_of_eq g111.symm)
      have szb111 : Hid (h0.size ≤ b111) := Nat.le_trans K99.1 (Nat.le_of_eq g111.symm)
      have K111 : Keep h0 h111 [] := K99.ext E111
      have h127 : Vec Z h111 b111 .int l2 (ints (fun _ => (0 : Int32))) := Vec.new A111 r112
      refine Go.st st111 ?_
      show Go p e below s Q 5 18 (T111.setTop (mkF m 65 #[.val (.ref cl), .val (.int (3 : Int32)), .val (.ref b2), .val (.ref b36), .val (.int (2 : Int32)), .val (.int i1), sl1] [(.ref b111), (.int (2 : Int32)), (.ref b36)]))
      obtain ⟨T128, h128, X128, e128, W128, V128, st128⟩ := RV.ist X111 hx hZ e111 h122 (Ins.self B111) (j := (2 : Int32)) (by decide) ⟨by decide, (by show 2 < 3; decide)⟩ (g := (mkF m 65 #[.val (.ref cl), .val (.int (3 : Int32)), .val (.ref b2), .val (.ref b36), .val (.int (2 : Int32)), .val (.int i1), sl1] [(.ref b111), (.int (2 : Int32)), (.ref b36)])) rfl rfl (hb hby d1_65)
      have h129 : Vec Z h128 cl .int nn (ints KK) := h119.other W128 q39
      have h130 : Exa Z h128 b2 "[I" := h120.wr W128
      have h131 : Vec Z h128 b2 .int (3 : Int32) (ints (updF (updF C1 0 (0 : Int32)) 1 (0 : Int32))) := h121.other W128 q40
      have h132 : RV Z h128 b36 (3 : Int32) [(.ref b48), (.ref b76), (.ref b111)] := V128
      have h133 : Exa Z h128 b48 "[I" := h123.wr W128
      have h134 : Vec Z h128 b48 .int l0 (ints (fun _ => (0 : Int32))) := h124.other W128 (Ne.symm q53)
      have h135 : Exa Z h128 b76 "[I" := h125.wr W128
      have h136 : Vec Z h128 b76 .int l1 (ints (fun _ => (0 : Int32))) := h126.other W128 (Ne.symm q81)
      have h137 : Exa Z h128 b111 "[I" := B111.wr W128
      have h138 : Vec Z h128 b111 .int l2 (ints (fun _ => (0 : Int32))) := h127.other W128 (Ne.symm q116)
      have K128 : Keep h0 h128 [] := K111.wr W128 (Or.inr szb36)
      have N128 := Fr.snoc X128 N99 Gb36
      refine Go.st st128 ?_
      show Go p e below s Q 5 18 (T128.setTop (mkF m 66 #[.val (.ref cl), .val (.int (3 : Int32)), .val (.ref b2), .val (.ref b36), .val (.int (2 : Int32)), .val (.int i1), sl1] []))
      refine Go.st (fun _ k => XS.aloadN X128.here hx rfl (hb hby d1_66) rfl rfl k) ?_
      refine Go.st (fun _ k => XS.iload X128.here hx rfl (hb hby d1_67) rfl k) ?_
      refine Go.st (fun _ k => XS.iconst X128.here hx rfl (hb hby d1_69) k) ?_
      obtain ⟨T139, h139, X139, e139, W139, V139, st139⟩ := Vec.istI X128 hx hZ e128 h131 (j := (2 : Int32)) (by decide) (by decide) (g := (mkF m 70 #[.val (.ref cl), .val (.int (3 : Int32)), .val (.ref b2), .val (.ref b36), .val (.int (2 : Int32)), .val (.int i1), sl1] [(.int (0 : Int32)), (.int (2 : Int32)), (.ref b2)])) rfl rfl (hb hby d1_70)
      have h140 : Vec Z h139 cl .int nn (ints KK) := h129.other W139 q5
      have h141 : Exa Z h139 b2 "[I" := h130.wr W139
      have h142 : Vec Z h139 b2 .int (3 : Int32) (ints (updF (updF (updF C1 0 (0 : Int32)) 1 (0 : Int32)) 2 (0 : Int32))) := V139
      have h143 : RV Z h139 b36 (3 : Int32) [(.ref b48), (.ref b76), (.ref b111)] := h132.other W139 (Ne.symm q40)
      have h144 : Exa Z h139 b48 "[I" := h133.wr W139
      have h145 : Vec Z h139 b48 .int l0 (ints (fun _ => (0 : Int32))) := h134.other W139 (Ne.symm q52)
      have h146 : Exa Z h139 b76 "[I" := h135.wr W139
      have h147 : Vec Z h139 b76 .int l1 (ints (fun _ => (0 : Int32))) := h136.other W139 (Ne.symm q80)
      have h148 : Exa Z h139 b111 "[I" := h137.wr W139
      have h149 : Vec Z h139 b111 .int l2 (ints (fun _ => (0 : Int32))) := h138.other W139 (Ne.symm q115)
      have K139 : Keep h0 h139 [] := K128.wr W139 (Or.inr szb2)
      have N139 := Fr.snoc X139 N128 Gb2
      refine Go.st st139 ?_
      show Go p e below s Q 5 18 (T139.setTop (mkF m 71 #[.val (.ref cl), .val (.int (3 : Int32)), .val (.ref b2), .val (.ref b36), .val (.int (2 : Int32)), .val (.int i1), sl1] []))
      refine Go.st (fun _ k => XS.iinc X139.here hx rfl (hb hby d1_71) rfl (l' := #[.val (.ref cl), .val (.int (3 : Int32)), .val (.ref b2), .val (.ref b36), .val (.int (3 : Int32)), .val (.int i1), sl1]) rfl k) ?_
      refine Go.st (fun _ k => XS.goto X139.here hx rfl (pc0 := 74) (pc' := 49) rfl (hb hby d1_74) (by decide) (by decide) k) ?_
      refine Go.st (fun _ k => XS.iload X139.here hx rfl (hb hby d1_49) rfl k) ?_
      refine Go.st (fun _ k => XS.aloadN X139.here hx rfl (hb hby d1_51) rfl rfl k) ?_
      refine Go.st (RV.len X139 hx hZ e139 h143 (g := (mkF m 52 #[.val (.ref cl), .val (.int (3 : Int32)), .val (.ref b2), .val (.ref b36), .val (.int (3 : Int32)), .val (.int i1), sl1] [(.ref b36), (.int (3 : Int32))])) rfl rfl (hb hby d1_52)) ?_
      show Go p e below s Q 5 18 (T139.setTop (mkF m 53 #[.val (.ref cl), .val (.int (3 : Int32)), .val (.ref b2), .val (.ref b36), .val (.int (3 : Int32)), .val (.int i1), sl1] [(.int (3 : Int32)), (.int (3 : Int32))]))
      refine Go.st (fun _ k => XS.icmpYes X139.here hx rfl (pc0 := 53) (pc' := 77) rfl (hb hby d1_53) rfl (flt (nltI liI_3 liI_3 (by decide))).2.1 (by decide) (by decide) k) ?_
      refine Go.st (fun _ k => XS.iconst X139.here hx rfl (hb hby d1_77) k) ?_
      refine Go.st (fun _ k => XS.istore X139.here hx rfl (hb hby d1_78) rfl (l' := #[.val (.ref cl), .val (.int (3 : Int32)), .val (.ref b2), .val (.ref b36), .val (.int (0 : Int32)), .val (.int i1), sl1]) rfl k) ?_
      show Go p e below s Q 5 18 (T139.setTop (mkF m 80 #[.val (.ref cl), .val (.int (3 : Int32)), .val (.ref b2), .val (.ref b36), .val (.int (0 : Int32)), .val (.int i1), sl1] []))
      have lp152 : ∀ (kg151 : Nat) (Tg151 : State) (hg151 : Heap) (Lgg151 : List Loc) (Xg151 : Stand p l e ({ frames := 0, cells := 5, slots := 18, locals := 0 } : Room) s m #[(.ref cl), (.int (3 : Int32))] below meth c Tg151 Lgg151 5 18) (eg151 : Tg151.heap = hg151) (Ng151 : Fr n0 Lgg151) (Kg151 : Keep h0 hg151 []) (i3 : Int32) (x5 : Int32) (C3 : Nat → Int32) (g0 : Nat → Int32) (g1 : Nat → Int32) (g2 : Nat → Int32) (hfg151_0 : Vec Z hg151 cl .int nn (ints KK)) (hfg151_1 : Vec Z hg151 b2 .int (3 : Int32) (ints C3)) (hfg151_2 : RV Z hg151 b36 (3 : Int32) [(.ref b48), (.ref b76), (.ref b111)]) (hfg151_3 : Vec Z hg151 b48 .int l0 (ints g0)) (hfg151_4 : Vec Z hg151 b76 .int l1 (ints g1)) (hfg151_5 : Vec Z hg151 b111 .int l2 (ints g2)) (hpg151_0 : 0 ≤ i3.toInt ∧ i3.toInt ≤ nn.toInt) (hpg151_1 : ∀ r : Nat, r < 3 → (C3 r).toInt = cnt KK i3.toInt.toNat r) (hpg151_2 : ∀ j : Nat, j < i3.toInt.toNat → (KK j).toInt = 0 → (g0 (cnt KK j 0).toNat).toInt = j) (hpg151_3 : ∀ j : Nat, j < i3.toInt.toNat → (KK j).toInt = 1 → (g1 (cnt KK j 1).toNat).toInt = j) (hpg151_4 : ∀ j : Nat, j < i3.toInt.toNat → (KK j).toInt = 2 → (g2 (cnt KK j 2).toNat).toInt = j), (nn.toInt - i3.toInt).toNat = kg151 → Go p e below s Q 5 18 (Tg151.setTop (mkF m 80 #[.val (.ref cl), .val (.int (3 : Int32)), .val (.ref b2), .val (.ref b36), .val (.int i3), .val (.int x5), sl1] [])) := by
        intro kg151
        induction kg151 using Nat.strongRecOn with
        | ind kg151 ihg151 =>
        intro Tg151 hg151 Lgg151 Xg151 eg151 Ng151 Kg151 i3 x5 C3 g0 g1 g2 hfg151_0 hfg151_1 hfg151_2 hfg151_3 hfg151_4 hfg151_5 hpg151_0 hpg151_1 hpg151_2 hpg151_3 hpg151_4 hkg151
        have f153 := rng32 i3
        have f154 := rng32 x5
        show Go p e below s Q 5 18 (Tg151.setTop (mkF m 80 #[.val (.ref cl), .val (.int (3 : Int32)), .val (.ref b2), .val (.ref b36), .val (.int i3), .val (.int x5), sl1] []))
        refine Go.st (fun _ k => XS.iload Xg151.here hx rfl (hb hby d1_80) rfl k) ?_
        refine Go.st (fun _ k => XS.aloadN Xg151.here hx rfl (hb hby d1_82) rfl rfl k) ?_
        refine Go.st (Vec.len Xg151 hx hZ eg151 hfg151_0 (g := (mkF m 83 #[.val (.ref cl), .val (.int (3 : Int32)), .val (.ref b2), .val (.ref b36), .val (.int i3), .val (.int x5), sl1] [(.ref cl), (.int i3)])) rfl rfl (hb hby d1_83)) ?_
        show Go p e below s Q 5 18 (Tg151.setTop (mkF m 84 #[.val (.ref cl), .val (.int (3 : Int32)), .val (.ref b2), .val (.ref b36), .val (.int i3), .val (.int x5), sl1] [(.int nn), (.int i3)]))
        by_cases c156 : i3.toInt < nn.toInt
        ·
          refine Go.st (fun _ k => XS.icmpNo Xg151.here hx rfl (hb hby d1_84) rfl (tlt (ltI rfl rfl c156)).2.1 k) ?_
          refine Go.st (fun _ k => XS.aloadN Xg151.here hx rfl (hb hby d1_87) rfl rfl k) ?_
          refine Go.st (fun _ k => XS.iload Xg151.here hx rfl (hb hby d1_88) rfl k) ?_
          have r158 : 0 ≤ i3.toInt := by omega
          have r159 : i3.toInt < nn.toInt := by omega
          refine Go.st (Vec.ildI Xg151 hx hZ eg151 hfg151_0 (j := i3) r158 r159 (g := (mkF m 90 #[.val (.ref cl), .val (.int (3 : Int32)), .val (.ref b2), .val (.ref b36), .val (.int i3), .val (.int x5), sl1] [(.int i3), (.ref cl)])) rfl rfl (hb hby d1_90)) ?_
          show Go p e below s Q 5 18 (Tg151.setTop (mkF m 91 #[.val (.ref cl), .val (.int (3 : Int32)), .val (.ref b2), .val (.ref b36), .val (.int i3), .val (.int x5), sl1] [(.int (KK i3.toInt.toNat))]))
          refine Go.st (fun _ k => XS.istore Xg151.here hx rfl (hb hby d1_91) rfl (l' := #[.val (.ref cl), .val (.int (3 : Int32)), .val (.ref b2), .val (.ref b36), .val (.int i3), .val (.int (KK i3.toInt.toNat)), sl1]) rfl k) ?_
          show Go p e below s Q 5 18 (Tg151.setTop (mkF m 93 #[.val (.ref cl), .val (.int (3 : Int32)), .val (.ref b2), .val (.ref b36), .val (.int i3), .val (.int (KK i3.toInt.toNat)), sl1] []))
          have f160 := rng32 (KK i3.toInt.toNat)
          generalize hv_v161 : (KK i3.toInt.toNat) = v161 at f160 ⊢
          have hKi : 0 ≤ v161.toInt ∧ v161.toInt < 3 := by have q := hKr i3.toInt.toNat (by omega); rw [hv_v161] at q; exact q
          have cs162 : v161.toInt = 0 ∨ v161.toInt = 1 ∨ v161.toInt = 2 := by omega
          rcases cs162 with cs163 | cs164 | cs165
          ·
            have cs163' : v161 = (0 : Int32) := eqI cs163 liI_0 rfl
            subst cs163'
            have f166 := liI_0
            show Go p e below s Q 5 18 (Tg151.setTop (mkF m 93 #[.val (.ref cl), .val (.int (3 : Int32)), .val (.ref b2), .val (.ref b36), .val (.int i3), .val (.int (0 : Int32)), sl1] []))
            have hck : (C3 0).toInt = cnt KK i3.toInt.toNat 0 := hpg151_1 0 (by decide)
            have hcr := cnt_rng KK i3.toInt.toNat 0
            have hlt := cnt_lt KK (i := i3.toInt.toNat) (j := nn.toInt.toNat) (r := 0) (by omega) (by rw [hv_v161]; decide)
            refine Go.st (fun _ k => XS.aloadN Xg151.here hx rfl (hb hby d1_93) rfl rfl k) ?_
            refine Go.st (fun _ k => XS.iload Xg151.here hx rfl (hb hby d1_94) rfl k) ?_
            refine Go.st (RV.ild Xg151 hx hZ eg151 hfg151_2 (j := (0 : Int32)) (by decide) (by decide) (g := (mkF m 96 #[.val (.ref cl), .val (.int (3 : Int32)), .val (.ref b2), .val (.ref b36), .val (.int i3), .val (.int (0 : Int32)), sl1] [(.int (0 : Int32)), (.ref b36)])) rfl rfl (hb hby d1_96)) ?_
            show Go p e below s Q 5 18 (Tg151.setTop (mkF m 97 #[.val (.ref cl), .val (.int (3 : Int32)), .val (.ref b2), .val (.ref b36), .val (.int i3), .val (.int (0 : Int32)), sl1] [(.ref b48)]))
            refine Go.st (fun _ k => XS.aloadN Xg151.here hx rfl (hb hby d1_97) rfl rfl k) ?_
            refine Go.st (fun _ k => XS.iload Xg151.here hx rfl (hb hby d1_98) rfl k) ?_
            refine Go.st (fun _ k => XT.dup2 Xg151.here hx rfl (hb hby d1_100) rfl rfl rfl k) ?_
            refine Go.st (Vec.ildI Xg151 hx hZ eg151 hfg151_1 (j := (0 : Int32)) (by decide) (by decide) (g := (mkF m 101 #[.val (.ref cl), .val (.int (3 : Int32)), .val (.ref b2), .val (.ref b36), .val (.int i3), .val (.int (0 : Int32)), sl1] [(.int (0 : Int32)), (.ref b2), (.int (0 : Int32)), (.ref b2), (.ref b48)])) rfl rfl (hb hby d1_101)) ?_
            show Go p e below s Q 5 18 (Tg151.setTop (mkF m 102 #[.val (.ref cl), .val (.int (3 : Int32)), .val (.ref b2), .val (.ref b36), .val (.int i3), .val (.int (0 : Int32)), sl1] [(.int (C3 0)), (.int (0 : Int32)), (.ref b2), (.ref b48)]))
            refine Go.st (fun _ k => dupX2 Xg151.here hx rfl (hb hby d1_102) rfl rfl rfl rfl k) ?_
            refine Go.st (fun _ k => XS.iconst Xg151.here hx rfl (hb hby d1_103) k) ?_
            refine Go.st (fun _ k => XS.iadd Xg151.here hx rfl (hb hby d1_104) rfl k) ?_
            show Go p e below s Q 5 18 (Tg151.setTop (mkF m 105 #[.val (.ref cl), .val (.int (3 : Int32)), .val (.ref b2), .val (.ref b36), .val (.int i3), .val (.int (0 : Int32)), sl1] [(.int ((C3 0) + (1 : Int32))), (.int (0 : Int32)), (.ref b2), (.int (C3 0)), (.ref b48)]))
            have f169 := rng32 (C3 0)
            have f170 := liI_1
            have f171 := c_iadd (C3 0) (1 : Int32)
            have f172 := rng32 ((C3 0) + (1 : Int32))
            obtain ⟨T173, h173, X173, e173, W173, V173, st173⟩ := Vec.istI Xg151 hx hZ eg151 hfg151_1 (j := (0 : Int32)) (by decide) (by decide) (g := (mkF m 105 #[.val (.ref cl), .val (.int (3 : Int32)), .val (.ref b2), .val (.ref b36), .val (.int i3), .val (.int (0 : Int32)), sl1] [(.int ((C3 0) + (1 : Int32))), (.int (0 : Int32)), (.ref b2), (.int (C3 0)), (.ref b48)])) rfl rfl (hb hby d1_105)
            have h174 : Vec Z h173 cl .int nn (ints KK) := hfg151_0.other W173 q5
            have h175 : Vec Z h173 b2 .int (3 : Int32) (ints (updF C3 0 ((C3 0) + (1 : Int32)))) := V173
            have h176 : RV Z h173 b36 (3 : Int32) [(.ref b48), (.ref b76), (.ref b111)] := hfg151_2.other W173 (Ne.symm q40)
            have h177 : Vec Z h173 b48 .int l0 (ints g0) := hfg151_3.other W173 (Ne.symm q52)
            have h178 : Vec Z h173 b76 .int l1 (ints g1) := hfg151_4.other W173 (Ne.symm q80)
            have h179 : Vec Z h173 b111 .int l2 (ints g2) := hfg151_5.other W173 (Ne.symm q115)
            have K173 : Keep h0 h173 [] := Kg151.wr W173 (Or.inr szb2)
            have N173 := Fr.snoc X173 Ng151 Gb2
            refine Go.st st173 ?_
            show Go p e below s Q 5 18 (T173.setTop (mkF m 106 #[.val (.ref cl), .val (.int (3 : Int32)), .val (.ref b2), .val (.ref b36), .val (.int i3), .val (.int (0 : Int32)), sl1] [(.int (C3 0)), (.ref b48)]))
            refine Go.st (fun _ k => XS.iload X173.here hx rfl (hb hby d1_106) rfl k) ?_
            have r181 : 0 ≤ (C3 0).toInt := by omega
            have r182 : (C3 0).toInt < l0.toInt := by omega
            obtain ⟨T180, h180, X180, e180, W180, V180, st180⟩ := Vec.istI X173 hx hZ e173 h177 (j := (C3 0)) r181 r182 (g := (mkF m 108 #[.val (.ref cl), .val (.int (3 : Int32)), .val (.ref b2), .val (.ref b36), .val (.int i3), .val (.int (0 : Int32)), sl1] [(.int i3), (.int (C3 0)), (.ref b48)])) rfl rfl (hb hby d1_108)
            have h183 : Vec Z h180 cl .int nn (ints KK) := h174.other W180 q51
            have h184 : Vec Z h180 b2 .int (3 : Int32) (ints (updF C3 0 ((C3 0) + (1 : Int32)))) := h175.other W180 q52
            have h185 : RV Z h180 b36 (3 : Int32) [(.ref b48), (.ref b76), (.ref b111)] := h176.other W180 q53
            have h186 : Vec Z h180 b48 .int l0 (ints (updF g0 (C3 0).toInt.toNat i3)) := V180
            have h187 : Vec Z h180 b76 .int l1 (ints g1) := h178.other W180 (Ne.symm q82)
            have h188 : Vec Z h180 b111 .int l2 (ints g2) := h179.other W180 (Ne.symm q117)
            have K180 : Keep h0 h180 [] := K173.wr W180 (Or.inr szb48)
            have N180 := Fr.snoc X180 N173 Gb48
            refine Go.st st180 ?_
            show Go p e below s Q 5 18 (T180.setTop (mkF m 109 #[.val (.ref cl), .val (.int (3 : Int32)), .val (.ref b2), .val (.ref b36), .val (.int i3), .val (.int (0 : Int32)), sl1] []))
            refine Go.st (fun _ k => XS.iinc X180.here hx rfl (hb hby d1_109) rfl (l' := #[.val (.ref cl), .val (.int (3 : Int32)), .val (.ref b2), .val (.ref b36), .val (.int (i3 + (1 : Int32))), .val (.int (0 : Int32)), sl1]) rfl k) ?_
            show Go p e below s Q 5 18 (T180.setTop (mkF m 112 #[.val (.ref cl), .val (.int (3 : Int32)), .val (.ref b2), .val (.ref b36), .val (.int (i3 + (1 : Int32))), .val (.int (0 : Int32)), sl1] []))
            have f189 := c_iadd i3 (1 : Int32)
            have f190 := rng32 (i3 + (1 : Int32))
            generalize hv_v191 : (i3 + (1 : Int32)) = v191 at f189 f190 ⊢
            refine Go.st (fun _ k => XS.goto X180.here hx rfl (pc0 := 112) (pc' := 80) rfl (hb hby d1_112) (by decide) (by decide) k) ?_
            show Go p e below s Q 5 18 (T180.setTop (mkF m 80 #[.val (.ref cl), .val (.int (3 : Int32)), .val (.ref b2), .val (.ref b36), .val (.int v191), .val (.int (0 : Int32)), sl1] []))
            exact ihg151 _ (by omega) T180 h180 _ (up X180 (by decide) (by decide)) e180 N180 K180 v191 (0 : Int32) (updF C3 0 ((C3 0) + (1 : Int32))) (updF g0 (C3 0).toInt.toNat i3) g1 g2 h183 h184 h185 h186 h187 h188 (by omega) (by exact cnt_upd (x := 0) hpg151_1 (by rw [hv_v161]; decide) (by omega) (by decide) (by omega)) (by exact G_upd hpg151_2 (by omega) (by omega) (by omega)) (by exact G_keep hpg151_3 (by rw [hv_v161]; decide) (by omega)) (by exact G_keep hpg151_4 (by rw [hv_v161]; decide) (by omega)) rfl
          ·
            have cs164' : v161 = (1 : Int32) := eqI cs164 liI_1 rfl
            subst cs164'
            have f192 := liI_1
            show Go p e below s Q 5 18 (Tg151.setTop (mkF m 93 #[.val (.ref cl), .val (.int (3 : Int32)), .val (.ref b2), .val (.ref b36), .val (.int i3), .val (.int (1 : Int32)), sl1] []))
            have hck : (C3 1).toInt = cnt KK i3.toInt.toNat 1 := hpg151_1 1 (by decide)
            have hcr := cnt_rng KK i3.toInt.toNat 1
            have hlt := cnt_lt KK (i := i3.toInt.toNat) (j := nn.toInt.toNat) (r := 1) (by omega) (by rw [hv_v161]; decide)
            refine Go.st (fun _ k => XS.aloadN Xg151.here hx rfl (hb hby d1_93) rfl rfl k) ?_
            refine Go.st (fun _ k => XS.iload Xg151.here hx rfl (hb hby d1_94) rfl k) ?_
            refine Go.st (RV.ild Xg151 hx hZ eg151 hfg151_2 (j := (1 : Int32)) (by decide) (by decide) (g := (mkF m 96 #[.val (.ref cl), .val (.int (3 : Int32)), .val (.ref b2), .val (.ref b36), .val (.int i3), .val (.int (1 : Int32)), sl1] [(.int (1 : Int32)), (.ref b36)])) rfl rfl (hb hby d1_96)) ?_
            show Go p e below s Q 5 18 (Tg151.setTop (mkF m 97 #[.val (.ref cl), .val (.int (3 : Int32)), .val (.ref b2), .val (.ref b36), .val (.int i3), .val (.int (1 : Int32)), sl1] [(.ref b76)]))
            refine Go.st (fun _ k => XS.aloadN Xg151.here hx rfl (hb hby d1_97) rfl rfl k) ?_
            refine Go.st (fun _ k => XS.iload Xg151.here hx rfl (hb hby d1_98) rfl k) ?_
            refine Go.st (fun _ k => XT.dup2 Xg151.here hx rfl (hb hby d1_100) rfl rfl rfl k) ?_
            refine Go.st (Vec.ildI Xg151 hx hZ eg151 hfg151_1 (j := (1 : Int32)) (by decide) (by decide) (g := (mkF m 101 #[.val (.ref cl), .val (.int (3 : Int32)), .val (.ref b2), .val (.ref b36), .val (.int i3), .val (.int (1 : Int32)), sl1] [(.int (1 : Int32)), (.ref b2), (.int (1 : Int32)), (.ref b2), (.ref b76)])) rfl rfl (hb hby d1_101)) ?_
            show Go p e below s Q 5 18 (Tg151.setTop (mkF m 102 #[.val (.ref cl), .val (.int (3 : Int32)), .val (.ref b2), .val (.ref b36), .val (.int i3), .val (.int (1 : Int32)), sl1] [(.int (C3 1)), (.int (1 : Int32)), (.ref b2), (.ref b76)]))
            refine Go.st (fun _ k => dupX2 Xg151.here hx rfl (hb hby d1_102) rfl rfl rfl rfl k) ?_
            refine Go.st (fun _ k => XS.iconst Xg151.here hx rfl (hb hby d1_103) k) ?_
            refine Go.st (fun _ k => XS.iadd Xg151.here hx rfl (hb hby d1_104) rfl k) ?_
            show Go p e below s Q 5 18 (Tg151.setTop (mkF m 105 #[.val (.ref cl), .val (.int (3 : Int32)), .val (.ref b2), .val (.ref b36), .val (.int i3), .val (.int (1 : Int32)), sl1] [(.int ((C3 1) + (1 : Int32))), (.int (1 : Int32)), (.ref b2), (.int (C3 1)), (.ref b76)]))
            have f195 := rng32 (C3 1)
            have f196 := c_iadd (C3 1) (1 : Int32)
            have f197 := rng32 ((C3 1) + (1 : Int32))
            obtain ⟨T198, h198, X198, e198, W198, V198, st198⟩ := Vec.istI Xg151 hx hZ eg151 hfg151_1 (j := (1 : Int32)) (by decide) (by decide) (g := (mkF m 105 #[.val (.ref cl), .val (.int (3 : Int32)), .val (.ref b2), .val (.ref b36), .val (.int i3), .val (.int (1 : Int32)), sl1] [(.int ((C3 1) + (1 : Int32))), (.int (1 : Int32)), (.ref b2), (.int (C3 1)), (.ref b76)])) rfl rfl (hb hby d1_105)
            have h199 : Vec Z h198 cl .int nn (ints KK) := hfg151_0.other W198 q5
            have h200 : Vec Z h198 b2 .int (3 : Int32) (ints (updF C3 1 ((C3 1) + (1 : Int32)))) := V198
            have h201 : RV Z h198 b36 (3 : Int32) [(.ref b48), (.ref b76), (.ref b111)] := hfg151_2.other W198 (Ne.symm q40)
            have h202 : Vec Z h198 b48 .int l0 (ints g0) := hfg151_3.other W198 (Ne.symm q52)
            have h203 : Vec Z h198 b76 .int l1 (ints g1) := hfg151_4.other W198 (Ne.symm q80)
            have h204 : Vec Z h198 b111 .int l2 (ints g2) := hfg151_5.other W198 (Ne.symm q115)
            have K198 : Keep h0 h198 [] := Kg151.wr W198 (Or.inr szb2)
            have N198 := Fr.snoc X198 Ng151 Gb2
            refine Go.st st198 ?_
            show Go p e below s Q 5 18 (T198.setTop (mkF m 106 #[.val (.ref cl), .val (.int (3 : Int32)), .val (.ref b2), .val (.ref b36), .val (.int i3), .val (.int (1 : Int32)), sl1] [(.int (C3 1)), (.ref b76)]))
            refine Go.st (fun _ k => XS.iload X198.here hx rfl (hb hby d1_106) rfl k) ?_
            have r206 : 0 ≤ (C3 1).toInt := by omega
            have r207 : (C3 1).toInt < l1.toInt := by omega
            obtain ⟨T205, h205, X205, e205, W205, V205, st205⟩ := Vec.istI X198 hx hZ e198 h203 (j := (C3 1)) r206 r207 (g := (mkF m 108 #[.val (.ref cl), .val (.int (3 : Int32)), .val (.ref b2), .val (.ref b36), .val (.int i3), .val (.int (1 : Int32)), sl1] [(.int i3), (.int (C3 1)), (.ref b76)])) rfl rfl (hb hby d1_108)
            have h208 : Vec Z h205 cl .int nn (ints KK) := h199.other W205 q79
            have h209 : Vec Z h205 b2 .int (3 : Int32) (ints (updF C3 1 ((C3 1) + (1 : Int32)))) := h200.other W205 q80
            have h210 : RV Z h205 b36 (3 : Int32) [(.ref b48), (.ref b76), (.ref b111)] := h201.other W205 q81
            have h211 : Vec Z h205 b48 .int l0 (ints g0) := h202.other W205 q82
            have h212 : Vec Z h205 b76 .int l1 (ints (updF g1 (C3 1).toInt.toNat i3)) := V205
            have h213 : Vec Z h205 b111 .int l2 (ints g2) := h204.other W205 (Ne.symm q118)
            have K205 : Keep h0 h205 [] := K198.wr W205 (Or.inr szb76)
            have N205 := Fr.snoc X205 N198 Gb76
            refine Go.st st205 ?_
            show Go p e below s Q 5 18 (T205.setTop (mkF m 109 #[.val (.ref cl), .val (.int (3 : Int32)), .val (.ref b2), .val (.ref b36), .val (.int i3), .val (.int (1 : Int32)), sl1] []))
            refine Go.st (fun _ k => XS.iinc X205.here hx rfl (hb hby d1_109) rfl (l' := #[.val (.ref cl), .val (.int (3 : Int32)), .val (.ref b2), .val (.ref b36), .val (.int (i3 + (1 : Int32))), .val (.int (1 : Int32)), sl1]) rfl k) ?_
            show Go p e below s Q 5 18 (T205.setTop (mkF m 112 #[.val (.ref cl), .val (.int (3 : Int32)), .val (.ref b2), .val (.ref b36), .val (.int (i3 + (1 : Int32))), .val (.int (1 : Int32)), sl1] []))
            have f214 := c_iadd i3 (1 : Int32)
            have f215 := rng32 (i3 + (1 : Int32))
            generalize hv_v216 : (i3 + (1 : Int32)) = v216 at f214 f215 ⊢
            refine Go.st (fun _ k => XS.goto X205.here hx rfl (pc0 := 112) (pc' := 80) rfl (hb hby d1_112) (by decide) (by decide) k) ?_
            show Go p e below s Q 5 18 (T205.setTop (mkF m 80 #[.val (.ref cl), .val (.int (3 : Int32)), .val (.ref b2), .val (.ref b36), .val (.int v216), .val (.int (1 : Int32)), sl1] []))
            exact ihg151 _ (by omega) T205 h205 _ (up X205 (by decide) (by decide)) e205 N205 K205 v216 (1 : Int32) (updF C3 1 ((C3 1) + (1 : Int32))) g0 (updF g1 (C3 1).toInt.toNat i3) g2 h208 h209 h210 h211 h212 h213 (by omega) (by exact cnt_upd (x := 1) hpg151_1 (by rw [hv_v161]; decide) (by omega) (by decide) (by omega)) (by exact G_keep hpg151_2 (by rw [hv_v161]; decide) (by omega)) (by exact G_upd hpg151_3 (by omega) (by omega) (by omega)) (by exact G_keep hpg151_4 (by rw [hv_v161]; decide) (by omega)) rfl
          ·
            have cs165' : v161 = (2 : Int32) := eqI cs165 liI_2 rfl
            subst cs165'
            have f217 := liI_2
            show Go p e below s Q 5 18 (Tg151.setTop (mkF m 93 #[.val (.ref cl), .val (.int (3 : Int32)), .val (.ref b2), .val (.ref b36), .val (.int i3), .val (.int (2 : Int32)), sl1] []))
            have hck : (C3 2).toInt = cnt KK i3.toInt.toNat 2 := hpg151_1 2 (by decide)
            have hcr := cnt_rng KK i3.toInt.toNat 2
            have hlt := cnt_lt KK (i := i3.toInt.toNat) (j := nn.toInt.toNat) (r := 2) (by omega) (by rw [hv_v161]; decide)
            refine Go.st (fun _ k => XS.aloadN Xg151.here hx rfl (hb hby d1_93) rfl rfl k) ?_
            refine Go.st (fun _ k => XS.iload Xg151.here hx rfl (hb hby d1_94) rfl k) ?_
            refine Go.st (RV.ild Xg151 hx hZ eg151 hfg151_2 (j := (2 : Int32)) (by decide) (by decide) (g := (mkF m 96 #[.val (.ref cl), .val (.int (3 : Int32)), .val (.ref b2), .val (.ref b36), .val (.int i3), .val (.int (2 : Int32)), sl1] [(.int (2 : Int32)), (.ref b36)])) rfl rfl (hb hby d1_96)) ?_
            show Go p e below s Q 5 18 (Tg151.setTop (mkF m 97 #[.val (.ref cl), .val (.int (3 : Int32)), .val (.ref b2), .val (.ref b36), .val (.int i3), .val (.int (2 : Int32)), sl1] [(.ref b111)]))
            refine Go.st (fun _ k => XS.aloadN Xg151.here hx rfl (hb hby d1_97) rfl rfl k) ?_
            refine Go.st (fun _ k => XS.iload Xg151.here hx rfl (hb hby d1_98) rfl k) ?_
            refine Go.st (fun _ k => XT.dup2 Xg151.here hx rfl (hb hby d1_100) rfl rfl rfl k) ?_
            refine Go.st (Vec.ildI Xg151 hx hZ eg151 hfg151_1 (j := (2 : Int32)) (by decide) (by decide) (g := (mkF m 101 #[.val (.ref cl), .val (.int (3 : Int32)), .val (.ref b2), .val (.ref b36), .val (.int i3), .val (.int (2 : Int32)), sl1] [(.int (2 : Int32)), (.ref b2), (.int (2 : Int32)), (.ref b2), (.ref b111)])) rfl rfl (hb hby d1_101)) ?_
            show Go p e below s Q 5 18 (Tg151.setTop (mkF m 102 #[.val (.ref cl), .val (.int (3 : Int32)), .val (.ref b2), .val (.ref b36), .val (.int i3), .val (.int (2 : Int32)), sl1] [(.int (C3 2)), (.int (2 : Int32)), (.ref b2), (.ref b111)]))
            refine Go.st (fun _ k => dupX2 Xg151.here hx rfl (hb hby d1_102) rfl rfl rfl rfl k) ?_
            refine Go.st (fun _ k => XS.iconst Xg151.here hx rfl (hb hby d1_103) k) ?_
            refine Go.st (fun _ k => XS.iadd Xg151.here hx rfl (hb hby d1_104) rfl k) ?_
            show Go p e below s Q 5 18 (Tg151.setTop (mkF m 105 #[.val (.ref cl), .val (.int (3 : Int32)), .val (.ref b2), .val (.ref b36), .val (.int i3), .val (.int (2 : Int32)), sl1] [(.int ((C3 2) + (1 : Int32))), (.int (2 : Int32)), (.ref b2), (.int (C3 2)), (.ref b111)]))
            have f220 := rng32 (C3 2)
            have f221 := liI_1
            have f222 := c_iadd (C3 2) (1 : Int32)
            have f223 := rng32 ((C3 2) + (1 : Int32))
            obtain ⟨T224, h224, X224, e224, W224, V224, st224⟩ := Vec.istI Xg151 hx hZ eg151 hfg151_1 (j := (2 : Int32)) (by decide) (by decide) (g := (mkF m 105 #[.val (.ref cl), .val (.int (3 : Int32)), .val (.ref b2), .val (.ref b36), .val (.int i3), .val (.int (2 : Int32)), sl1] [(.int ((C3 2) + (1 : Int32))), (.int (2 : Int32)), (.ref b2), (.int (C3 2)), (.ref b111)])) rfl rfl (hb hby d1_105)
            have h225 : Vec Z h224 cl .int nn (ints KK) := hfg151_0.other W224 q5
            have h226 : Vec Z h224 b2 .int (3 : Int32) (ints (updF C3 2 ((C3 2) + (1 : Int32)))) := V224
            have h227 : RV Z h224 b36 (3 : Int32) [(.ref b48), (.ref b76), (.ref b111)] := hfg151_2.other W224 (Ne.symm q40)
            have h228 : Vec Z h224 b48 .int l0 (ints g0) := hfg151_3.other W224 (Ne.symm q52)
            have h229 : Vec Z h224 b76 .int l1 (ints g1) := hfg151_4.other W224 (Ne.symm q80)
            have h230 : Vec Z h224 b111 .int l2 (ints g2) := hfg151_5.other W224 (Ne.symm q115)
            have K224 : Keep h0 h224 [] := Kg151.wr W224 (Or.inr szb2)
            have N224 := Fr.snoc X224 Ng151 Gb2
            refine Go.st st224 ?_
            show Go p e below s Q 5 18 (T224.setTop (mkF m 106 #[.val (.ref cl), .val (.int (3 : Int32)), .val (.ref b2), .val (.ref b36), .val (.int i3), .val (.int (2 : Int32)), sl1] [(.int (C3 2)), (.ref b111)]))
            refine Go.st (fun _ k => XS.iload X224.here hx rfl (hb hby d1_106) rfl k) ?_
            have r232 : 0 ≤ (C3 2).toInt := by omega
            have r233 : (C3 2).toInt < l2.toInt := by omega
            obtain ⟨T231, h231, X231, e231, W231, V231, st231⟩ := Vec.istI X224 hx hZ e224 h230 (j := (C3 2)) r232 r233 (g := (mkF m 108 #[.val (.ref cl), .val (.int (3 : Int32)), .val (.ref b2), .val (.ref b36), .val (.int i3), .val (.int (2 : Int32)), sl1] [(.int i3), (.int (C3 2)), (.ref b111)])) rfl rfl (hb hby d1_108)
            have h234 : Vec Z h231 cl .int nn (ints KK) := h225.other W231 q114
            have h235 : Vec Z h231 b2 .int (3 : Int32) (ints (updF C3 2 ((C3 2) + (1 : Int32)))) := h226.other W231 q115
            have h236 : RV Z h231 b36 (3 : Int32) [(.ref b48), (.ref b76), (.ref b111)] := h227.other W231 q116
            have h237 : Vec Z h231 b48 .int l0 (ints g0) := h228.other W231 q117
            have h238 : Vec Z h231 b76 .int l1 (ints g1) := h229.other W231 q118
            have h239 : Vec Z h231 b111 .int l2 (ints (updF g2 (C3 2).toInt.toNat i3)) := V231
            have K231 : Keep h0 h231 [] := K224.wr W231 (Or.inr szb111)
            have N231 := Fr.snoc X231 N224 Gb111
            refine Go.st st231 ?_
            show Go p e below s Q 5 18 (T231.setTop (mkF m 109 #[.val (.ref cl), .val (.int (3 : Int32)), .val (.ref b2), .val (.ref b36), .val (.int i3), .val (.int (2 : Int32)), sl1] []))
            refine Go.st (fun _ k => XS.iinc X231.here hx rfl (hb hby d1_109) rfl (l' := #[.val (.ref cl), .val (.int (3 : Int32)), .val (.ref b2), .val (.ref b36), .val (.int (i3 + (1 : Int32))), .val (.int (2 : Int32)), sl1]) rfl k) ?_
            show Go p e below s Q 5 18 (T231.setTop (mkF m 112 #[.val (.ref cl), .val (.int (3 : Int32)), .val (.ref b2), .val (.ref b36), .val (.int (i3 + (1 : Int32))), .val (.int (2 : Int32)), sl1] []))
            have f240 := c_iadd i3 (1 : Int32)
            have f241 := rng32 (i3 + (1 : Int32))
            generalize hv_v242 : (i3 + (1 : Int32)) = v242 at f240 f241 ⊢
            refine Go.st (fun _ k => XS.goto X231.here hx rfl (pc0 := 112) (pc' := 80) rfl (hb hby d1_112) (by decide) (by decide) k) ?_
            show Go p e below s Q 5 18 (T231.setTop (mkF m 80 #[.val (.ref cl), .val (.int (3 : Int32)), .val (.ref b2), .val (.ref b36), .val (.int v242), .val (.int (2 : Int32)), sl1] []))
            exact ihg151 _ (by omega) T231 h231 _ (up X231 (by decide) (by decide)) e231 N231 K231 v242 (2 : Int32) (updF C3 2 ((C3 2) + (1 : Int32))) g0 g1 (updF g2 (C3 2).toInt.toNat i3) h234 h235 h236 h237 h238 h239 (by omega) (by exact cnt_upd (x := 2) hpg151_1 (by rw [hv_v161]; decide) (by omega) (by decide) (by omega)) (by exact G_keep hpg151_2 (by rw [hv_v161]; decide) (by omega)) (by exact G_keep hpg151_3 (by rw [hv_v161]; decide) (by omega)) (by exact G_upd hpg151_4 (by omega) (by omega) (by omega)) rfl
        ·
          refine Go.st (fun _ k => XS.icmpYes Xg151.here hx rfl (pc0 := 84) (pc' := 115) rfl (hb hby d1_84) rfl (flt (nltI rfl rfl c156)).2.1 (by decide) (by decide) k) ?_
          refine Go.st (fun _ k => XS.aloadN Xg151.here hx rfl (hb hby d1_115) rfl rfl k) ?_
          show Go p e below s Q 5 18 (Tg151.setTop (mkF m 116 #[.val (.ref cl), .val (.int (3 : Int32)), .val (.ref b2), .val (.ref b36), .val (.int i3), .val (.int x5), sl1] [(.ref b36)]))
          exact Go.retA Xg151 hx hlk rfl Bd.returns rfl (hb hby d1_116) (by rw [← hQ, eg151]; exact ⟨b36, b48, l0, g0, b76, l1, g1, b111, l2, g2, rfl, Ng151, (by exact hl0), (by exact hl1), (by exact hl2), (by exact (show i3.toInt.toNat = nn.toInt.toNat by omega) ▸ hpg151_2), (by exact (show i3.toInt.toNat = nn.toInt.toNat by omega) ▸ hpg151_3), (by exact (show i3.toInt.toNat = nn.toInt.toNat by omega) ▸ hpg151_4), Kg151, hfg151_2, hfg151_3, hfg151_4, hfg151_5⟩) (by decide) (by decide)
      have f243 := liI_0
      exact lp152 _ T139 h139 _ (up X139 (by decide) (by decide)) e139 N139 K139 (0 : Int32) i1 (updF (updF (updF C1 0 (0 : Int32)) 1 (0 : Int32)) 2 (0 : Int32)) (fun _ => (0 : Int32)) (fun _ => (0 : Int32)) (fun _ => (0 : Int32)) h140 h142 h143 h145 h147 h149 (by omega) (by intro r hr; rcases (by omega : r = 0 ∨ r = 1 ∨ r = 2) with rfl | rfl | rfl <;> rfl) (by intro j hj; exact absurd hj (Nat.not_lt_zero j)) (by intro j hj; exact absurd hj (Nat.not_lt_zero j)) (by intro j hj; exact absurd hj (Nat.not_lt_zero j)) rfl
  have f244 := rng32 nn
  have f245 := liI_0
  exact lp10 _ T2 h2 _ (up X2 (by decide) (by decide)) e2 N0 K2 (0 : Int32) (fun _ => (0 : Int32)) (.unset) h6 B2 h7 (by omega) (by intro r hr; rfl) One.u rfl
theorem liI_4 : (4 : Int32).toInt = 4 := by decide
theorem ef_rmc4 (m : MethodId) (cl : Addr) : entryFrame m #[(.ref cl), (.int (4 : Int32))] 7 = mkF m 0 #[.val (.ref cl), .val (.int (4 : Int32)), .unset, .unset, .unset, .unset, .unset] [] := by first | (simp [entryFrame, mkF, argsToLocals, Value.category]; done) | rfl
def Qc4 (Z : State) (cl : Addr) (nn : Int32) (KK : Nat → Int32) (h0 : Heap) (n0 : Nat) (vv : Option Value) (h : Heap) (LL : List Loc) : Prop := ∃ (res : Addr) (w0 : Addr) (l0 : Int32) (g0 : Nat → Int32) (w1 : Addr) (l1 : Int32) (g1 : Nat → Int32) (w2 : Addr) (l2 : Int32) (g2 : Nat → Int32) (w3 : Addr) (l3 : Int32) (g3 : Nat → Int32), vv = some (.ref res) ∧ Fr n0 LL ∧ (l0.toInt = cnt KK nn.toInt.toNat 0) ∧ (l1.toInt = cnt KK nn.toInt.toNat 1) ∧ (l2.toInt = cnt KK nn.toInt.toNat 2) ∧ (l3.toInt = cnt KK nn.toInt.toNat 3) ∧ (∀ j : Nat, j < nn.toInt.toNat → (KK j).toInt = 0 → (g0 (cnt KK j 0).toNat).toInt = j) ∧ (∀ j : Nat, j < nn.toInt.toNat → (KK j).toInt = 1 → (g1 (cnt KK j 1).toNat).toInt = j) ∧ (∀ j : Nat, j < nn.toInt.toNat → (KK j).toInt = 2 → (g2 (cnt KK j 2).toNat).toInt = j) ∧ (∀ j : Nat, j < nn.toInt.toNat → (KK j).toInt = 3 → (g3 (cnt KK j 3).toNat).toInt = j) ∧ Keep h0 h [] ∧ (RV Z h res (4 : Int32) [(.ref w0), (.ref w1), (.ref w2), (.ref w3)]) ∧ (Vec Z h w0 .int l0 (ints g0)) ∧ (Vec Z h w1 .int l1 (ints g1)) ∧ (Vec Z h w2 .int l2 (ints g2)) ∧ (Vec Z h w3 .int l3 (ints g3))
set_option maxRecDepth 65536 in
set_option maxHeartbeats 40000000 in
theorem rmc4 (l : Launch) (Z : State) (a0 : Array Value) (hw : ∀ d ∈ tables_1, d.before a0 Z = true) (ws : List Jvm.Cond) (cl : Addr) (nn : Int32) (KK : Nat → Int32) (h0 : Heap) (n0 : Nat) (Z0 : n0 ≤ h0.size) (hV : Vec Z h0 cl .int nn (ints KK)) (hn : 0 ≤ nn.toInt ∧ nn.toInt ≤ 4) (hKr : ∀ j : Nat, (j : Int) < nn.toInt → 0 ≤ (KK j).toInt ∧ (KK j).toInt < 4) :
    MetFree l (⟨"com/example/rackwise/rackwise/RackCosts", "clientsOfRacks", "([II)[[I"⟩ : MethodName) (head1 (Jvm.Cond.code (⟨"com/example/rackwise/rackwise/RackCosts", "clientsOfRacks", "([II)[[I"⟩ : MethodName) prog_99_method_9_code 7 (some (.array (.array .int))) :: ws) ({ frames := 0, cells := 6, slots := 24, locals := 0 } : Room)) (fun aa UU => aa = #[(.ref cl), (.int (4 : Int32))] ∧ Z.Warmed39 UU.vm ∧ UU.heap = h0) (fun _ _ _ _ _ => True) (fun _ UU oo UU' => ∃ vv LL, oo = .returned vv ∧ Qc4 Z cl nn KK h0 n0 vv UU'.heap LL ∧ FrameEnd UU oo UU' LL 6 24) := by
  refine MetFree.of_bodySF (plainFor_of_name pn_0) hisR ?_
  intro p e s m args below meth c s₁ Bd hml0 hP hK
  obtain ⟨rfl, hZ, hh⟩ := hP
  have hx := Bd.exec
  have hby := Bd.bytes
  have hlk : meth.locks = false := BodyLoose.notSynchronized Bd
  have hml : c.maxLocals = 7 := hml0
  have hown : s.vm.findClass "com/example/rackwise/rackwise/RackCosts" = some m.cls := findClass_of_methodNamed Bd.named
  have hnm := (name_of_methodNamed Bd.named Bd.method).1
  have X0 : Stand p l e ({ frames := 0, cells := 6, slots := 24, locals := 0 } : Room) s m #[(.ref cl), (.int (4 : Int32))] below meth c s₁ [] 0 0 := Stand.of_body Bd
  have e0 : s₁.heap = h0 := by rw [← hh, Bd.state]; rfl
  have N0 := Fr.nil n0
  have K0 : Keep h0 h0 [] := Keep.refl h0 _
  refine (?_ : Go p e below s (Qc4 Z cl nn KK h0 n0) 6 24 (s₁.setTop (entryFrame m #[(.ref cl), (.int (4 : Int32))] 7)))
  rw [ef_rmc4]
  generalize hQ : Qc4 Z cl nn KK h0 n0 = Q
  have hnn := rng32 nn
  show Go p e below s Q 6 24 (s₁.setTop (mkF m 0 #[.val (.ref cl), .val (.int (4 : Int32)), .unset, .unset, .unset, .unset, .unset] []))
  have f1 := liI_4
  refine Go.st (fun _ k => XS.iloadN X0.here hx rfl (hb hby d1_0) rfl k) ?_
  have r3 : 0 ≤ (4 : Int32).toInt := by decide
  have r4 : (4 : Int32).toNatClampNeg ≤ 4 := by decide
  obtain ⟨T2, h2, k2, X2, e2, E2, A2, B2, st2⟩ := newPE X0 hx hZ (hw _ (List.mem_of_getElem? (i := 1) rfl)) e0 (g := (mkF m 1 #[.val (.ref cl), .val (.int (4 : Int32)), .unset, .unset, .unset, .unset, .unset] [(.int (4 : Int32))])) rfl (hb hby d1_1) rfl (not_neg r3) (cap := 4) r4 (by decide) (by decide) (by decide) (ad := "[I") (by decide)
  obtain ⟨b2, g2⟩ : ∃ z, z = h0.size := ⟨_, rfl⟩
  rw [← g2] at A2 B2 st2
  have q5 : Hid (cl ≠ b2) := Nat.ne_of_lt (Nat.lt_of_lt_of_le hV.lt (Nat.le_of_eq g2.symm))
  have h6 : Vec Z h2 cl .int nn (ints KK) := hV.ext E2
  have Gb2 : Hid (n0 ≤ b2) := Nat.le_trans (Nat.le_trans Z0 K0.1) (Nat.le_of_eq g2.symm)
  have szb2 : Hid (h0.size ≤ b2) := Nat.le_trans K0.1 (Nat.le_of_eq g2.symm)
  have K2 : Keep h0 h2 [] := K0.ext E2
  have h7 : Vec Z h2 b2 .int (4 : Int32) (ints (fun _ => (0 : Int32))) := Vec.new A2 r3
  refine Go.st st2 ?_
  show Go p e below s Q 6 24 (T2.setTop (mkF m 3 #[.val (.ref cl), .val (.int (4 : Int32)), .unset, .unset, .unset, .unset, .unset] [(.ref b2)]))
  refine Go.st (fun _ k => XS.astoreN X2.here hx rfl (hb hby d1_3) rfl rfl (l' := #[.val (.ref cl), .val (.int (4 : Int32)), .val (.ref b2), .unset, .unset, .unset, .unset]) rfl k) ?_
  refine Go.st (fun _ k => XS.aloadN X2.here hx rfl (hb hby d1_4) rfl rfl k) ?_
  refine Go.st (fun _ k => XS.astoreN X2.here hx rfl (hb hby d1_5) rfl rfl (l' := #[.val (.ref cl), .val (.int (4 : Int32)), .val (.ref b2), .val (.ref cl), .unset, .unset, .unset]) rfl k) ?_
  refine Go.st (fun _ k => XS.aloadN X2.here hx rfl (hb hby d1_6) rfl rfl k) ?_
  refine Go.st (Vec.len X2 hx hZ e2 h6 (g := (mkF m 7 #[.val (.ref cl), .val (.int (4 : Int32)), .val (.ref b2), .val (.ref cl), .unset, .unset, .unset] [(.ref cl)])) rfl rfl (hb hby d1_7)) ?_
  show Go p e below s Q 6 24 (T2.setTop (mkF m 8 #[.val (.ref cl), .val (.int (4 : Int32)), .val (.ref b2), .val (.ref cl), .unset, .unset, .unset] [(.int nn)]))
  refine Go.st (fun _ k => XS.istore X2.here hx rfl (hb hby d1_8) rfl (l' := #[.val (.ref cl), .val (.int (4 : Int32)), .val (.ref b2), .val (.ref cl), .val (.int nn), .unset, .unset]) rfl k) ?_
  refine Go.st (fun _ k => XS.iconst X2.here hx rfl (hb hby d1_10) k) ?_
  refine Go.st (fun _ k => XS.istore X2.here hx rfl (hb hby d1_11) rfl (l' := #[.val (.ref cl), .val (.int (4 : Int32)), .val (.ref b2), .val (.ref cl), .val (.int nn), .val (.int (0 : Int32)), .unset]) rfl k) ?_
  show Go p e below s Q 6 24 (T2.setTop (mkF m 13 #[.val (.ref cl), .val (.int (4 : Int32)), .val (.ref b2), .val (.ref cl), .val (.int nn), .val (.int (0 : Int32)), .unset] []))
  have lp10 : ∀ (kg9 : Nat) (Tg9 : State) (hg9 : Heap) (Lgg9 : List Loc) (Xg9 : Stand p l e ({ frames := 0, cells := 6, slots := 24, locals := 0 } : Room) s m #[(.ref cl), (.int (4 : Int32))] below meth c Tg9 Lgg9 1 4) (eg9 : Tg9.heap = hg9) (Ng9 : Fr n0 Lgg9) (Kg9 : Keep h0 hg9 []) (i1 : Int32) (C1 : Nat → Int32) (sl1 : Slot) (hfg9_0 : Vec Z hg9 cl .int nn (ints KK)) (hfg9_1 : Exa Z hg9 b2 "[I") (hfg9_2 : Vec Z hg9 b2 .int (4 : Int32) (ints C1)) (hpg9_0 : 0 ≤ i1.toInt ∧ i1.toInt ≤ nn.toInt) (hpg9_1 : ∀ r : Nat, r < 4 → (C1 r).toInt = cnt KK i1.toInt.toNat r) (hpg9_2 : One sl1), (nn.toInt - i1.toInt).toNat = kg9 → Go p e below s Q 6 24 (Tg9.setTop (mkF m 13 #[.val (.ref cl), .val (.int (4 : Int32)), .val (.ref b2), .val (.ref cl), .val (.int nn), .val (.int i1), sl1] [])) := by
    intro kg9
    induction kg9 using Nat.strongRecOn with
    | ind kg9 ihg9 =>
    intro Tg9 hg9 Lgg9 Xg9 eg9 Ng9 Kg9 i1 C1 sl1 hfg9_0 hfg9_1 hfg9_2 hpg9_0 hpg9_1 hpg9_2 hkg9
    have f11 := rng32 i1
    show Go p e below s Q 6 24 (Tg9.setTop (mkF m 13 #[.val (.ref cl), .val (.int (4 : Int32)), .val (.ref b2), .val (.ref cl), .val (.int nn), .val (.int i1), sl1] []))
    refine Go.st (fun _ k => XS.iload Xg9.here hx rfl (hb hby d1_13) rfl k) ?_
    refine Go.st (fun _ k => XS.iload Xg9.here hx rfl (hb hby d1_15) rfl k) ?_
    have f12 := rng32 nn
    by_cases c13 : i1.toInt < nn.toInt
    ·
      refine Go.st (fun _ k => XS.icmpNo Xg9.here hx rfl (hb hby d1_17) rfl (tlt (ltI rfl rfl c13)).2.1 k) ?_
      refine Go.st (fun _ k => XS.aloadN Xg9.here hx rfl (hb hby d1_20) rfl rfl k) ?_
      refine Go.st (fun _ k => XS.iload Xg9.here hx rfl (hb hby d1_21) rfl k) ?_
      have r15 : 0 ≤ i1.toInt := by omega
      have r16 : i1.toInt < nn.toInt := by omega
      refine Go.st (Vec.ildI Xg9 hx hZ eg9 hfg9_0 (j := i1) r15 r16 (g := (mkF m 23 #[.val (.ref cl), .val (.int (4 : Int32)), .val (.ref b2), .val (.ref cl), .val (.int nn), .val (.int i1), sl1] [(.int i1), (.ref cl)])) rfl rfl (hb hby d1_23)) ?_
      show Go p e below s Q 6 24 (Tg9.setTop (mkF m 24 #[.val (.ref cl), .val (.int (4 : Int32)), .val (.ref b2), .val (.ref cl), .val (.int nn), .val (.int i1), sl1] [(.int (KK i1.toInt.toNat))]))
      refine Go.st (fun _ k => XS.istoreS Xg9.here hx rfl (hb hby d1_24) rfl rfl hpg9_2 k) ?_
      show Go p e below s Q 6 24 (Tg9.setTop (mkF m 26 #[.val (.ref cl), .val (.int (4 : Int32)), .val (.ref b2), .val (.ref cl), .val (.int nn), .val (.int i1), .val (.int (KK i1.toInt.toNat))] []))
      have f17 := rng32 (KK i1.toInt.toNat)
      generalize hv_v18 : (KK i1.toInt.toNat) = v18 at f17 ⊢
      have hKi : 0 ≤ v18.toInt ∧ v18.toInt < 4 := by have q := hKr i1.toInt.toNat (by omega); rw [hv_v18] at q; exact q
      have hck := hpg9_1 v18.toInt.toNat (by omega)
      have hcr := cnt_rng KK i1.toInt.toNat (v18.toInt.toNat : Nat)
      refine Go.st (fun _ k => XS.aloadN Xg9.here hx rfl (hb hby d1_26) rfl rfl k) ?_
      refine Go.st (fun _ k => XS.iload Xg9.here hx rfl (hb hby d1_27) rfl k) ?_
      refine Go.st (fun _ k => XT.dup2 Xg9.here hx rfl (hb hby d1_29) rfl rfl rfl k) ?_
      have r20 : 0 ≤ v18.toInt := by omega
      have r21 : v18.toInt < (4 : Int32).toInt := by omega
      refine Go.st (Vec.ildI Xg9 hx hZ eg9 hfg9_2 (j := v18) r20 r21 (g := (mkF m 30 #[.val (.ref cl), .val (.int (4 : Int32)), .val (.ref b2), .val (.ref cl), .val (.int nn), .val (.int i1), .val (.int v18)] [(.int v18), (.ref b2), (.int v18), (.ref b2)])) rfl rfl (hb hby d1_30)) ?_
      show Go p e below s Q 6 24 (Tg9.setTop (mkF m 31 #[.val (.ref cl), .val (.int (4 : Int32)), .val (.ref b2), .val (.ref cl), .val (.int nn), .val (.int i1), .val (.int v18)] [(.int (C1 v18.toInt.toNat)), (.int v18), (.ref b2)]))
      refine Go.st (fun _ k => XS.iconst Xg9.here hx rfl (hb hby d1_31) k) ?_
      refine Go.st (fun _ k => XS.iadd Xg9.here hx rfl (hb hby d1_32) rfl k) ?_
      show Go p e below s Q 6 24 (Tg9.setTop (mkF m 33 #[.val (.ref cl), .val (.int (4 : Int32)), .val (.ref b2), .val (.ref cl), .val (.int nn), .val (.int i1), .val (.int v18)] [(.int ((C1 v18.toInt.toNat) + (1 : Int32))), (.int v18), (.ref b2)]))
      have f22 := rng32 (C1 v18.toInt.toNat)
      have f23 := liI_1
      have f24 := c_iadd (C1 v18.toInt.toNat) (1 : Int32)
      have f25 := rng32 ((C1 v18.toInt.toNat) + (1 : Int32))
      have r27 : 0 ≤ v18.toInt := by omega
      have r28 : v18.toInt < (4 : Int32).toInt := by omega
      obtain ⟨T26, h26, X26, e26, W26, V26, st26⟩ := Vec.istI Xg9 hx hZ eg9 hfg9_2 (j := v18) r27 r28 (g := (mkF m 33 #[.val (.ref cl), .val (.int (4 : Int32)), .val (.ref b2), .val (.ref cl), .val (.int nn), .val (.int i1), .val (.int v18)] [(.int ((C1 v18.toInt.toNat) + (1 : Int32))), (.int v18), (.ref b2)])) rfl rfl (hb hby d1_33)
      have h29 : Vec Z h26 cl .int nn (ints KK) := hfg9_0.other W26 q5
      have h30 : Exa Z h26 b2 "[I" := hfg9_1.wr W26
      have h31 : Vec Z h26 b2 .int (4 : Int32) (ints (updF C1 v18.toInt.toNat ((C1 v18.toInt.toNat) + (1 : Int32)))) := V26
      have K26 : Keep h0 h26 [] := Kg9.wr W26 (Or.inr szb2)
      have N26 := Fr.snoc X26 Ng9 Gb2
      refine Go.st st26 ?_
      show Go p e below s Q 6 24 (T26.setTop (mkF m 34 #[.val (.ref cl), .val (.int (4 : Int32)), .val (.ref b2), .val (.ref cl), .val (.int nn), .val (.int i1), .val (.int v18)] []))
      refine Go.st (fun _ k => XS.iinc X26.here hx rfl (hb hby d1_34) rfl (l' := #[.val (.ref cl), .val (.int (4 : Int32)), .val (.ref b2), .val (.ref cl), .val (.int nn), .val (.int (i1 + (1 : Int32))), .val (.int v18)]) rfl k) ?_
      show Go p e below s Q 6 24 (T26.setTop (mkF m 37 #[.val (.ref cl), .val (.int (4 : Int32)), .val (.ref b2), .val (.ref cl), .val (.int nn), .val (.int (i1 + (1 : Int32))), .val (.int v18)] []))
      have f32 := c_iadd i1 (1 : Int32)
      have f33 := rng32 (i1 + (1 : Int32))
      generalize hv_v34 : (i1 + (1 : Int32)) = v34 at f32 f33 ⊢
      refine Go.st (fun _ k => XS.goto X26.here hx rfl (pc0 := 37) (pc' := 13) rfl (hb hby d1_37) (by decide) (by decide) k) ?_
      show Go p e below s Q 6 24 (T26.setTop (mkF m 13 #[.val (.ref cl), .val (.int (4 : Int32)), .val (.ref b2), .val (.ref cl), .val (.int nn), .val (.int v34), .val (.int v18)] []))
      exact ihg9 _ (by omega) T26 h26 _ (up X26 (by decide) (by decide)) e26 N26 K26 v34 (updF C1 v18.toInt.toNat ((C1 v18.toInt.toNat) + (1 : Int32))) (.val (.int v18)) h29 h30 h31 (by omega) (by exact cnt_upd hpg9_1 (by rw [hv_v18]; omega) (by omega) (by omega) (by omega)) (One.val rfl) rfl
    ·
      refine Go.st (fun _ k => XS.icmpYes Xg9.here hx rfl (pc0 := 17) (pc' := 40) rfl (hb hby d1_17) rfl (flt (nltI rfl rfl c13)).2.1 (by decide) (by decide) k) ?_
      show Go p e below s Q 6 24 (Tg9.setTop (mkF m 40 #[.val (.ref cl), .val (.int (4 : Int32)), .val (.ref b2), .val (.ref cl), .val (.int nn), .val (.int i1), sl1] []))
      have hin : i1.toInt.toNat = nn.toInt.toNat := by omega
      have hC := hpg9_1
      rw [hin] at hC
      have hcn0 := cnt_rng KK nn.toInt.toNat 0
      have hcn1 := cnt_rng KK nn.toInt.toNat 1
      have hcn2 := cnt_rng KK nn.toInt.toNat 2
      have hcn3 := cnt_rng KK nn.toInt.toNat 3
      refine Go.st (fun _ k => XS.aloadN Xg9.here hx rfl (hb hby d1_40) rfl rfl k) ?_
      refine Go.st (Vec.len Xg9 hx hZ eg9 hfg9_2 (g := (mkF m 41 #[.val (.ref cl), .val (.int (4 : Int32)), .val (.ref b2), .val (.ref cl), .val (.int nn), .val (.int i1), sl1] [(.ref b2)])) rfl rfl (hb hby d1_41)) ?_
      show Go p e below s Q 6 24 (Tg9.setTop (mkF m 42 #[.val (.ref cl), .val (.int (4 : Int32)), .val (.ref b2), .val (.ref cl), .val (.int nn), .val (.int i1), sl1] [(.int (4 : Int32))]))
      have r37 : 0 ≤ (4 : Int32).toInt := by decide
      have r38 : (4 : Int32).toNatClampNeg ≤ 4 := by decide
      obtain ⟨T36, h36, k36, X36, e36, E36, A36, B36, O36, st36⟩ := newRA Xg9 hx hZ hown (C := "[I") (ty := .int) (by decide) (hw _ (List.mem_of_getElem? (i := 6) rfl)) (hw _ (List.mem_of_getElem? (i := 7) rfl)) eg9 (g := (mkF m 42 #[.val (.ref cl), .val (.int (4 : Int32)), .val (.ref b2), .val (.ref cl), .val (.int nn), .val (.int i1), sl1] [(.int (4 : Int32))])) rfl (hb hby d1_42) rfl (not_neg r37) (cap := 4) r38 (by decide) (by decide) (by decide) (ad := "[[I") (by decide)
      obtain ⟨b36, g36⟩ : ∃ z, z = hg9.size := ⟨_, rfl⟩
      rw [← g36] at A36 B36 st36
      have q39 : Hid (cl ≠ b36) := Nat.ne_of_lt (Nat.lt_of_lt_of_le hfg9_0.lt (Nat.le_of_eq g36.symm))
      have q40 : Hid (b2 ≠ b36) := Nat.ne_of_lt (Nat.lt_of_lt_of_le hfg9_1.lt (Nat.le_of_eq g36.symm))
      have h41 : Vec Z h36 cl .int nn (ints KK) := hfg9_0.ext E36
      have h42 : Exa Z h36 b2 "[I" := hfg9_1.ext E36
      have h43 : Vec Z h36 b2 .int (4 : Int32) (ints C1) := hfg9_2.ext E36
      have Gb36 : Hid (n0 ≤ b36) := Nat.le_trans (Nat.le_trans Z0 Kg9.1) (Nat.le_of_eq g36.symm)
      have szb36 : Hid (h0.size ≤ b36) := Nat.le_trans Kg9.1 (Nat.le_of_eq g36.symm)
      have K36 : Keep h0 h36 [] := Kg9.ext E36
      have h44 : RV Z h36 b36 (4 : Int32) [.null, .null, .null, .null] := RV.new 4 A36 O36 r37
      refine Go.st st36 ?_
      show Go p e below s Q 6 24 (T36.setTop (mkF m 45 #[.val (.ref cl), .val (.int (4 : Int32)), .val (.ref b2), .val (.ref cl), .val (.int nn), .val (.int i1), sl1] [(.ref b36)]))
      refine Go.st (fun _ k => XS.astoreN X36.here hx rfl (hb hby d1_45) rfl rfl (l' := #[.val (.ref cl), .val (.int (4 : Int32)), .val (.ref b2), .val (.ref b36), .val (.int nn), .val (.int i1), sl1]) rfl k) ?_
      refine Go.st (fun _ k => XS.iconst X36.here hx rfl (hb hby d1_46) k) ?_
      refine Go.st (fun _ k => XS.istore X36.here hx rfl (hb hby d1_47) rfl (l' := #[.val (.ref cl), .val (.int (4 : Int32)), .val (.ref b2), .val (.ref b36), .val (.int (0 : Int32)), .val (.int i1), sl1]) rfl k) ?_
      refine Go.st (fun _ k => XS.iload X36.here hx rfl (hb hby d1_49) rfl k) ?_
      refine Go.st (fun _ k => XS.aloadN X36.here hx rfl (hb hby d1_51) rfl rfl k) ?_
      refine Go.st (RV.len X36 hx hZ e36 h44 (g := (mkF m 52 #[.val (.ref cl), .val (.int (4 : Int32)), .val (.ref b2), .val (.ref b36), .val (.int (0 : Int32)), .val (.int i1), sl1] [(.ref b36), (.int (0 : Int32))])) rfl rfl (hb hby d1_52)) ?_
      show Go p e below s Q 6 24 (T36.setTop (mkF m 53 #[.val (.ref cl), .val (.int (4 : Int32)), .val (.ref b2), .val (.ref b36), .val (.int (0 : Int32)), .val (.int i1), sl1] [(.int (4 : Int32)), (.int (0 : Int32))]))
      refine Go.st (fun _ k => XS.icmpNo X36.here hx rfl (hb hby d1_53) rfl (tlt (ltI liI_0 liI_4 (by decide))).2.1 k) ?_
      refine Go.st (fun _ k => XS.aloadN X36.here hx rfl (hb hby d1_56) rfl rfl k) ?_
      refine Go.st (fun _ k => XS.iload X36.here hx rfl (hb hby d1_57) rfl k) ?_
      refine Go.st (fun _ k => XS.aloadN X36.here hx rfl (hb hby d1_59) rfl rfl k) ?_
      refine Go.st (fun _ k => XS.iload X36.here hx rfl (hb hby d1_60) rfl k) ?_
      refine Go.st (Vec.ildI X36 hx hZ e36 h43 (j := (0 : Int32)) (by decide) (by decide) (g := (mkF m 62 #[.val (.ref cl), .val (.int (4 : Int32)), .val (.ref b2), .val (.ref b36), .val (.int (0 : Int32)), .val (.int i1), sl1] [(.int (0 : Int32)), (.ref b2), (.int (0 : Int32)), (.ref b36)])) rfl rfl (hb hby d1_62)) ?_
      show Go p e below s Q 6 24 (T36.setTop (mkF m 63 #[.val (.ref cl), .val (.int (4 : Int32)), .val (.ref b2), .val (.ref b36), .val (.int (0 : Int32)), .val (.int i1), sl1] [(.int (C1 0)), (.int (0 : Int32)), (.ref b36)]))
      have f47 := rng32 (C1 0)
      generalize hv_l0 : (C1 0) = l0 at f47 ⊢
      have hl0 : l0.toInt = cnt KK nn.toInt.toNat 0 := by rw [← hv_l0]; exact hC 0 (by decide)
      have r49 : 0 ≤ l0.toInt := by omega
      have r50 : l0.toNatClampNeg ≤ 4 := by rw [nat_cl]; omega
      obtain ⟨T48, h48, k48, X48, e48, E48, A48, B48, st48⟩ := newPE X36 hx hZ (hw _ (List.mem_of_getElem? (i := 1) rfl)) e36 (g := (mkF m 63 #[.val (.ref cl), .val (.int (4 : Int32)), .val (.ref b2), .val (.ref b36), .val (.int (0 : Int32)), .val (.int i1), sl1] [(.int l0), (.int (0 : Int32)), (.ref b36)])) rfl (hb hby d1_63) rfl (not_neg r49) (cap := 4) r50 (by decide) (by decide) (by decide) (ad := "[I") (by decide)
      obtain ⟨b48, g48⟩ : ∃ z, z = h36.size := ⟨_, rfl⟩
      rw [← g48] at A48 B48 st48
      have q51 : Hid (cl ≠ b48) := Nat.ne_of_lt (Nat.lt_of_lt_of_le h41.lt (Nat.le_of_eq g48.symm))
      have q52 : Hid (b2 ≠ b48) := Nat.ne_of_lt (Nat.lt_of_lt_of_le h42.lt (Nat.le_of_eq g48.symm))
      have q53 : Hid (b36 ≠ b48) := Nat.ne_of_lt (Nat.lt_of_lt_of_le h44.lt (Nat.le_of_eq g48.symm))
      have h54 : Vec Z h48 cl .int nn (ints KK) := h41.ext E48
      have h55 : Exa Z h48 b2 "[I" := h42.ext E48
      have h56 : Vec Z h48 b2 .int (4 : Int32) (ints C1) := h43.ext E48
      have h57 : RV Z h48 b36 (4 : Int32) [.null, .null, .null, .null] := h44.ext E48
      have Gb48 : Hid (n0 ≤ b48) := Nat.le_trans (Nat.le_trans Z0 K36.1) (Nat.le_of_eq g48.symm)
      have szb48 : Hid (h0.size ≤ b48) := Nat.le_trans K36.1 (Nat.le_of_eq g48.symm)
      have K48 : Keep h0 h48 [] := K36.ext E48
      have h58 : Vec Z h48 b48 .int l0 (ints (fun _ => (0 : Int32))) := Vec.new A48 r49
      refine Go.st st48 ?_
      show Go p e below s Q 6 24 (T48.setTop (mkF m 65 #[.val (.ref cl), .val (.int (4 : Int32)), .val (.ref b2), .val (.ref b36), .val (.int (0 : Int32)), .val (.int i1), sl1] [(.ref b48), (.int (0 : Int32)), (.ref b36)]))
      obtain ⟨T59, h59, X59, e59, W59, V59, st59⟩ := RV.ist X48 hx hZ e48 h57 (Ins.self B48) (j := (0 : Int32)) (by decide) ⟨by decide, (by show 0 < 4; decide)⟩ (g := (mkF m 65 #[.val (.ref cl), .val (.int (4 : Int32)), .val (.ref b2), .val (.ref b36), .val (.int (0 : Int32)), .val (.int i1), sl1] [(.ref b48), (.int (0 : Int32)), (.ref b36)])) rfl rfl (hb hby d1_65)
      have h60 : Vec Z h59 cl .int nn (ints KK) := h54.other W59 q39
      have h61 : Exa Z h59 b2 "[I" := h55.wr W59
      have h62 : Vec Z h59 b2 .int (4 : Int32) (ints C1) := h56.other W59 q40
      have h63 : RV Z h59 b36 (4 : Int32) [(.ref b48), .null, .null, .null] := V59
      have h64 : Exa Z h59 b48 "[I" := B48.wr W59
      have h65 : Vec Z h59 b48 .int l0 (ints (fun _ => (0 : Int32))) := h58.other W59 (Ne.symm q53)
      have K59 : Keep h0 h59 [] := K48.wr W59 (Or.inr szb36)
      have N59 := Fr.snoc X59 Ng9 Gb36
      refine Go.st st59 ?_
      show Go p e below s Q 6 24 (T59.setTop (mkF m 66 #[.val (.ref cl), .val (.int (4 : Int32)), .val (.ref b2), .val (.ref b36), .val (.int (0 : Int32)), .val (.int i1), sl1] []))
      refine Go.st (fun _ k => XS.aloadN X59.here hx rfl (hb hby d1_66) rfl rfl k) ?_
      refine Go.st (fun _ k => XS.iload X59.here hx rfl (hb hby d1_67) rfl k) ?_
      refine Go.st (fun _ k => XS.iconst X59.here hx rfl (hb hby d1_69) k) ?_
      obtain ⟨T66, h66, X66, e66, W66, V66, st66⟩ := Vec.istI X59 hx hZ e59 h62 (j := (0 : Int32)) (by decide) (by decide) (g := (mkF m 70 #[.val (.ref cl), .val (.int (4 : Int32)), .val (.ref b2), .val (.ref b36), .val (.int (0 : Int32)), .val (.int i1), sl1] [(.int (0 : Int32)), (.int (0 : Int32)), (.ref b2)])) rfl rfl (hb hby d1_70)
      have h67 : Vec Z h66 cl .int nn (ints KK) := h60.other W66 q5
      have h68 : Exa Z h66 b2 "[I" := h61.wr W66
      have h69 : Vec Z h66 b2 .int (4 : Int32) (ints (updF C1 0 (0 : Int32))) := V66
      have h70 : RV Z h66 b36 (4 : Int32) [(.ref b48), .null, .null, .null] := h63.other W66 (Ne.symm q40)
      have h71 : Exa Z h66 b48 "[I" := h64.wr W66
      have h72 : Vec Z h66 b48 .int l0 (ints (fun _ => (0 : Int32))) := h65.other W66 (Ne.symm q52)
      have K66 : Keep h0 h66 [] := K59.wr W66 (Or.inr szb2)
      have N66 := Fr.snoc X66 N59 Gb2
      refine Go.st st66 ?_
      show Go p e below s Q 6 24 (T66.setTop (mkF m 71 #[.val (.ref cl), .val (.int (4 : Int32)), .val (.ref b2), .val (.ref b36), .val (.int (0 : Int32)), .val (.int i1), sl1] []))
      refine Go.st (fun _ k => XS.iinc X66.here hx rfl (hb hby d1_71) rfl (l' := #[.val (.ref cl), .val (.int (4 : Int32)), .val (.ref b2), .val (.ref b36), .val (.int (1 : Int32)), .val (.int i1), sl1]) rfl k) ?_
      refine Go.st (fun _ k => XS.goto X66.here hx rfl (pc0 := 74) (pc' := 49) rfl (hb hby d1_74) (by decide) (by decide) k) ?_
      refine Go.st (fun _ k => XS.iload X66.here hx rfl (hb hby d1_49) rfl k) ?_
      refine Go.st (fun _ k => XS.aloadN X66.here hx rfl (hb hby d1_51) rfl rfl k) ?_
      refine Go.st (RV.len X66 hx hZ e66 h70 (g := (mkF m 52 #[.val (.ref cl), .val (.int (4 : Int32)), .val (.ref b2), .val (.ref b36), .val (.int (1 : Int32)), .val (.int i1), sl1] [(.ref b36), (.int (1 : Int32))])) rfl rfl (hb hby d1_52)) ?_
      show Go p e below s Q 6 24 (T66.setTop (mkF m 53 #[.val (.ref cl), .val (.int (4 : Int32)), .val (.ref b2), .val (.ref b36), .val (.int (1 : Int32)), .val (.int i1), sl1] [(.int (4 : Int32)), (.int (1 : Int32))]))
      refine Go.st (fun _ k => XS.icmpNo X66.here hx rfl (hb hby d1_53) rfl (tlt (ltI liI_1 liI_4 (by decide))).2.1 k) ?_
      refine Go.st (fun _ k => XS.aloadN X66.here hx rfl (hb hby d1_56) rfl rfl k) ?_
      refine Go.st (fun _ k => XS.iload X66.here hx rfl (hb hby d1_57) rfl k) ?_
      refine Go.st (fun _ k => XS.aloadN X66.here hx rfl (hb hby d1_59) rfl rfl k) ?_
      refine Go.st (fun _ k => XS.iload X66.here hx rfl (hb hby d1_60) rfl k) ?_
      refine Go.st (Vec.ildI X66 hx hZ e66 h69 (j := (1 : Int32)) (by decide) (by decide) (g := (mkF m 62 #[.val (.ref cl), .val (.int (4 : Int32)), .val (.ref b2), .val (.ref b36), .val (.int (1 : Int32)), .val (.int i1), sl1] [(.int (1 : Int32)), (.ref b2), (.int (1 : Int32)), (.ref b36)])) rfl rfl (hb hby d1_62)) ?_
      show Go p e below s Q 6 24 (T66.setTop (mkF m 63 #[.val (.ref cl), .val (.int (4 : Int32)), .val (.ref b2), .val (.ref b36), .val (.int (1 : Int32)), .val (.int i1), sl1] [(.int ((updF C1 0 (0 : Int32)) 1)), (.int (1 : Int32)), (.ref b36)]))
      have f75 := rng32 ((updF C1 0 (0 : Int32)) 1)
      generalize hv_l1 : ((updF C1 0 (0 : Int32)) 1) = l1 at f75 ⊢
      have hl1 : l1.toInt = cnt KK nn.toInt.toNat 1 := by rw [← hv_l1]; exact hC 1 (by decide)
      have r77 : 0 ≤ l1.toInt := by omega
      have r78 : l1.toNatClampNeg ≤ 4 := by rw [nat_cl]; omega
      obtain ⟨T76, h76, k76, X76, e76, E76, A76, B76, st76⟩ := newPE X66 hx hZ (hw _ (List.mem_of_getElem? (i := 1) rfl)) e66 (g := (mkF m 63 #[.val (.ref cl), .val (.int (4 : Int32)), .val (.ref b2), .val (.ref b36), .val (.int (1 : Int32)), .val (.int i1), sl1] [(.int l1), (.int (1 : Int32)), (.ref b36)])) rfl (hb hby d1_63) rfl (not_neg r77) (cap := 4) r78 (by decide) (by decide) (by decide) (ad := "[I") (by decide)
      obtain ⟨b76, g76⟩ : ∃ z, z = h66.size := ⟨_, rfl⟩
      rw [← g76] at A76 B76 st76
      have q79 : Hid (cl ≠ b76) := Nat.ne_of_lt (Nat.lt_of_lt_of_le h67.lt (Nat.le_of_eq g76.symm))
      have q80 : Hid (b2 ≠ b76) := Nat.ne_of_lt (Nat.lt_of_lt_of_le h68.lt (Nat.le_of_eq g76.symm))
      have q81 : Hid (b36 ≠ b76) := Nat.ne_of_lt (Nat.lt_of_lt_of_le h70.lt (Nat.le_of_eq g76.symm))
      have q82 : Hid (b48 ≠ b76) := Nat.ne_of_lt (Nat.lt_of_lt_of_le h71.lt (Nat.le_of_eq g76.symm))
      have h83 : Vec Z h76 cl .int nn (ints KK) := h67.ext E76
      have h84 : Exa Z h76 b2 "[I" := h68.ext E76
      have h85 : Vec Z h76 b2 .int (4 : Int32) (ints (updF C1 0 (0 : Int32))) := h69.ext E76
      have h86 : RV Z h76 b36 (4 : Int32) [(.ref b48), .null, .null, .null] := h70.ext E76
      have h87 : Exa Z h76 b48 "[I" := h71.ext E76
      have h88 : Vec Z h76 b48 .int l0 (ints (fun _ => (0 : Int32))) := h72.ext E76
      have Gb76 : Hid (n0 ≤ b76) := Nat.le_trans (Nat.le_trans Z0 K66.1) (Nat.le_of_eq g76.symm)
      have szb76 : Hid (h0.size ≤ b76) := Nat.le_trans K66.1 (Nat.le_of_eq g76.symm)
      have K76 : Keep h0 h76 [] := K66.ext E76
      have h89 : Vec Z h76 b76 .int l1 (ints (fun _ => (0 : Int32))) := Vec.new A76 r77
      refine Go.st st76 ?_
      show Go p e below s Q 6 24 (T76.setTop (mkF m 65 #[.val (.ref cl), .val (.int (4 : Int32)), .val (.ref b2), .val (.ref b36), .val (.int (1 : Int32)), .val (.int i1), sl1] [(.ref b76), (.int (1 : Int32)), (.ref b36)]))
      obtain ⟨T90, h90, X90, e90, W90, V90, st90⟩ := RV.ist X76 hx hZ e76 h86 (Ins.self B76) (j := (1 : Int32)) (by decide) ⟨by decide, (by show 1 < 4; decide)⟩ (g := (mkF m 65 #[.val (.ref cl), .val (.int (4 : Int32)), .val (.ref b2), .val (.ref b36), .val (.int (1 : Int32)), .val (.int i1), sl1] [(.ref b76), (.int (1 : Int32)), (.ref b36)])) rfl rfl (hb hby d1_65)
      have h91 : Vec Z h90 cl .int nn (ints KK) := h83.other W90 q39
      have h92 : Exa Z h90 b2 "[I" := h84.wr W90
      have h93 : Vec Z h90 b2 .int (4 : Int32) (ints (updF C1 0 (0 : Int32))) := h85.other W90 q40
      have h94 : RV Z h90 b36 (4 : Int32) [(.ref b48), (.ref b76), .null, .null] := V90
      have h95 : Exa Z h90 b48 "[I" := h87.wr W90
      have h96 : Vec Z h90 b48 .int l0 (ints (fun _ => (0 : Int32))) := h88.other W90 (Ne.symm q53)
      have h97 : Exa Z h90 b76 "[I" := B76.wr W90
      have h98 : Vec Z h90 b76 .int l1 (ints (fun _ => (0 : Int32))) := h89.other W90 (Ne.symm q81)
      have K90 : Keep h0 h90 [] := K76.wr W90 (Or.inr szb36)
      have N90 := Fr.snoc X90 N66 Gb36
      refine Go.st st90 ?_
      show Go p e below s Q 6 24 (T90.setTop (mkF m 66 #[.val (.ref cl), .val (.int (4 : Int32)), .val (.ref b2), .val (.ref b36), .val (.int (1 : Int32)), .val (.int i1), sl1] []))
      refine Go.st (fun _ k => XS.aloadN X90.here hx rfl (hb hby d1_66) rfl rfl k) ?_
      refine Go.st (fun _ k => XS.iload X90.here hx rfl (hb hby d1_67) rfl k) ?_
      refine Go.st (fun _ k => XS.iconst X90.here hx rfl (hb hby d1_69) k) ?_
      obtain ⟨T99, h99, X99, e99, W99, V99, st99⟩ := Vec.istI X90 hx hZ e90 h93 (j := (1 : Int32)) (by decide) (by decide) (g := (mkF m 70 #[.val (.ref cl), .val (.int (4 : Int32)), .val (.ref b2), .val (.ref b36), .val (.int (1 : Int32)), .val (.int i1), sl1] [(.int (0 : Int32)), (.int (1 : Int32)), (.ref b2)])) rfl rfl (hb hby d1_70)
      have h100 : Vec Z h99 cl .int nn (ints KK) := h91.other W99 q5
      have h101 : Exa Z h99 b2 "[I" := h92.wr W99
      have h102 : Vec Z h99 b2 .int (4 : Int32) (ints (updF (updF C1 0 (0 : Int32)) 1 (0 : Int32))) := V99
      have h103 : RV Z h99 b36 (4 : Int32) [(.ref b48), (.ref b76), .null, .null] := h94.other W99 (Ne.symm q40)
      have h104 : Exa Z h99 b48 "[I" := h95.wr W99
      have h105 : Vec Z h99 b48 .int l0 (ints (fun _ => (0 : Int32))) := h96.other W99 (Ne.symm q52)
      have h106 : Exa Z h99 b76 "[I" := h97.wr W99
      have h107 : Vec Z h99 b76 .int l1 (ints (fun _ => (0 : Int32))) := h98.other W99 (Ne.symm q80)
      have K99 : Keep h0 h99 [] := K90.wr W99 (Or.inr szb2)
      have N99 := Fr.snoc X99 N90 Gb2
      refine Go.st st99 ?_
      show Go p e below s Q 6 24 (T99.setTop (mkF m 71 #[.val (.ref cl), .val (.int (4 : Int32)), .val (.ref b2), .val (.ref b36), .val (.int (1 : Int32)), .val (.int i1), sl1] []))
      refine Go.st (fun _ k => XS.iinc X99.here hx rfl (hb hby d1_71) rfl (l' := #[.val (.ref cl), .val (.int (4 : Int32)), .val (.ref b2), .val (.ref b36), .val (.int (2 : Int32)), .val (.int i1), sl1]) rfl k) ?_
      refine Go.st (fun _ k => XS.goto X99.here hx rfl (pc0 := 74) (pc' := 49) rfl (hb hby d1_74) (by decide) (by decide) k) ?_
      refine Go.st (fun _ k => XS.iload X99.here hx rfl (hb hby d1_49) rfl k) ?_
      refine Go.st (fun _ k => XS.aloadN X99.here hx rfl (hb hby d1_51) rfl rfl k) ?_
      refine Go.st (RV.len X99 hx hZ e99 h103 (g := (mkF m 52 #[.val (.ref cl), .val (.int (4 : Int32)), .val (.ref b2), .val (.ref b36), .val (.int (2 : Int32)), .val (.int i1), sl1] [(.ref b36), (.int (2 : Int32))])) rfl rfl (hb hby d1_52)) ?_
      show Go p e below s Q 6 24 (T99.setTop (mkF m 53 #[.val (.ref cl), .val (.int (4 : Int32)), .val (.ref b2), .val (.ref b36), .val (.int (2 : Int32)), .val (.int i1), sl1] [(.int (4 : Int32)), (.int (2 : Int32))]))
      refine Go.st (fun _ k => XS.icmpNo X99.here hx rfl (hb hby d1_53) rfl (tlt (ltI liI_2 liI_4 (by decide))).2.1 k) ?_
      refine Go.st (fun _ k => XS.aloadN X99.here hx rfl (hb hby d1_56) rfl rfl k) ?_
      refine Go.st (fun _ k => XS.iload X99.here hx rfl (hb hby d1_57) rfl k) ?_
      refine Go.st (fun _ k => XS.aloadN X99.here hx rfl (hb hby d1_59) rfl rfl k) ?_
      refine Go.st (fun _ k => XS.iload X99.here hx rfl (hb hby d1_60) rfl k) ?_
      refine Go.st (Vec.ildI X99 hx hZ e99 h102 (j := (2 : Int32)) (by decide) (by decide) (g := (mkF m 62 #[.val (.ref cl), .val (.int (4 : Int32)), .val (.ref b2), .val (.ref b36), .val (.int (2 : Int32)), .val (.int i1), sl1] [(.int (2 : Int32)), (.ref b2), (.int (2 : Int32)), (.ref b36)])) rfl rfl (hb hby d1_62)) ?_
      show Go p e below s Q 6 24 (T99.setTop (mkF m 63 #[.val (.ref cl), .val (.int (4 : Int32)), .val (.ref b2), .val (.ref b36), .val (.int (2 : Int32)), .val (.int i1), sl1] [(.int ((updF (updF C1 0 (0 : Int32)) 1 (0 : Int32)) 2)), (.int (2 : Int32)), (.ref b36)]))
      have f110 := rng32 ((updF (updF C1 0 (0 : Int32)) 1 (0 : Int32)) 2)
      generalize hv_l2 : ((updF (updF C1 0 (0 : Int32)) 1 (0 : Int32)) 2) = l2 at f110 ⊢
      have hl2 : l2.toInt = cnt KK nn.toInt.toNat 2 := by rw [← hv_l2]; exact hC 2 (by decide)
      have r112 : 0 ≤ l2.toInt := by omega
      have r113 : l2.toNatClampNeg ≤ 4 := by rw [nat_cl]; omega
      obtain ⟨T111, h111, k111, X111, e111, E111, A111, B111, st111⟩ := newPE X99 hx hZ (hw _ (List.mem_of_getElem? (i := 1) rfl)) e99 (g := (mkF m 63 #[.val (.ref cl), .val (.int (4 : Int32)), .val (.ref b2), .val (.ref b36), .val (.int (2 : Int32)), .val (.int i1), sl1] [(.int l2), (.int (2 : Int32)), (.ref b36)])) rfl (hb hby d1_63) rfl (not_neg r112) (cap := 4) r113 (by decide) (by decide) (by decide) (ad := "[I") (by decide)
      obtain ⟨b111, g111⟩ : ∃ z, z = h99.size := ⟨_, rfl⟩
      rw [← g111] at A111 B111 st111
      have q114 : Hid (cl ≠ b111) := Nat.ne_of_lt (Nat.lt_of_lt_of_le h100.lt (Nat.le_of_eq g111.symm))
      have q115 : Hid (b2 ≠ b111) := Nat.ne_of_lt (Nat.lt_of_lt_of_le h101.lt (Nat.le_of_eq g111.symm))
      have q116 : Hid (b36 ≠ b111) := Nat.ne_of_lt (Nat.lt_of_lt_of_le h103.lt (Nat.le_of_eq g111.symm))
      have q117 : Hid (b48 ≠ b111) := Nat.ne_of_lt (Nat.lt_of_lt_of_le h104.lt (Nat.le_of_eq g111.symm))
      have q118 : Hid (b76 ≠ b111) := Nat.ne_of_lt (Nat.lt_of_lt_of_le h106.lt (Nat.le_of_eq g111.symm))
      have h119 : Vec Z h111 cl .int nn (ints KK) := h100.ext E111
      have h120 : Exa Z h111 b2 "[I" := h101.ext E111
      have h121 : Vec Z h111 b2 .int (4 : Int32) (ints (updF (updF C1 0 (0 : Int32)) 1 (0 : Int32))) := h102.ext E111
      have h122 : RV Z h111 b36 (4 : Int32) [(.ref b48), (.ref b76), .null, .null] := h103.ext E111
      have h123 : Exa Z h111 b48 "[I" := h104.ext E111
      have h124 : Vec Z h111 b48 .int l0 (ints (fun _ => (0 : Int32))) := h105.ext E111
      have h125 : Exa Z h111 b76 "[I" := h106.ext E111
      have h126 : Vec Z h111 b76 .int l1 (ints (fun _ => (0 : Int32))) := h107.ext E111
      have Gb111 : Hid (n0 ≤ b111) := Nat.le_trans (Nat.le_trans Z0 K99.1) (Nat.le_of_eq g111.symm)
      have szb111 : Hid (h0.size ≤ b111) := Nat.le_trans K99.1 (Nat.le_of_eq g111.symm)
      have K111 : Keep h0 h111 [] := K99.ext E111
      have h127 : Vec Z h111 b111 .int l2 (ints (fun _ => (0 : Int32))) := Vec.new A111 r112
      refine Go.st st111 ?_
      show Go p e below s Q 6 24 (T111.setTop (mkF m 65 #[.val (.ref cl), .val (.int (4 : Int32)), .val (.ref b2), .val (.ref b36), .val (.int (2 : Int32)), .val (.int i1), sl1] [(.ref b111), (.int (2 : Int32)), (.ref b36)]))
      obtain ⟨T128, h128, X128, e128, W128, V128, st128⟩ := RV.ist X111 hx hZ e111 h122 (Ins.self B111) (j := (2 : Int32)) (by decide) ⟨by decide, (by show 2 < 4; decide)⟩ (g := (mkF m 65 #[.val (.ref cl), .val (.int (4 : Int32)), .val (.ref b2), .val (.ref b36), .val (.int (2 : Int32)), .val (.int i1), sl1] [(.ref b111), (.int (2 : Int32)), (.ref b36)])) rfl rfl (hb hby d1_65)
      have h129 : Vec Z h128 cl .int nn (ints KK) := h119.other W128 q39
      have h130 : Exa Z h128 b2 "[I" := h120.wr W128
      have h131 : Vec Z h128 b2 .int (4 : Int32) (ints (updF (updF C1 0 (0 : Int32)) 1 (0 : Int32))) := h121.other W128 q40
      have h132 : RV Z h128 b36 (4 : Int32) [(.ref b48), (.ref b76), (.ref b111), .null] := V128
      have h133 : Exa Z h128 b48 "[I" := h123.wr W128
      have h134 : Vec Z h128 b48 .int l0 (ints (fun _ => (0 : Int32))) := h124.other W128 (Ne.symm q53)
      have h135 : Exa Z h128 b76 "[I" := h125.wr W128
      have h136 : Vec Z h128 b76 .int l1 (ints (fun _ => (0 : Int32))) := h126.other W128 (Ne.symm q81)
      have h137 : Exa Z h128 b111 "[I" := B111.wr W128
      have h138 : Vec Z h128 b111 .int l2 (ints (fun _ => (0 : Int32))) := h127.other W128 (Ne.symm q116)
      have K128 : Keep h0 h128 [] := K111.wr W128 (Or.inr szb36)
      have N128 := Fr.snoc X128 N99 Gb36
      refine Go.st st128 ?_
      show Go p e below s Q 6 24 (T128.setTop (mkF m 66 #[.val (.ref cl), .val (.int (4 : Int32)), .val (.ref b2), .val (.ref b36), .val (.int (2 : Int32)), .val (.int i1), sl1] []))
      refine Go.st (fun _ k => XS.aloadN X128.here hx rfl (hb hby d1_66) rfl rfl k) ?_
      refine Go.st (fun _ k => XS.iload X128.here hx rfl (hb hby d1_67) rfl k) ?_
      refine Go.st (fun _ k => XS.iconst X128.here hx rfl (hb hby d1_69) k) ?_
      obtain ⟨T139, h139, X139, e139, W139, V139, st139⟩ := Vec.istI X128 hx hZ e128 h131 (j := (2 : Int32)) (by decide) (by decide) (g := (mkF m 70 #[.val (.ref cl), .val (.int (4 : Int32)), .val (.ref b2), .val (.ref b36), .val (.int (2 : Int32)), .val (.int i1), sl1] [(.int (0 : Int32)), (.int (2 : Int32)), (.ref b2)])) rfl rfl (hb hby d1_70)
      have h140 : Vec Z h139 cl .int nn (ints KK) := h129.other W139 q5
      have h141 : Exa Z h139 b2 "[I" := h130.wr W139
      have h142 : Vec Z h139 b2 .int (4 : Int32) (ints (updF (updF (updF C1 0 (0 : Int32)) 1 (0 : Int32)) 2 (0 : Int32))) := V139
      have h143 : RV Z h139 b36 (4 : Int32) [(.ref b48), (.ref b76), (.ref b111), .null] := h132.other W139 (Ne.symm q40)
      have h144 : Exa Z h139 b48 "[I" := h133.wr W139
      have h145 : Vec Z h139 b48 .int l0 (ints (fun _ => (0 : Int32))) := h134.other W139 (Ne.symm q52)
      have h146 : Exa Z h139 b76 "[I" := h135.wr W139
      have h147 : Vec Z h139 b76 .int l1 (ints (fun _ => (0 : Int32))) := h136.other W139 (Ne.symm q80)
      have h148 : Exa Z h139 b111 "[I" := h137.wr W139
      have h149 : Vec Z h139 b111 .int l2 (ints (fun _ => (0 : Int32))) := h138.other W139 (Ne.symm q115)
      have K139 : Keep h0 h139 [] := K128.wr W139 (Or.inr szb2)
      have N139 := Fr.snoc X139 N128 Gb2
      refine Go.st st139 ?_
      show Go p e below s Q 6 24 (T139.setTop (mkF m 71 #[.val (.ref cl), .val (.int (4 : Int32)), .val (.ref b2), .val (.ref b36), .val (.int (2 : Int32)), .val (.int i1), sl1] []))
      refine Go.st (fun _ k => XS.iinc X139.here hx rfl (hb hby d1_71) rfl (l' := #[.val (.ref cl), .val (.int (4 : Int32)), .val (.ref b2), .val (.ref b36), .val (.int (3 : Int32)), .val (.int i1), sl1]) rfl k) ?_
      refine Go.st (fun _ k => XS.goto X139.here hx rfl (pc0 := 74) (pc' := 49) rfl (hb hby d1_74) (by decide) (by decide) k) ?_
      refine Go.st (fun _ k => XS.iload X139.here hx rfl (hb hby d1_49) rfl k) ?_
      refine Go.st (fun _ k => XS.aloadN X139.here hx rfl (hb hby d1_51) rfl rfl k) ?_
      refine Go.st (RV.len X139 hx hZ e139 h143 (g := (mkF m 52 #[.val (.ref cl), .val (.int (4 : Int32)), .val (.ref b2), .val (.ref b36), .val (.int (3 : Int32)), .val (.int i1), sl1] [(.ref b36), (.int (3 : Int32))])) rfl rfl (hb hby d1_52)) ?_
      show Go p e below s Q 6 24 (T139.setTop (mkF m 53 #[.val (.ref cl), .val (.int (4 : Int32)), .val (.ref b2), .val (.ref b36), .val (.int (3 : Int32)), .val (.int i1), sl1] [(.int (4 : Int32)), (.int (3 : Int32))]))
      refine Go.st (fun _ k => XS.icmpNo X139.here hx rfl (hb hby d1_53) rfl (tlt (ltI liI_3 liI_4 (by decide))).2.1 k) ?_
      refine Go.st (fun _ k => XS.aloadN X139.here hx rfl (hb hby d1_56) rfl rfl k) ?_
      refine Go.st (fun _ k => XS.iload X139.here hx rfl (hb hby d1_57) rfl k) ?_
      refine Go.st (fun _ k => XS.aloadN X139.here hx rfl (hb hby d1_59) rfl rfl k) ?_
      refine Go.st (fun _ k => XS.iload X139.here hx rfl (hb hby d1_60) rfl k) ?_
      refine Go.st (Vec.ildI X139 hx hZ e139 h142 (j := (3 : Int32)) (by decide) (by decide) (g := (mkF m 62 #[.val (.ref cl), .val (.int (4 : Int32)), .val (.ref b2), .val (.ref b36), .val (.int (3 : Int32)), .val (.int i1), sl1] [(.int (3 : Int32)), (.ref b2), (.int (3 : Int32)), (.ref b36)])) rfl rfl (hb hby d1_62)) ?_
      show Go p e below s Q 6 24 (T139.setTop (mkF m 63 #[.val (.ref cl), .val (.int (4 : Int32)), .val (.ref b2), .val (.ref b36), .val (.int (3 : Int32)), .val (.int i1), sl1] [(.int ((updF (updF (updF C1 0 (0 : Int32)) 1 (0 : Int32)) 2 (0 : Int32)) 3)), (.int (3 : Int32)), (.ref b36)]))
      have f152 := rng32 ((updF (updF (updF C1 0 (0 : Int32)) 1 (0 : Int32)) 2 (0 : Int32)) 3)
      generalize hv_l3 : ((updF (updF (updF C1 0 (0 : Int32)) 1 (0 : Int32)) 2 (0 : Int32)) 3) = l3 at f152 ⊢
      have hl3 : l3.toInt = cnt KK nn.toInt.toNat 3 := by rw [← hv_l3]; exact hC 3 (by decide)
      have r154 : 0 ≤ l3.toInt := by omega
      have r155 : l3.toNatClampNeg ≤ 4 := by rw [nat_cl]; omega
      obtain ⟨T153, h153, k153, X153, e153, E153, A153, B153, st153⟩ := newPE X139 hx hZ (hw _ (List.mem_of_getElem? (i := 1) rfl)) e139 (g := (mkF m 63 #[.val (.ref cl), .val (.int (4 : Int32)), .val (.ref b2), .val (.ref b36), .val (.int (3 : Int32)), .val (.int i1), sl1] [(.int l3), (.int (3 : Int32)), (.ref b36)])) rfl (hb hby d1_63) rfl (not_neg r154) (cap := 4) r155 (by decide) (by decide) (by decide) (ad := "[I") (by decide)
      obtain ⟨b153, g153⟩ : ∃ z, z = h139.size := ⟨_, rfl⟩
      rw [← g153] at A153 B153 st153
      have q156 : Hid (cl ≠ b153) := Nat.ne_of_lt (Nat.lt_of_lt_of_le h140.lt (Nat.le_of_eq g153.symm))
      have q157 : Hid (b2 ≠ b153) := Nat.ne_of_lt (Nat.lt_of_lt_of_le h141.lt (Nat.le_of_eq g153.symm))
      have q158 : Hid (b36 ≠ b153) := Nat.ne_of_lt (Nat.lt_of_lt_of_le h143.lt (Nat.le_of_eq g153.symm))
      have q159 : Hid (b48 ≠ b153) := Nat.ne_of_lt (Nat.lt_of_lt_of_le h144.lt (Nat.le_of_eq g153.symm))
      have q160 : Hid (b76 ≠ b153) := Nat.ne_of_lt (Nat.lt_of_lt_of_le h146.lt (Nat.le_of_eq g153.symm))
      have q161 : Hid (b111 ≠ b153) := Nat.ne_of_lt (Nat.lt_of_lt_of_le h148.lt (Nat.le_of_eq g153.symm))
      have h162 : Vec Z h153 cl .int nn (ints KK) := h140.ext E153
      have h163 : Exa Z h153 b2 "[I" := h141.ext E153
      have h164 : Vec Z h153 b2 .int (4 : Int32) (ints (updF (updF (updF C1 0 (0 : Int32)) 1 (0 : Int32)) 2 (0 : Int32))) := h142.ext E153
      have h165 : RV Z h153 b36 (4 : Int32) [(.ref b48), (.ref b76), (.ref b111), .null] := h143.ext E153
      have h166 : Exa Z h153 b48 "[I" := h144.ext E153
      have h167 : Vec Z h153 b48 .int l0 (ints (fun _ => (0 : Int32))) := h145.ext E153
      have h168 : Exa Z h153 b76 "[I" := h146.ext E153
      have h169 : Vec Z h153 b76 .int l1 (ints (fun _ => (0 : Int32))) := h147.ext E153
      have h170 : Exa Z h153 b111 "[I" := h148.ext E153
      have h171 : Vec Z h153 b111 .int l2 (ints (fun _ => (0 : Int32))) := h149.ext E153
      have Gb153 : Hid (n0 ≤ b153) := Nat.le_trans (Nat.le_trans Z0 K139.1) (Nat.le_of_eq g153.symm)
      have szb153 : Hid (h0.size ≤ b153) := Nat.le_trans K139.1 (Nat.le_of_eq g153.symm)
      have K153 : Keep h0 h153 [] := K139.ext E153
      have h172 : Vec Z h153 b153 .int l3 (ints (fun _ => (0 : Int32))) := Vec.new A153 r154
      refine Go.st st153 ?_
      show Go p e below s Q 6 24 (T153.setTop (mkF m 65 #[.val (.ref cl), .val (.int (4 : Int32)), .val (.ref b2), .val (.ref b36), .val (.int (3 : Int32)), .val (.int i1), sl1] [(.ref b153), (.int (3 : Int32)), (.ref b36)]))
      obtain ⟨T173, h173, X173, e173, W173, V173, st173⟩ := RV.ist X153 hx hZ e153 h165 (Ins.self B153) (j := (3 : Int32)) (by decide) ⟨by decide, (by show 3 < 4; decide)⟩ (g := (mkF m 65 #[.val (.ref cl), .val (.int (4 : Int32)), .val (.ref b2), .val (.ref b36), .val (.int (3 : Int32)), .val (.int i1), sl1] [(.ref b153), (.int (3 : Int32)), (.ref b36)])) rfl rfl (hb hby d1_65)
      have h174 : Vec Z h173 cl .int nn (ints KK) := h162.other W173 q39
      have h175 : Exa Z h173 b2 "[I" := h163.wr W173
      have h176 : Vec Z h173 b2 .int (4 : Int32) (ints (updF (updF (updF C1 0 (0 : Int32)) 1 (0 : Int32)) 2 (0 : Int32))) := h164.other W173 q40
      have h177 : RV Z h173 b36 (4 : Int32) [(.ref b48), (.ref b76), (.ref b111), (.ref b153)] := V173
      have h178 : Exa Z h173 b48 "[I" := h166.wr W173
      have h179 : Vec Z h173 b48 .int l0 (ints (fun _ => (0 : Int32))) := h167.other W173 (Ne.symm q53)
      have h180 : Exa Z h173 b76 "[I" := h168.wr W173
      have h181 : Vec Z h173 b76 .int l1 (ints (fun _ => (0 : Int32))) := h169.other W173 (Ne.symm q81)
      have h182 : Exa Z h173 b111 "[I" := h170.wr W173
      have h183 : Vec Z h173 b111 .int l2 (ints (fun _ => (0 : Int32))) := h171.other W173 (Ne.symm q116)
      have h184 : Exa Z h173 b153 "[I" := B153.wr W173
      have h185 : Vec Z h173 b153 .int l3 (ints (fun _ => (0 : Int32))) := h172.other W173 (Ne.symm q158)
      have K173 : Keep h0 h173 [] := K153.wr W173 (Or.inr szb36)
      have N173 := Fr.snoc X173 N139 Gb36
      refine Go.st st173 ?_
      show Go p e below s Q 6 24 (T173.setTop (mkF m 66 #[.val (.ref cl), .val (.int (4 : Int32)), .val (.ref b2), .val (.ref b36), .val (.int (3 : Int32)), .val (.int i1), sl1] []))
      refine Go.st (fun _ k => XS.aloadN X173.here hx rfl (hb hby d1_66) rfl rfl k) ?_
      refine Go.st (fun _ k => XS.iload X173.here hx rfl (hb hby d1_67) rfl k) ?_
      refine Go.st (fun _ k => XS.iconst X173.here hx rfl (hb hby d1_69) k) ?_
      obtain ⟨T186, h186, X186, e186, W186, V186, st186⟩ := Vec.istI X173 hx hZ e173 h176 (j := (3 : Int32)) (by decide) (by decide) (g := (mkF m 70 #[.val (.ref cl), .val (.int (4 : Int32)), .val (.ref b2), .val (.ref b36), .val (.int (3 : Int32)), .val (.int i1), sl1] [(.int (0 : Int32)), (.int (3 : Int32)), (.ref b2)])) rfl rfl (hb hby d1_70)
      have h187 : Vec Z h186 cl .int nn (ints KK) := h174.other W186 q5
      have h188 : Exa Z h186 b2 "[I" := h175.wr W186
      have h189 : Vec Z h186 b2 .int (4 : Int32) (ints (updF (updF (updF (updF C1 0 (0 : Int32)) 1 (0 : Int32)) 2 (0 : Int32)) 3 (0 : Int32))) := V186
      have h190 : RV Z h186 b36 (4 : Int32) [(.ref b48), (.ref b76), (.ref b111), (.ref b153)] := h177.other W186 (Ne.symm q40)
      have h191 : Exa Z h186 b48 "[I" := h178.wr W186
      have h192 : Vec Z h186 b48 .int l0 (ints (fun _ => (0 : Int32))) := h179.other W186 (Ne.symm q52)
      have h193 : Exa Z h186 b76 "[I" := h180.wr W186
      have h194 : Vec Z h186 b76 .int l1 (ints (fun _ => (0 : Int32))) := h181.other W186 (Ne.symm q80)
      have h195 : Exa Z h186 b111 "[I" := h182.wr W186
      have h196 : Vec Z h186 b111 .int l2 (ints (fun _ => (0 : Int32))) := h183.other W186 (Ne.symm q115)
      have h197 : Exa Z h186 b153 "[I" := h184.wr W186
      have h198 : Vec Z h186 b153 .int l3 (ints (fun _ => (0 : Int32))) := h185.other W186 (Ne.symm q157)
      have K186 : Keep h0 h186 [] := K173.wr W186 (Or.inr szb2)
      have N186 := Fr.snoc X186 N173 Gb2
      refine Go.st st186 ?_
      show Go p e below s Q 6 24 (T186.setTop (mkF m 71 #[.val (.ref cl), .val (.int (4 : Int32)), .val (.ref b2), .val (.ref b36), .val (.int (3 : Int32)), .val (.int i1), sl1] []))
      refine Go.st (fun _ k => XS.iinc X186.here hx rfl (hb hby d1_71) rfl (l' := #[.val (.ref cl), .val (.int (4 : Int32)), .val (.ref b2), .val (.ref b36), .val (.int (4 : Int32)), .val (.int i1), sl1]) rfl k) ?_
      refine Go.st (fun _ k => XS.goto X186.here hx rfl (pc0 := 74) (pc' := 49) rfl (hb hby d1_74) (by decide) (by decide) k) ?_
      refine Go.st (fun _ k => XS.iload X186.here hx rfl (hb hby d1_49) rfl k) ?_
      refine Go.st (fun _ k => XS.aloadN X186.here hx rfl (hb hby d1_51) rfl rfl k) ?_
      refine Go.st (RV.len X186 hx hZ e186 h190 (g := (mkF m 52 #[.val (.ref cl), .val (.int (4 : Int32)), .val (.ref b2), .val (.ref b36), .val (.int (4 : Int32)), .val (.int i1), sl1] [(.ref b36), (.int (4 : Int32))])) rfl rfl (hb hby d1_52)) ?_
      show Go p e below s Q 6 24 (T186.setTop (mkF m 53 #[.val (.ref cl), .val (.int (4 : Int32)), .val (.ref b2), .val (.ref b36), .val (.int (4 : Int32)), .val (.int i1), sl1] [(.int (4 : Int32)), (.int (4 : Int32))]))
      refine Go.st (fun _ k => XS.icmpYes X186.here hx rfl (pc0 := 53) (pc' := 77) rfl (hb hby d1_53) rfl (flt (nltI liI_4 liI_4 (by decide))).2.1 (by decide) (by decide) k) ?_
      refine Go.st (fun _ k => XS.iconst X186.here hx rfl (hb hby d1_77) k) ?_
      refine Go.st (fun _ k => XS.istore X186.here hx rfl (hb hby d1_78) rfl (l' := #[.val (.ref cl), .val (.int (4 : Int32)), .val (.ref b2), .val (.ref b36), .val (.int (0 : Int32)), .val (.int i1), sl1]) rfl k) ?_
      show Go p e below s Q 6 24 (T186.setTop (mkF m 80 #[.val (.ref cl), .val (.int (4 : Int32)), .val (.ref b2), .val (.ref b36), .val (.int (0 : Int32)), .val (.int i1), sl1] []))
      have lp201 : ∀ (kg200 : Nat) (Tg200 : State) (hg200 : Heap) (Lgg200 : List Loc) (Xg200 : Stand p l e ({ frames := 0, cells := 6, slots := 24, locals := 0 } : Room) s m #[(.ref cl), (.int (4 : Int32))] below meth c Tg200 Lgg200 6 24) (eg200 : Tg200.heap = hg200) (Ng200 : Fr n0 Lgg200) (Kg200 : Keep h0 hg200 []) (i3 : Int32) (x5 : Int32) (C3 : Nat → Int32) (g0 : Nat → Int32) (g1 : Nat → Int32) (g2 : Nat → Int32) (g3 : Nat → Int32) (hfg200_0 : Vec Z hg200 cl .int nn (ints KK)) (hfg200_1 : Vec Z hg200 b2 .int (4 : Int32) (ints C3)) (hfg200_2 : RV Z hg200 b36 (4 : Int32) [(.ref b48), (.ref b76), (.ref b111), (.ref b153)]) (hfg200_3 : Vec Z hg200 b48 .int l0 (ints g0)) (hfg200_4 : Vec Z hg200 b76 .int l1 (ints g1)) (hfg200_5 : Vec Z hg200 b111 .int l2 (ints g2)) (hfg200_6 : Vec Z hg200 b153 .int l3 (ints g3)) (hpg200_0 : 0 ≤ i3.toInt ∧ i3.toInt ≤ nn.toInt) (hpg200_1 : ∀ r : Nat, r < 4 → (C3 r).toInt = cnt KK i3.toInt.toNat r) (hpg200_2 : ∀ j : Nat, j < i3.toInt.toNat → (KK j).toInt = 0 → (g0 (cnt KK j 0).toNat).toInt = j) (hpg200_3 : ∀ j : Nat, j < i3.toInt.toNat → (KK j).toInt = 1 → (g1 (cnt KK j 1).toNat).toInt = j) (hpg200_4 : ∀ j : Nat, j < i3.toInt.toNat → (KK j).toInt = 2 → (g2 (cnt KK j 2).toNat).toInt = j) (hpg200_5 : ∀ j : Nat, j < i3.toInt.toNat → (KK j).toInt = 3 → (g3 (cnt KK j 3).toNat).toInt = j), (nn.toInt - i3.toInt).toNat = kg200 → Go p e below s Q 6 24 (Tg200.setTop (mkF m 80 #[.val (.ref cl), .val (.int (4 : Int32)), .val (.ref b2), .val (.ref b36), .val (.int i3), .val (.int x5), sl1] [])) := by
        intro kg200
        induction kg200 using Nat.strongRecOn with
        | ind kg200 ihg200 =>
        intro Tg200 hg200 Lgg200 Xg200 eg200 Ng200 Kg200 i3 x5 C3 g0 g1 g2 g3 hfg200_0 hfg200_1 hfg200_2 hfg200_3 hfg200_4 hfg200_5 hfg200_6 hpg200_0 hpg200_1 hpg200_2 hpg200_3 hpg200_4 hpg200_5 hkg200
        have f202 := rng32 i3
        have f203 := rng32 x5
        show Go p e below s Q 6 24 (Tg200.setTop (mkF m 80 #[.val (.ref cl), .val (.int (4 : Int32)), .val (.ref b2), .val (.ref b36), .val (.int i3), .val (.int x5), sl1] []))
        refine Go.st (fun _ k => XS.iload Xg200.here hx rfl (hb hby d1_80) rfl k) ?_
        refine Go.st (fun _ k => XS.aloadN Xg200.here hx rfl (hb hby d1_82) rfl rfl k) ?_
        refine Go.st (Vec.len Xg200 hx hZ eg200 hfg200_0 (g := (mkF m 83 #[.val (.ref cl), .val (.int (4 : Int32)), .val (.ref b2), .val (.ref b36), .val (.int i3), .val (.int x5), sl1] [(.ref cl), (.int i3)])) rfl rfl (hb hby d1_83)) ?_
        show Go p e below s Q 6 24 (Tg200.setTop (mkF m 84 #[.val (.ref cl), .val (.int (4 : Int32)), .val (.ref b2), .val (.ref b36), .val (.int i3), .val (.int x5), sl1] [(.int nn), (.int i3)]))
        by_cases c205 : i3.toInt < nn.toInt
        ·
          refine Go.st (fun _ k => XS.icmpNo Xg200.here hx rfl (hb hby d1_84) rfl (tlt (ltI rfl rfl c205)).2.1 k) ?_
          refine Go.st (fun _ k => XS.aloadN Xg200.here hx rfl (hb hby d1_87) rfl rfl k) ?_
          refine Go.st (fun _ k => XS.iload Xg200.here hx rfl (hb hby d1_88) rfl k) ?_
          have r207 : 0 ≤ i3.toInt := by omega
          have r208 : i3.toInt < nn.toInt := by omega
          refine Go.st (Vec.ildI Xg200 hx hZ eg200 hfg200_0 (j := i3) r207 r208 (g := (mkF m 90 #[.val (.ref cl), .val (.int (4 : Int32)), .val (.ref b2), .val (.ref b36), .val (.int i3), .val (.int x5), sl1] [(.int i3), (.ref cl)])) rfl rfl (hb hby d1_90)) ?_
          show Go p e below s Q 6 24 (Tg200.setTop (mkF m 91 #[.val (.ref cl), .val (.int (4 : Int32)), .val (.ref b2), .val (.ref b36), .val (.int i3), .val (.int x5), sl1] [(.int (KK i3.toInt.toNat))]))
          refine Go.st (fun _ k => XS.istore Xg200.here hx rfl (hb hby d1_91) rfl (l' := #[.val (.ref cl), .val (.int (4 : Int32)), .val (.ref b2), .val (.ref b36), .val (.int i3), .val (.int (KK i3.toInt.toNat)), sl1]) rfl k) ?_
          show Go p e below s Q 6 24 (Tg200.setTop (mkF m 93 #[.val (.ref cl), .val (.int (4 : Int32)), .val (.ref b2), .val (.ref b36), .val (.int i3), .val (.int (KK i3.toInt.toNat)), sl1] []))
          have f209 := rng32 (KK i3.toInt.toNat)
          generalize hv_v210 : (KK i3.toInt.toNat) = v210 at f209 ⊢
          have hKi : 0 ≤ v210.toInt ∧ v210.toInt < 4 := by have q := hKr i3.toInt.toNat (by omega); rw [hv_v210] at q; exact q
          have cs211 : v210.toInt = 0 ∨ v210.toInt = 1 ∨ v210.toInt = 2 ∨ v210.toInt = 3 := by omega
          rcases cs211 with cs212 | cs213 | cs214 | cs215
          ·
            have cs212' : v210 = (0 : Int32) := eqI cs212 liI_0 rfl
            subst cs212'
            have f216 := liI_0
            show Go p e below s Q 6 24 (Tg200.setTop (mkF m 93 #[.val (.ref cl), .val (.int (4 : Int32)), .val (.ref b2), .val (.ref b36), .val (.int i3), .val (.int (0 : Int32)), sl1] []))
            have hck : (C3 0).toInt = cnt KK i3.toInt.toNat 0 := hpg200_1 0 (by decide)
            have hcr := cnt_rng KK i3.toInt.toNat 0
            have hlt := cnt_lt KK (i := i3.toInt.toNat) (j := nn.toInt.toNat) (r := 0) (by omega) (by rw [hv_v210]; decide)
            refine Go.st (fun _ k => XS.aloadN Xg200.here hx rfl (hb hby d1_93) rfl rfl k) ?_
            refine Go.st (fun _ k => XS.iload Xg200.here hx rfl (hb hby d1_94) rfl k) ?_
            refine Go.st (RV.ild Xg200 hx hZ eg200 hfg200_2 (j := (0 : Int32)) (by decide) (by decide) (g := (mkF m 96 #[.val (.ref cl), .val (.int (4 : Int32)), .val (.ref b2), .val (.ref b36), .val (.int i3), .val (.int (0 : Int32)), sl1] [(.int (0 : Int32)), (.ref b36)])) rfl rfl (hb hby d1_96)) ?_
            show Go p e below s Q 6 24 (Tg200.setTop (mkF m 97 #[.val (.ref cl), .val (.int (4 : Int32)), .val (.ref b2), .val (.ref b36), .val (.int i3), .val (.int (0 : Int32)), sl1] [(.ref b48)]))
            refine Go.st (fun _ k => XS.aloadN Xg200.here hx rfl (hb hby d1_97) rfl rfl k) ?_
            refine Go.st (fun _ k => XS.iload Xg200.here hx rfl (hb hby d1_98) rfl k) ?_
            refine Go.st (fun _ k => XT.dup2 Xg200.here hx rfl (hb hby d1_100) rfl rfl rfl k) ?_
            refine Go.st (Vec.ildI Xg200 hx hZ eg200 hfg200_1 (j := (0 : Int32)) (by decide) (by decide) (g := (mkF m 101 #[.val (.ref cl), .val (.int (4 : Int32)), .val (.ref b2), .val (.ref b36), .val (.int i3), .val (.int (0 : Int32)), sl1] [(.int (0 : Int32)), (.ref b2), (.int (0 : Int32)), (.ref b2), (.ref b48)])) rfl rfl (hb hby d1_101)) ?_
            show Go p e below s Q 6 24 (Tg200.setTop (mkF m 102 #[.val (.ref cl), .val (.int (4 : Int32)), .val (.ref b2), .val (.ref b36), .val (.int i3), .val (.int (0 : Int32)), sl1] [(.int (C3 0)), (.int (0 : Int32)), (.ref b2), (.ref b48)]))
            refine Go.st (fun _ k => dupX2 Xg200.here hx rfl (hb hby d1_102) rfl rfl rfl rfl k) ?_
            refine Go.st (fun _ k => XS.iconst Xg200.here hx rfl (hb hby d1_103) k) ?_
            refine Go.st (fun _ k => XS.iadd Xg200.here hx rfl (hb hby d1_104) rfl k) ?_
            show Go p e below s Q 6 24 (Tg200.setTop (mkF m 105 #[.val (.ref cl), .val (.int (4 : Int32)), .val (.ref b2), .val (.ref b36), .val (.int i3), .val (.int (0 : Int32)), sl1] [(.int ((C3 0) + (1 : Int32))), (.int (0 : Int32)), (.ref b2), (.int (C3 0)), (.ref b48)]))
            have f219 := rng32 (C3 0)
            have f220 := liI_1
            have f221 := c_iadd (C3 0) (1 : Int32)
            have f222 := rng32 ((C3 0) + (1 : Int32))
            obtain ⟨T223, h223, X223, e223, W223, V223, st223⟩ := Vec.istI Xg200 hx hZ eg200 hfg200_1 (j := (0 : Int32)) (by decide) (by decide) (g := (mkF m 105 #[.val (.ref cl), .val (.int (4 : Int32)), .val (.ref b2), .val (.ref b36), .val (.int i3), .val (.int (0 : Int32)), sl1] [(.int ((C3 0) + (1 : Int32))), (.int (0 : Int32)), (.ref b2), (.int (C3 0)), (.ref b48)])) rfl rfl (hb hby d1_105)
            have h224 : Vec Z h223 cl .int nn (ints KK) := hfg200_0.other W223 q5
            have h225 : Vec Z h223 b2 .int (4 : Int32) (ints (updF C3 0 ((C3 0) + (1 : Int32)))) := V223
            have h226 : RV Z h223 b36 (4 : Int32) [(.ref b48), (.ref b76), (.ref b111), (.ref b153)] := hfg200_2.other W223 (Ne.symm q40)
            have h227 : Vec Z h223 b48 .int l0 (ints g0) := hfg200_3.other W223 (Ne.symm q52)
            have h228 : Vec Z h223 b76 .int l1 (ints g1) := hfg200_4.other W223 (Ne.symm q80)
            have h229 : Vec Z h223 b111 .int l2 (ints g2) := hfg200_5.other W223 (Ne.symm q115)
            have h230 : Vec Z h223 b153 .int l3 (ints g3) := hfg200_6.other W223 (Ne.symm q157)
            have K223 : Keep h0 h223 [] := Kg200.wr W223 (Or.inr szb2)
            have N223 := Fr.snoc X223 Ng200 Gb2
            refine Go.st st223 ?_
            show Go p e below s Q 6 24 (T223.setTop (mkF m 106 #[.val (.ref cl), .val (.int (4 : Int32)), .val (.ref b2), .val (.ref b36), .val (.int i3), .val (.int (0 : Int32)), sl1] [(.int (C3 0)), (.ref b48)]))
            refine Go.st (fun _ k => XS.iload X223.here hx rfl (hb hby d1_106) rfl k) ?_
            have r232 : 0 ≤ (C3 0).toInt := by omega
            have r233 : (C3 0).toInt < l0.toInt := by omega
            obtain ⟨T231, h231, X231, e231, W231, V231, st231⟩ := Vec.istI X223 hx hZ e223 h227 (j := (C3 0)) r232 r233 (g := (mkF m 108 #[.val (.ref cl), .val (.int (4 : Int32)), .val (.ref b2), .val (.ref b36), .val (.int i3), .val (.int (0 : Int32)), sl1] [(.int i3), (.int (C3 0)), (.ref b48)])) rfl rfl (hb hby d1_108)
            have h234 : Vec Z h231 cl .int nn (ints KK) := h224.other W231 q51
            have h235 : Vec Z h231 b2 .int (4 : Int32) (ints (updF C3 0 ((C3 0) + (1 : Int32)))) := h225.other W231 q52
            have h236 : RV Z h231 b36 (4 : Int32) [(.ref b48), (.ref b76), (.ref b111), (.ref b153)] := h226.other W231 q53
            have h237 : Vec Z h231 b48 .int l0 (ints (updF g0 (C3 0).toInt.toNat i3)) := V231
            have h238 : Vec Z h231 b76 .int l1 (ints g1) := h228.other W231 (Ne.symm q82)
            have h239 : Vec Z h231 b111 .int l2 (ints g2) := h229.other W231 (Ne.symm q117)
            have h240 : Vec Z h231 b153 .int l3 (ints g3) := h230.other W231 (Ne.symm q159)
            have K231 : Keep h0 h231 [] := K223.wr W231 (Or.inr szb48)
            have N231 := Fr.snoc X231 N223 Gb48
            refine Go.st st231 ?_
            show Go p e below s Q 6 24 (T231.setTop (mkF m 109 #[.val (.ref cl), .val (.int (4 : Int32)), .val (.ref b2), .val (.ref b36), .val (.int i3), .val (.int (0 : Int32)), sl1] []))
            refine Go.st (fun _ k => XS.iinc X231.here hx rfl (hb hby d1_109) rfl (l' := #[.val (.ref cl), .val (.int (4 : Int32)), .val (.ref b2), .val (.ref b36), .val (.int (i3 + (1 : Int32))), .val (.int (0 : Int32)), sl1]) rfl k) ?_
            show Go p e below s Q 6 24 (T231.setTop (mkF m 112 #[.val (.ref cl), .val (.int (4 : Int32)), .val (.ref b2), .val (.ref b36), .val (.int (i3 + (1 : Int32))), .val (.int (0 : Int32)), sl1] []))
            have f241 := c_iadd i3 (1 : Int32)
            have f242 := rng32 (i3 + (1 : Int32))
            generalize hv_v243 : (i3 + (1 : Int32)) = v243 at f241 f242 ⊢
            refine Go.st (fun _ k => XS.goto X231.here hx rfl (pc0 := 112) (pc' := 80) rfl (hb hby d1_112) (by decide) (by decide) k) ?_
            show Go p e below s Q 6 24 (T231.setTop (mkF m 80 #[.val (.ref cl), .val (.int (4 : Int32)), .val (.ref b2), .val (.ref b36), .val (.int v243), .val (.int (0 : Int32)), sl1] []))
            exact ihg200 _ (by omega) T231 h231 _ (up X231 (by decide) (by decide)) e231 N231 K231 v243 (0 : Int32) (updF C3 0 ((C3 0) + (1 : Int32))) (updF g0 (C3 0).toInt.toNat i3) g1 g2 g3 h234 h235 h236 h237 h238 h239 h240 (by omega) (by exact cnt_upd (x := 0) hpg200_1 (by rw [hv_v210]; decide) (by omega) (by decide) (by omega)) (by exact G_upd hpg200_2 (by omega) (by omega) (by omega)) (by exact G_keep hpg200_3 (by rw [hv_v210]; decide) (by omega)) (by exact G_keep hpg200_4 (by rw [hv_v210]; decide) (by omega)) (by exact G_keep hpg200_5 (by rw [hv_v210]; decide) (by omega)) rfl
          ·
            have cs213' : v210 = (1 : Int32) := eqI cs213 liI_1 rfl
            subst cs213'
            have f244 := liI_1
            show Go p e below s Q 6 24 (Tg200.setTop (mkF m 93 #[.val (.ref cl), .val (.int (4 : Int32)), .val (.ref b2), .val (.ref b36), .val (.int i3), .val (.int (1 : Int32)), sl1] []))
            have hck : (C3 1).toInt = cnt KK i3.toInt.toNat 1 := hpg200_1 1 (by decide)
            have hcr := cnt_rng KK i3.toInt.toNat 1
            have hlt := cnt_lt KK (i := i3.toInt.toNat) (j := nn.toInt.toNat) (r := 1) (by omega) (by rw [hv_v210]; decide)
            refine Go.st (fun _ k => XS.aloadN Xg200.here hx rfl (hb hby d1_93) rfl rfl k) ?_
            refine Go.st (fun _ k => XS.iload Xg200.here hx rfl (hb hby d1_94) rfl k) ?_
            refine Go.st (RV.ild Xg200 hx hZ eg200 hfg200_2 (j := (1 : Int32)) (by decide) (by decide) (g := (mkF m 96 #[.val (.ref cl), .val (.int (4 : Int32)), .val (.ref b2), .val (.ref b36), .val (.int i3), .val (.int (1 : Int32)), sl1] [(.int (1 : Int32)), (.ref b36)])) rfl rfl (hb hby d1_96)) ?_
            show Go p e below s Q 6 24 (Tg200.setTop (mkF m 97 #[.val (.ref cl), .val (.int (4 : Int32)), .val (.ref b2), .val (.ref b36), .val (.int i3), .val (.int (1 : Int32)), sl1] [(.ref b76)]))
            refine Go.st (fun _ k => XS.aloadN Xg200.here hx rfl (hb hby d1_97) rfl rfl k) ?_
            refine Go.st (fun _ k => XS.iload Xg200.here hx rfl (hb hby d1_98) rfl k) ?_
            refine Go.st (fun _ k => XT.dup2 Xg200.here hx rfl (hb hby d1_100) rfl rfl rfl k) ?_
            refine Go.st (Vec.ildI Xg200 hx hZ eg200 hfg200_1 (j := (1 : Int32)) (by decide) (by decide) (g := (mkF m 101 #[.val (.ref cl), .val (.int (4 : Int32)), .val (.ref b2), .val (.ref b36), .val (.int i3), .val (.int (1 : Int32)), sl1] [(.int (1 : Int32)), (.ref b2), (.int (1 : Int32)), (.ref b2), (.ref b76)])) rfl rfl (hb hby d1_101)) ?_
            show Go p e below s Q 6 24 (Tg200.setTop (mkF m 102 #[.val (.ref cl), .val (.int (4 : Int32)), .val (.ref b2), .val (.ref b36), .val (.int i3), .val (.int (1 : Int32)), sl1] [(.int (C3 1)), (.int (1 : Int32)), (.ref b2), (.ref b76)]))
            refine Go.st (fun _ k => dupX2 Xg200.here hx rfl (hb hby d1_102) rfl rfl rfl rfl k) ?_
            refine Go.st (fun _ k => XS.iconst Xg200.here hx rfl (hb hby d1_103) k) ?_
            refine Go.st (fun _ k => XS.iadd Xg200.here hx rfl (hb hby d1_104) rfl k) ?_
            show Go p e below s Q 6 24 (Tg200.setTop (mkF m 105 #[.val (.ref cl), .val (.int (4 : Int32)), .val (.ref b2), .val (.ref b36), .val (.int i3), .val (.int (1 : Int32)), sl1] [(.int ((C3 1) + (1 : Int32))), (.int (1 : Int32)), (.ref b2), (.int (C3 1)), (.ref b76)]))
            have f247 := rng32 (C3 1)
            have f248 := c_iadd (C3 1) (1 : Int32)
            have f249 := rng32 ((C3 1) + (1 : Int32))
            obtain ⟨T250, h250, X250, e250, W250, V250, st250⟩ := Vec.istI Xg200 hx hZ eg200 hfg200_1 (j := (1 : Int32)) (by decide) (by decide) (g := (mkF m 105 #[.val (.ref cl), .val (.int (4 : Int32)), .val (.ref b2), .val (.ref b36), .val (.int i3), .val (.int (1 : Int32)), sl1] [(.int ((C3 1) + (1 : Int32))), (.int (1 : Int32)), (.ref b2), (.int (C3 1)), (.ref b76)])) rfl rfl (hb hby d1_105)
            have h251 : Vec Z h250 cl .int nn (ints KK) := hfg200_0.other W250 q5
            have h252 : Vec Z h250 b2 .int (4 : Int32) (ints (updF C3 1 ((C3 1) + (1 : Int32)))) := V250
            have h253 : RV Z h250 b36 (4 : Int32) [(.ref b48), (.ref b76), (.ref b111), (.ref b153)] := hfg200_2.other W250 (Ne.symm q40)
            have h254 : Vec Z h250 b48 .int l0 (ints g0) := hfg200_3.other W250 (Ne.symm q52)
            have h255 : Vec Z h250 b76 .int l1 (ints g1) := hfg200_4.other W250 (Ne.symm q80)
            have h256 : Vec Z h250 b111 .int l2 (ints g2) := hfg200_5.other W250 (Ne.symm q115)
            have h257 : Vec Z h250 b153 .int l3 (ints g3) := hfg200_6.other W250 (Ne.symm q157)
            have K250 : Keep h0 h250 [] := Kg200.wr W250 (Or.inr szb2)
            have N250 := Fr.snoc X250 Ng200 Gb2
            refine Go.st st250 ?_
            show Go p e below s Q 6 24 (T250.setTop (mkF m 106 #[.val (.ref cl), .val (.int (4 : Int32)), .val (.ref b2), .val (.ref b36), .val (.int i3), .val (.int (1 : Int32)), sl1] [(.int (C3 1)), (.ref b76)]))
            refine Go.st (fun _ k => XS.iload X250.here hx rfl (hb hby d1_106) rfl k) ?_
            have r259 : 0 ≤ (C3 1).toInt := by omega
            have r260 : (C3 1).toInt < l1.toInt := by omega
            obtain ⟨T258, h258, X258, e258, W258, V258, st258⟩ := Vec.istI X250 hx hZ e250 h255 (j := (C3 1)) r259 r260 (g := (mkF m 108 #[.val (.ref cl), .val (.int (4 : Int32)), .val (.ref b2), .val (.ref b36), .val (.int i3), .val (.int (1 : Int32)), sl1] [(.int i3), (.int (C3 1)), (.ref b76)])) rfl rfl (hb hby d1_108)
            have h261 : Vec Z h258 cl .int nn (ints KK) := h251.other W258 q79
            have h262 : Vec Z h258 b2 .int (4 : Int32) (ints (updF C3 1 ((C3 1) + (1 : Int32)))) := h252.other W258 q80
            have h263 : RV Z h258 b36 (4 : Int32) [(.ref b48), (.ref b76), (.ref b111), (.ref b153)] := h253.other W258 q81
            have h264 : Vec Z h258 b48 .int l0 (ints g0) := h254.other W258 q82
            have h265 : Vec Z h258 b76 .int l1 (ints (updF g1 (C3 1).toInt.toNat i3)) := V258
            have h266 : Vec Z h258 b111 .int l2 (ints g2) := h256.other W258 (Ne.symm q118)
            have h267 : Vec Z h258 b153 .int l3 (ints g3) := h257.other W258 (Ne.symm q160)
            have K258 : Keep h0 h258 [] := K250.wr W258 (Or.inr szb76)
            have N258 := Fr.snoc X258 N250 Gb76
            refine Go.st st258 ?_
            show Go p e below s Q 6 24 (T258.setTop (mkF m 109 #[.val (.ref cl), .val (.int (4 : Int32)), .val (.ref b2), .val (.ref b36), .val (.int i3), .val (.int (1 : Int32)), sl1] []))
            refine Go.st (fun _ k => XS.iinc X258.here hx rfl (hb hby d1_109) rfl (l' := #[.val (.ref cl), .val (.int (4 : Int32)), .val (.ref b2), .val (.ref b36), .val (.int (i3 + (1 : Int32))), .val (.int (1 : Int32)), sl1]) rfl k) ?_
            show Go p e below s Q 6 24 (T258.setTop (mkF m 112 #[.val (.ref cl), .val (.int (4 : Int32)), .val (.ref b2), .val (.ref b36), .val (.int (i3 + (1 : Int32))), .val (.int (1 : Int32)), sl1] []))
            have f268 := c_iadd i3 (1 : Int32)
            have f269 := rng32 (i3 + (1 : Int32))
            generalize hv_v270 : (i3 + (1 : Int32)) = v270 at f268 f269 ⊢
            refine Go.st (fun _ k => XS.goto X258.here hx rfl (pc0 := 112) (pc' := 80) rfl (hb hby d1_112) (by decide) (by decide) k) ?_
            show Go p e below s Q 6 24 (T258.setTop (mkF m 80 #[.val (.ref cl), .val (.int (4 : Int32)), .val (.ref b2), .val (.ref b36), .val (.int v270), .val (.int (1 : Int32)), sl1] []))
            exact ihg200 _ (by omega) T258 h258 _ (up X258 (by decide) (by decide)) e258 N258 K258 v270 (1 : Int32) (updF C3 1 ((C3 1) + (1 : Int32))) g0 (updF g1 (C3 1).toInt.toNat i3) g2 g3 h261 h262 h263 h264 h265 h266 h267 (by omega) (by exact cnt_upd (x := 1) hpg200_1 (by rw [hv_v210]; decide) (by omega) (by decide) (by omega)) (by exact G_keep hpg200_2 (by rw [hv_v210]; decide) (by omega)) (by exact G_upd hpg200_3 (by omega) (by omega) (by omega)) (by exact G_keep hpg200_4 (by rw [hv_v210]; decide) (by omega)) (by exact G_keep hpg200_5 (by rw [hv_v210]; decide) (by omega)) rfl
          ·
            have cs214' : v210 = (2 : Int32) := eqI cs214 liI_2 rfl
            subst cs214'
            have f271 := liI_2
            show Go p e below s Q 6 24 (Tg200.setTop (mkF m 93 #[.val (.ref cl), .val (.int (4 : Int32)), .val (.ref b2), .val (.ref b36), .val (.int i3), .val (.int (2 : Int32)), sl1] []))
            have hck : (C3 2).toInt = cnt KK i3.toInt.toNat 2 := hpg200_1 2 (by decide)
            have hcr := cnt_rng KK i3.toInt.toNat 2
            have hlt := cnt_lt KK (i := i3.toInt.toNat) (j := nn.toInt.toNat) (r := 2) (by omega) (by rw [hv_v210]; decide)
            refine Go.st (fun _ k => XS.aloadN Xg200.here hx rfl (hb hby d1_93) rfl rfl k) ?_
            refine Go.st (fun _ k => XS.iload Xg200.here hx rfl (hb hby d1_94) rfl k) ?_
            refine Go.st (RV.ild Xg200 hx hZ eg200 hfg200_2 (j := (2 : Int32)) (by decide) (by decide) (g := (mkF m 96 #[.val (.ref cl), .val (.int (4 : Int32)), .val (.ref b2), .val (.ref b36), .val (.int i3), .val (.int (2 : Int32)), sl1] [(.int (2 : Int32)), (.ref b36)])) rfl rfl (hb hby d1_96)) ?_
            show Go p e below s Q 6 24 (Tg200.setTop (mkF m 97 #[.val (.ref cl), .val (.int (4 : Int32)), .val (.ref b2), .val (.ref b36), .val (.int i3), .val (.int (2 : Int32)), sl1] [(.ref b111)]))
            refine Go.st (fun _ k => XS.aloadN Xg200.here hx rfl (hb hby d1_97) rfl rfl k) ?_
            refine Go.st (fun _ k => XS.iload Xg200.here hx rfl (hb hby d1_98) rfl k) ?_
            refine Go.st (fun _ k => XT.dup2 Xg200.here hx rfl (hb hby d1_100) rfl rfl rfl k) ?_
            refine Go.st (Vec.ildI Xg200 hx hZ eg200 hfg200_1 (j := (2 : Int32)) (by decide) (by decide) (g := (mkF m 101 #[.val (.ref cl), .val (.int (4 : Int32)), .val (.ref b2), .val (.ref b36), .val (.int i3), .val (.int (2 : Int32)), sl1] [(.int (2 : Int32)), (.ref b2), (.int (2 : Int32)), (.ref b2), (.ref b111)])) rfl rfl (hb hby d1_101)) ?_
            show Go p e below s Q 6 24 (Tg200.setTop (mkF m 102 #[.val (.ref cl), .val (.int (4 : Int32)), .val (.ref b2), .val (.ref b36), .val (.int i3), .val (.int (2 : Int32)), sl1] [(.int (C3 2)), (.int (2 : Int32)), (.ref b2), (.ref b111)]))
            refine Go.st (fun _ k => dupX2 Xg200.here hx rfl (hb hby d1_102) rfl rfl rfl rfl k) ?_
            refine Go.st (fun _ k => XS.iconst Xg200.here hx rfl (hb hby d1_103) k) ?_
            refine Go.st (fun _ k => XS.iadd Xg200.here hx rfl (hb hby d1_104) rfl k) ?_
            show Go p e below s Q 6 24 (Tg200.setTop (mkF m 105 #[.val (.ref cl), .val (.int (4 : Int32)), .val (.ref b2), .val (.ref b36), .val (.int i3), .val (.int (2 : Int32)), sl1] [(.int ((C3 2) + (1 : Int32))), (.int (2 : Int32)), (.ref b2), (.int (C3 2)), (.ref b111)]))
            have f274 := rng32 (C3 2)
            have f275 := liI_1
            have f276 := c_iadd (C3 2) (1 : Int32)
            have f277 := rng32 ((C3 2) + (1 : Int32))
            obtain ⟨T278, h278, X278, e278, W278, V278, st278⟩ := Vec.istI Xg200 hx hZ eg200 hfg200_1 (j := (2 : Int32)) (by decide) (by decide) (g := (mkF m 105 #[.val (.ref cl), .val (.int (4 : Int32)), .val (.ref b2), .val (.ref b36), .val (.int i3), .val (.int (2 : Int32)), sl1] [(.int ((C3 2) + (1 : Int32))), (.int (2 : Int32)), (.ref b2), (.int (C3 2)), (.ref b111)])) rfl rfl (hb hby d1_105)
            have h279 : Vec Z h278 cl .int nn (ints KK) := hfg200_0.other W278 q5
            have h280 : Vec Z h278 b2 .int (4 : Int32) (ints (updF C3 2 ((C3 2) + (1 : Int32)))) := V278
            have h281 : RV Z h278 b36 (4 : Int32) [(.ref b48), (.ref b76), (.ref b111), (.ref b153)] := hfg200_2.other W278 (Ne.symm q40)
            have h282 : Vec Z h278 b48 .int l0 (ints g0) := hfg200_3.other W278 (Ne.symm q52)
            have h283 : Vec Z h278 b76 .int l1 (ints g1) := hfg200_4.other W278 (Ne.symm q80)
            have h284 : Vec Z h278 b111 .int l2 (ints g2) := hfg200_5.other W278 (Ne.symm q115)
            have h285 : Vec Z h278 b153 .int l3 (ints g3) := hfg200_6.other W278 (Ne.symm q157)
            have K278 : Keep h0 h278 [] := Kg200.wr W278 (Or.inr szb2)
            have N278 := Fr.snoc X278 Ng200 Gb2
            refine Go.st st278 ?_
            show Go p e below s Q 6 24 (T278.setTop (mkF m 106 #[.val (.ref cl), .val (.int (4 : Int32)), .val (.ref b2), .val (.ref b36), .val (.int i3), .val (.int (2 : Int32)), sl1] [(.int (C3 2)), (.ref b111)]))
            refine Go.st (fun _ k => XS.iload X278.here hx rfl (hb hby d1_106) rfl k) ?_
            have r287 : 0 ≤ (C3 2).toInt := by omega
            have r288 : (C3 2).toInt < l2.toInt := by omega
            obtain ⟨T286, h286, X286, e286, W286, V286, st286⟩ := Vec.istI X278 hx hZ e278 h284 (j := (C3 2)) r287 r288 (g := (mkF m 108 #[.val (.ref cl), .val (.int (4 : Int32)), .val (.ref b2), .val (.ref b36), .val (.int i3), .val (.int (2 : Int32)), sl1] [(.int i3), (.int (C3 2)), (.ref b111)])) rfl rfl (hb hby d1_108)
            have h289 : Vec Z h286 cl .int nn (ints KK) := h279.other W286 q114
            have h290 : Vec Z h286 b2 .int (4 : Int32) (ints (updF C3 2 ((C3 2) + (1 : Int32)))) := h280.other W286 q115
            have h291 : RV Z h286 b36 (4 : Int32) [(.ref b48), (.ref b76), (.ref b111), (.ref b153)] := h281.other W286 q116
            have h292 : Vec Z h286 b48 .int l0 (ints g0) := h282.other W286 q117
            have h293 : Vec Z h286 b76 .int l1 (ints g1) := h283.other W286 q118
            have h294 : Vec Z h286 b111 .int l2 (ints (updF g2 (C3 2).toInt.toNat i3)) := V286
            have h295 : Vec Z h286 b153 .int l3 (ints g3) := h285.other W286 (Ne.symm q161)
            have K286 : Keep h0 h286 [] := K278.wr W286 (Or.inr szb111)
            have N286 := Fr.snoc X286 N278 Gb111
            refine Go.st st286 ?_
            show Go p e below s Q 6 24 (T286.setTop (mkF m 109 #[.val (.ref cl), .val (.int (4 : Int32)), .val (.ref b2), .val (.ref b36), .val (.int i3), .val (.int (2 : Int32)), sl1] []))
            refine Go.st (fun _ k => XS.iinc X286.here hx rfl (hb hby d1_109) rfl (l' := #[.val (.ref cl), .val (.int (4 : Int32)), .val (.ref b2), .val (.ref b36), .val (.int (i3 + (1 : Int32))), .val (.int (2 : Int32)), sl1]) rfl k) ?_
            show Go p e below s Q 6 24 (T286.setTop (mkF m 112 #[.val (.ref cl), .val (.int (4 : Int32)), .val (.ref b2), .val (.ref b36), .val (.int (i3 + (1 : Int32))), .val (.int (2 : Int32)), sl1] []))
            have f296 := c_iadd i3 (1 : Int32)
            have f297 := rng32 (i3 + (1 : Int32))
            generalize hv_v298 : (i3 + (1 : Int32)) = v298 at f296 f297 ⊢
            refine Go.st (fun _ k => XS.goto X286.here hx rfl (pc0 := 112) (pc' := 80) rfl (hb hby d1_112) (by decide) (by decide) k) ?_
            show Go p e below s Q 6 24 (T286.setTop (mkF m 80 #[.val (.ref cl), .val (.int (4 : Int32)), .val (.ref b2), .val (.ref b36), .val (.int v298), .val (.int (2 : Int32)), sl1] []))
            exact ihg200 _ (by omega) T286 h286 _ (up X286 (by decide) (by decide)) e286 N286 K286 v298 (2 : Int32) (updF C3 2 ((C3 2) + (1 : Int32))) g0 g1 (updF g2 (C3 2).toInt.toNat i3) g3 h289 h290 h291 h292 h293 h294 h295 (by omega) (by exact cnt_upd (x := 2) hpg200_1 (by rw [hv_v210]; decide) (by omega) (by decide) (by omega)) (by exact G_keep hpg200_2 (by rw [hv_v210]; decide) (by omega)) (by exact G_keep hpg200_3 (by rw [hv_v210]; decide) (by omega)) (by exact G_upd hpg200_4 (by omega) (by omega) (by omega)) (by exact G_keep hpg200_5 (by rw [hv_v210]; decide) (by omega)) rfl
          ·
            have cs215' : v210 = (3 : Int32) := eqI cs215 liI_3 rfl
            subst cs215'
            have f299 := liI_3
            show Go p e below s Q 6 24 (Tg200.setTop (mkF m 93 #[.val (.ref cl), .val (.int (4 : Int32)), .val (.ref b2), .val (.ref b36), .val (.int i3), .val (.int (3 : Int32)), sl1] []))
            have hck : (C3 3).toInt = cnt KK i3.toInt.toNat 3 := hpg200_1 3 (by decide)
            have hcr := cnt_rng KK i3.toInt.toNat 3
            have hlt := cnt_lt KK (i := i3.toInt.toNat) (j := nn.toInt.toNat) (r := 3) (by omega) (by rw [hv_v210]; decide)
            refine Go.st (fun _ k => XS.aloadN Xg200.here hx rfl (hb hby d1_93) rfl rfl k) ?_
            refine Go.st (fun _ k => XS.iload Xg200.here hx rfl (hb hby d1_94) rfl k) ?_
            refine Go.st (RV.ild Xg200 hx hZ eg200 hfg200_2 (j := (3 : Int32)) (by decide) (by decide) (g := (mkF m 96 #[.val (.ref cl), .val (.int (4 : Int32)), .val (.ref b2), .val (.ref b36), .val (.int i3), .val (.int (3 : Int32)), sl1] [(.int (3 : Int32)), (.ref b36)])) rfl rfl (hb hby d1_96)) ?_
            show Go p e below s Q 6 24 (Tg200.setTop (mkF m 97 #[.val (.ref cl), .val (.int (4 : Int32)), .val (.ref b2), .val (.ref b36), .val (.int i3), .val (.int (3 : Int32)), sl1] [(.ref b153)]))
            refine Go.st (fun _ k => XS.aloadN Xg200.here hx rfl (hb hby d1_97) rfl rfl k) ?_
            refine Go.st (fun _ k => XS.iload Xg200.here hx rfl (hb hby d1_98) rfl k) ?_
            refine Go.st (fun _ k => XT.dup2 Xg200.here hx rfl (hb hby d1_100) rfl rfl rfl k) ?_
            refine Go.st (Vec.ildI Xg200 hx hZ eg200 hfg200_1 (j := (3 : Int32)) (by decide) (by decide) (g := (mkF m 101 #[.val (.ref cl), .val (.int (4 : Int32)), .val (.ref b2), .val (.ref b36), .val (.int i3), .val (.int (3 : Int32)), sl1] [(.int (3 : Int32)), (.ref b2), (.int (3 : Int32)), (.ref b2), (.ref b153)])) rfl rfl (hb hby d1_101)) ?_
            show Go p e below s Q 6 24 (Tg200.setTop (mkF m 102 #[.val (.ref cl), .val (.int (4 : Int32)), .val (.ref b2), .val (.ref b36), .val (.int i3), .val (.int (3 : Int32)), sl1] [(.int (C3 3)), (.int (3 : Int32)), (.ref b2), (.ref b153)]))
            refine Go.st (fun _ k => dupX2 Xg200.here hx rfl (hb hby d1_102) rfl rfl rfl rfl k) ?_
            refine Go.st (fun _ k => XS.iconst Xg200.here hx rfl (hb hby d1_103) k) ?_
            refine Go.st (fun _ k => XS.iadd Xg200.here hx rfl (hb hby d1_104) rfl k) ?_
            show Go p e below s Q 6 24 (Tg200.setTop (mkF m 105 #[.val (.ref cl), .val (.int (4 : Int32)), .val (.ref b2), .val (.ref b36), .val (.int i3), .val (.int (3 : Int32)), sl1] [(.int ((C3 3) + (1 : Int32))), (.int (3 : Int32)), (.ref b2), (.int (C3 3)), (.ref b153)]))
            have f302 := rng32 (C3 3)
            have f303 := liI_1
            have f304 := c_iadd (C3 3) (1 : Int32)
            have f305 := rng32 ((C3 3) + (1 : Int32))
            obtain ⟨T306, h306, X306, e306, W306, V306, st306⟩ := Vec.istI Xg200 hx hZ eg200 hfg200_1 (j := (3 : Int32)) (by decide) (by decide) (g := (mkF m 105 #[.val (.ref cl), .val (.int (4 : Int32)), .val (.ref b2), .val (.ref b36), .val (.int i3), .val (.int (3 : Int32)), sl1] [(.int ((C3 3) + (1 : Int32))), (.int (3 : Int32)), (.ref b2), (.int (C3 3)), (.ref b153)])) rfl rfl (hb hby d1_105)
            have h307 : Vec Z h306 cl .int nn (ints KK) := hfg200_0.other W306 q5
            have h308 : Vec Z h306 b2 .int (4 : Int32) (ints (updF C3 3 ((C3 3) + (1 : Int32)))) := V306
            have h309 : RV Z h306 b36 (4 : Int32) [(.ref b48), (.ref b76), (.ref b111), (.ref b153)] := hfg200_2.other W306 (Ne.symm q40)
            have h310 : Vec Z h306 b48 .int l0 (ints g0) := hfg200_3.other W306 (Ne.symm q52)
            have h311 : Vec Z h306 b76 .int l1 (ints g1) := hfg200_4.other W306 (Ne.symm q80)
            have h312 : Vec Z h306 b111 .int l2 (ints g2) := hfg200_5.other W306 (Ne.symm q115)
            have h313 : Vec Z h306 b153 .int l3 (ints g3) := hfg200_6.other W306 (Ne.symm q157)
            have K306 : Keep h0 h306 [] := Kg200.wr W306 (Or.inr szb2)
            have N306 := Fr.snoc X306 Ng200 Gb2
            refine Go.st st306 ?_
            show Go p e below s Q 6 24 (T306.setTop (mkF m 106 #[.val (.ref cl), .val (.int (4 : Int32)), .val (.ref b2), .val (.ref b36), .val (.int i3), .val (.int (3 : Int32)), sl1] [(.int (C3 3)), (.ref b153)]))
            refine Go.st (fun _ k => XS.iload X306.here hx rfl (hb hby d1_106) rfl k) ?_
            have r315 : 0 ≤ (C3 3).toInt := by omega
            have r316 : (C3 3).toInt < l3.toInt := by omega
            obtain ⟨T314, h314, X314, e314, W314, V314, st314⟩ := Vec.istI X306 hx hZ e306 h313 (j := (C3 3)) r315 r316 (g := (mkF m 108 #[.val (.ref cl), .val (.int (4 : Int32)), .val (.ref b2), .val (.ref b36), .val (.int i3), .val (.int (3 : Int32)), sl1] [(.int i3), (.int (C3 3)), (.ref b153)])) rfl rfl (hb hby d1_108)
            have h317 : Vec Z h314 cl .int nn (ints KK) := h307.other W314 q156
            have h318 : Vec Z h314 b2 .int (4 : Int32) (ints (updF C3 3 ((C3 3) + (1 : Int32)))) := h308.other W314 q157
            have h319 : RV Z h314 b36 (4 : Int32) [(.ref b48), (.ref b76), (.ref b111), (.ref b153)] := h309.other W314 q158
            have h320 : Vec Z h314 b48 .int l0 (ints g0) := h310.other W314 q159
            have h321 : Vec Z h314 b76 .int l1 (ints g1) := h311.other W314 q160
            have h322 : Vec Z h314 b111 .int l2 (ints g2) := h312.other W314 q161
            have h323 : Vec Z h314 b153 .int l3 (ints (updF g3 (C3 3).toInt.toNat i3)) := V314
            have K314 : Keep h0 h314 [] := K306.wr W314 (Or.inr szb153)
            have N314 := Fr.snoc X314 N306 Gb153
            refine Go.st st314 ?_
            show Go p e below s Q 6 24 (T314.setTop (mkF m 109 #[.val (.ref cl), .val (.int (4 : Int32)), .val (.ref b2), .val (.ref b36), .val (.int i3), .val (.int (3 : Int32)), sl1] []))
            refine Go.st (fun _ k => XS.iinc X314.here hx rfl (hb hby d1_109) rfl (l' := #[.val (.ref cl), .val (.int (4 : Int32)), .val (.ref b2), .val (.ref b36), .val (.int (i3 + (1 : Int32))), .val (.int (3 : Int32)), sl1]) rfl k) ?_
            show Go p e below s Q 6 24 (T314.setTop (mkF m 112 #[.val (.ref cl), .val (.int (4 : Int32)), .val (.ref b2), .val (.ref b36), .val (.int (i3 + (1 : Int32))), .val (.int (3 : Int32)), sl1] []))
            have f324 := c_iadd i3 (1 : Int32)
            have f325 := rng32 (i3 + (1 : Int32))
            generalize hv_v326 : (i3 + (1 : Int32)) = v326 at f324 f325 ⊢
            refine Go.st (fun _ k => XS.goto X314.here hx rfl (pc0 := 112) (pc' := 80) rfl (hb hby d1_112) (by decide) (by decide) k) ?_
            show Go p e below s Q 6 24 (T314.setTop (mkF m 80 #[.val (.ref cl), .val (.int (4 : Int32)), .val (.ref b2), .val (.ref b36), .val (.int v326), .val (.int (3 : Int32)), sl1] []))
            exact ihg200 _ (by omega) T314 h314 _ (up X314 (by decide) (by decide)) e314 N314 K314 v326 (3 : Int32) (updF C3 3 ((C3 3) + (1 : Int32))) g0 g1 g2 (updF g3 (C3 3).toInt.toNat i3) h317 h318 h319 h320 h321 h322 h323 (by omega) (by exact cnt_upd (x := 3) hpg200_1 (by rw [hv_v210]; decide) (by omega) (by decide) (by omega)) (by exact G_keep hpg200_2 (by rw [hv_v210]; decide) (by omega)) (by exact G_keep hpg200_3 (by rw [hv_v210]; decide) (by omega)) (by exact G_keep hpg200_4 (by rw [hv_v210]; decide) (by omega)) (by exact G_upd hpg200_5 (by omega) (by omega) (by omega)) rfl
        ·
          refine Go.st (fun _ k => XS.icmpYes Xg200.here hx rfl (pc0 := 84) (pc' := 115) rfl (hb hby d1_84) rfl (flt (nltI rfl rfl c205)).2.1 (by decide) (by decide) k) ?_
          refine Go.st (fun _ k => XS.aloadN Xg200.here hx rfl (hb hby d1_115) rfl rfl k) ?_
          show Go p e below s Q 6 24 (Tg200.setTop (mkF m 116 #[.val (.ref cl), .val (.int (4 : Int32)), .val (.ref b2), .val (.ref b36), .val (.int i3), .val (.int x5), sl1] [(.ref b36)]))
          exact Go.retA Xg200 hx hlk rfl Bd.returns rfl (hb hby d1_116) (by rw [← hQ, eg200]; exact ⟨b36, b48, l0, g0, b76, l1, g1, b111, l2, g2, b153, l3, g3, rfl, Ng200, (by exact hl0), (by exact hl1), (by exact hl2), (by exact hl3), (by exact (show i3.toInt.toNat = nn.toInt.toNat by omega) ▸ hpg200_2), (by exact (show i3.toInt.toNat = nn.toInt.toNat by omega) ▸ hpg200_3), (by exact (show i3.toInt.toNat = nn.toInt.toNat by omega) ▸ hpg200_4), (by exact (show i3.toInt.toNat = nn.toInt.toNat by omega) ▸ hpg200_5), Kg200, hfg200_2, hfg200_3, hfg200_4, hfg200_5, hfg200_6⟩) (by decide) (by decide)
      have f327 := liI_0
      exact lp201 _ T186 h186 _ (up X186 (by decide) (by decide)) e186 N186 K186 (0 : Int32) i1 (updF (updF (updF (updF C1 0 (0 : Int32)) 1 (0 : Int32)) 2 (0 : Int32)) 3 (0 : Int32)) (fun _ => (0 : Int32)) (fun _ => (0 : Int32)) (fun _ => (0 : Int32)) (fun _ => (0 : Int32)) h187 h189 h190 h192 h194 h196 h198 (by omega) (by intro r hr; rcases (by omega : r = 0 ∨ r = 1 ∨ r = 2 ∨ r = 3) with rfl | rfl | rfl | rfl <;> rfl) (by intro j hj; exact absurd hj (Nat.not_lt_zero j)) (by intro j hj; exact absurd hj (Nat.not_lt_zero j)) (by intro j hj; exact absurd hj (Nat.not_lt_zero j)) (by intro j hj; exact absurd hj (Nat.not_lt_zero j)) rfl
  have f328 := rng32 nn
  have f329 := liI_0
  exact lp10 _ T2 h2 _ (up X2 (by decide) (by decide)) e2 N0 K2 (0 : Int32) (fun _ => (0 : Int32)) (.unset) h6 B2 h7 (by omega) (by intro r hr; rfl) One.u rfl
theorem pn_1 : plainName "com/example/rackwise/rackwise/RackCostsClientsOfRacksPinLaw" = true := by first | (simp [plainName, overriddenIn]; done) | decide +kernel
theorem d5_0 : decode method_3_code 0 = .ok (.iload_n 0, 1) := by decide +kernel
theorem d5_1 : decode method_3_code 1 = .ok (.iload_n 1, 1) := by decide +kernel
theorem d5_2 : decode method_3_code 2 = .ok (.if_icmp .ne 7, 3) := by decide +kernel
theorem d5_5 : decode method_3_code 5 = .ok (.iconst 1, 1) := by decide +kernel
theorem d5_6 : decode method_3_code 6 = .ok (.goto 4, 3) := by decide +kernel
theorem d5_10 : decode method_3_code 10 = .ok (.ireturn, 1) := by decide +kernel
theorem d5_9 : decode method_3_code 9 = .ok (.iconst 0, 1) := by decide +kernel
theorem ef_rm5 (m : MethodId) (a : Int32) (b : Int32) : entryFrame m #[(.int a), (.int b)] 2 = mkF m 0 #[.val (.int a), .val (.int b)] [] := by first | (simp [entryFrame, mkF, argsToLocals, Value.category]; done) | rfl
def Q5 (Z : State) (a : Int32) (b : Int32) (h0 : Heap) (n0 : Nat) (vv : Option Value) (h : Heap) (LL : List Loc) : Prop := ∃ (rr : Int32), vv = some (.int rr) ∧ Fr n0 LL ∧ ((a.toInt = b.toInt ∧ rr.toInt = 1) ∨ (¬ a.toInt = b.toInt ∧ rr.toInt = 0)) ∧ h = h0
set_option maxRecDepth 65536 in
set_option maxHeartbeats 40000000 in
theorem rm5 (l : Launch) (Z : State) (a0 : Array Value) (hw : ∀ d ∈ tables_1, d.before a0 Z = true) (ws : List Jvm.Cond) (a : Int32) (b : Int32) (h0 : Heap) (n0 : Nat) (Z0 : n0 ≤ h0.size) :
    MetFree l (⟨"com/example/rackwise/rackwise/RackCostsClientsOfRacksPinLaw", "same", "(II)I"⟩ : MethodName) (head1 (Jvm.Cond.code (⟨"com/example/rackwise/rackwise/RackCostsClientsOfRacksPinLaw", "same", "(II)I"⟩ : MethodName) method_3_code 2 (some .int) :: ws) ({ frames := 0, cells := 0, slots := 0, locals := 0 } : Room)) (fun aa UU => aa = #[(.int a), (.int b)] ∧ Z.Warmed39 UU.vm ∧ UU.heap = h0) (fun _ _ _ _ _ => True) (fun _ UU oo UU' => ∃ vv LL, oo = .returned vv ∧ Q5 Z a b h0 n0 vv UU'.heap LL ∧ FrameEnd UU oo UU' LL 0 0) := by
  refine MetFree.of_bodySF (plainFor_of_name pn_1) hisR ?_
  intro p e s m args below meth c s₁ Bd hml0 hP hK
  obtain ⟨rfl, hZ, hh⟩ := hP
  have hx := Bd.exec
  have hby := Bd.bytes
  have hlk : meth.locks = false := BodyLoose.notSynchronized Bd
  have hml : c.maxLocals = 2 := hml0
  have hown : s.vm.findClass "com/example/rackwise/rackwise/RackCostsClientsOfRacksPinLaw" = some m.cls := findClass_of_methodNamed Bd.named
  have hnm := (name_of_methodNamed Bd.named Bd.method).1
  have X0 : Stand p l e ({ frames := 0, cells := 0, slots := 0, locals := 0 } : Room) s m #[(.int a), (.int b)] below meth c s₁ [] 0 0 := Stand.of_body Bd
  have e0 : s₁.heap = h0 := by rw [← hh, Bd.state]; rfl
  have N0 := Fr.nil n0
  have K0 : Keep h0 h0 [] := Keep.refl h0 _
  refine (?_ : Go p e below s (Q5 Z a b h0 n0) 0 0 (s₁.setTop (entryFrame m #[(.int a), (.int b)] 2)))
  rw [ef_rm5]
  generalize hQ : Q5 Z a b h0 n0 = Q
  show Go p e below s Q 0 0 (s₁.setTop (mkF m 0 #[.val (.int a), .val (.int b)] []))
  have f1 := rng32 a
  have f2 := rng32 b
  refine Go.st (fun _ k => XS.iloadN X0.here hx rfl (hb hby d5_0) rfl k) ?_
  refine Go.st (fun _ k => XS.iloadN X0.here hx rfl (hb hby d5_1) rfl k) ?_
  by_cases c3 : a.toInt = b.toInt
  ·
    refine Go.st (fun _ k => XS.icmpNo X0.here hx rfl (hb hby d5_2) rfl (teq (eqI rfl rfl c3)).2 k) ?_
    refine Go.st (fun _ k => XS.iconst X0.here hx rfl (hb hby d5_5) k) ?_
    refine Go.st (fun _ k => XS.goto X0.here hx rfl (pc0 := 6) (pc' := 10) rfl (hb hby d5_6) (by decide) (by decide) k) ?_
    show Go p e below s Q 0 0 (s₁.setTop (mkF m 10 #[.val (.int a), .val (.int b)] [(.int (1 : Int32))]))
    have f4 := liI_1
    exact Go.retI X0 hx hlk Bd.returns (hb hby d5_10) (by rw [← hQ, e0]; exact ⟨(1 : Int32), rfl, N0, (by omega), rfl⟩) (by decide) (by decide)
  ·
    refine Go.st (fun _ k => XS.icmpYes X0.here hx rfl (pc0 := 2) (pc' := 9) rfl (hb hby d5_2) rfl (feq (neI rfl rfl c3)).2 (by decide) (by decide) k) ?_
    refine Go.st (fun _ k => XS.iconst X0.here hx rfl (hb hby d5_9) k) ?_
    show Go p e below s Q 0 0 (s₁.setTop (mkF m 10 #[.val (.int a), .val (.int b)] [(.int (0 : Int32))]))
    have f5 := liI_0
    exact Go.retI X0 hx hlk Bd.returns (hb hby d5_10) (by rw [← hQ, e0]; exact ⟨(0 : Int32), rfl, N0, (by omega), rfl⟩) (by decide) (by decide)
theorem d3_0 : decode method_4_code 0 = .ok (.iconst 0, 1) := by decide +kernel
theorem d3_1 : decode method_4_code 1 = .ok (.istore 6, 2) := by decide +kernel
theorem d3_3 : decode method_4_code 3 = .ok (.iload_n 1, 1) := by decide +kernel
theorem d3_4 : decode method_4_code 4 = .ok (.ifCond .le 11, 3) := by decide +kernel
theorem d3_7 : decode method_4_code 7 = .ok (.iload_n 2, 1) := by decide +kernel
theorem d3_8 : decode method_4_code 8 = .ok (.iload_n 0, 1) := by decide +kernel
theorem d3_9 : decode method_4_code 9 = .ok (.if_icmp .ne 6, 3) := by decide +kernel
theorem d3_12 : decode method_4_code 12 = .ok (.iinc 6 1, 3) := by decide +kernel
theorem d3_15 : decode method_4_code 15 = .ok (.iload_n 1, 1) := by decide +kernel
theorem d3_16 : decode method_4_code 16 = .ok (.iconst 1, 1) := by decide +kernel
theorem d3_17 : decode method_4_code 17 = .ok (.if_icmp .le 11, 3) := by decide +kernel
theorem d3_20 : decode method_4_code 20 = .ok (.iload_n 3, 1) := by decide +kernel
theorem d3_21 : decode method_4_code 21 = .ok (.iload_n 0, 1) := by decide +kernel
theorem d3_22 : decode method_4_code 22 = .ok (.if_icmp .ne 6, 3) := by decide +kernel
theorem d3_25 : decode method_4_code 25 = .ok (.iinc 6 1, 3) := by decide +kernel
theorem d3_28 : decode method_4_code 28 = .ok (.iload_n 1, 1) := by decide +kernel
theorem d3_29 : decode method_4_code 29 = .ok (.iconst 2, 1) := by decide +kernel
theorem d3_30 : decode method_4_code 30 = .ok (.if_icmp .le 12, 3) := by decide +kernel
theorem d3_33 : decode method_4_code 33 = .ok (.iload 4, 2) := by decide +kernel
theorem d3_35 : decode method_4_code 35 = .ok (.iload_n 0, 1) := by decide +kernel
theorem d3_36 : decode method_4_code 36 = .ok (.if_icmp .ne 6, 3) := by decide +kernel
theorem d3_39 : decode method_4_code 39 = .ok (.iinc 6 1, 3) := by decide +kernel
theorem d3_42 : decode method_4_code 42 = .ok (.iload_n 1, 1) := by decide +kernel
theorem d3_43 : decode method_4_code 43 = .ok (.iconst 3, 1) := by decide +kernel
theorem d3_44 : decode method_4_code 44 = .ok (.if_icmp .le 12, 3) := by decide +kernel
theorem d3_47 : decode method_4_code 47 = .ok (.iload 5, 2) := by decide +kernel
theorem d3_49 : decode method_4_code 49 = .ok (.iload_n 0, 1) := by decide +kernel
theorem d3_50 : decode method_4_code 50 = .ok (.if_icmp .ne 6, 3) := by decide +kernel
theorem d3_53 : decode method_4_code 53 = .ok (.iinc 6 1, 3) := by decide +kernel
theorem d3_56 : decode method_4_code 56 = .ok (.iload 6, 2) := by decide +kernel
theorem d3_58 : decode method_4_code 58 = .ok (.ireturn, 1) := by decide +kernel
theorem ef_rm3 (m : MethodId) (rk : Int32) (nn : Int32) (k0 : Int32) (k1 : Int32) (k2 : Int32) (k3 : Int32) : entryFrame m #[(.int rk), (.int nn), (.int k0), (.int k1), (.int k2), (.int k3)] 7 = mkF m 0 #[.val (.int rk), .val (.int nn), .val (.int k0), .val (.int k1), .val (.int k2), .val (.int k3), .unset] [] := by first | (simp [entryFrame, mkF, argsToLocals, Value.category]; done) | rfl
def Q3 (Z : State) (rk : Int32) (nn : Int32) (k0 : Int32) (k1 : Int32) (k2 : Int32) (k3 : Int32) (h0 : Heap) (n0 : Nat) (vv : Option Value) (h : Heap) (LL : List Loc) : Prop := ∃ (rr : Int32), vv = some (.int rr) ∧ Fr n0 LL ∧ (∃ a b c : Int, Mo (0 < nn.toInt ∧ k0.toInt = rk.toInt) 0 a ∧ Mo (1 < nn.toInt ∧ k1.toInt = rk.toInt) a b ∧ Mo (2 < nn.toInt ∧ k2.toInt = rk.toInt) b c ∧ Mo (3 < nn.toInt ∧ k3.toInt = rk.toInt) c rr.toInt) ∧ (0 ≤ rr.toInt) ∧ h = h0
set_option maxRecDepth 65536 in
set_option maxHeartbeats 40000000 in
theorem rm3 (l : Launch) (Z : State) (a0 : Array Value) (hw : ∀ d ∈ tables_1, d.before a0 Z = true) (ws : List Jvm.Cond) (rk : Int32) (nn : Int32) (k0 : Int32) (k1 : Int32) (k2 : Int32) (k3 : Int32) (h0 : Heap) (n0 : Nat) (Z0 : n0 ≤ h0.size) (hn : 0 ≤ nn.toInt ∧ nn.toInt ≤ 4) :
    MetFree l (⟨"com/example/rackwise/rackwise/RackCostsClientsOfRacksPinLaw", "count", "(IIIIII)I"⟩ : MethodName) (head1 (Jvm.Cond.code (⟨"com/example/rackwise/rackwise/RackCostsClientsOfRacksPinLaw", "count", "(IIIIII)I"⟩ : MethodName) method_4_code 7 (some .int) :: ws) ({ frames := 0, cells := 0, slots := 0, locals := 0 } : Room)) (fun aa UU => aa = #[(.int rk), (.int nn), (.int k0), (.int k1), (.int k2), (.int k3)] ∧ Z.Warmed39 UU.vm ∧ UU.heap = h0) (fun _ _ _ _ _ => True) (fun _ UU oo UU' => ∃ vv LL, oo = .returned vv ∧ Q3 Z rk nn k0 k1 k2 k3 h0 n0 vv UU'.heap LL ∧ FrameEnd UU oo UU' LL 0 0) := by
  refine MetFree.of_bodySF (plainFor_of_name pn_1) hisR ?_
  intro p e s m args below meth c s₁ Bd hml0 hP hK
  obtain ⟨rfl, hZ, hh⟩ := hP
  have hx := Bd.exec
  have hby := Bd.bytes
  have hlk : meth.locks = false := BodyLoose.notSynchronized Bd
  have hml : c.maxLocals = 7 := hml0
  have hown : s.vm.findClass "com/example/rackwise/rackwise/RackCostsClientsOfRacksPinLaw" = some m.cls := findClass_of_methodNamed Bd.named
  have hnm := (name_of_methodNamed Bd.named Bd.method).1
  have X0 : Stand p l e ({ frames := 0, cells := 0, slots := 0, locals := 0 } : Room) s m #[(.int rk), (.int nn), (.int k0), (.int k1), (.int k2), (.int k3)] below meth c s₁ [] 0 0 := Stand.of_body Bd
  have e0 : s₁.heap = h0 := by rw [← hh, Bd.state]; rfl
  have N0 := Fr.nil n0
  have K0 : Keep h0 h0 [] := Keep.refl h0 _
  refine (?_ : Go p e below s (Q3 Z rk nn k0 k1 k2 k3 h0 n0) 0 0 (s₁.setTop (entryFrame m #[(.int rk), (.int nn), (.int k0), (.int k1), (.int k2), (.int k3)] 7)))
  rw [ef_rm3]
  generalize hQ : Q3 Z rk nn k0 k1 k2 k3 h0 n0 = Q
  show Go p e below s Q 0 0 (s₁.setTop (mkF m 0 #[.val (.int rk), .val (.int nn), .val (.int k0), .val (.int k1), .val (.int k2), .val (.int k3), .unset] []))
  have f1 := rng32 rk
  have f2 := rng32 nn
  have f3 := rng32 k0
  have f4 := rng32 k1
  have f5 := rng32 k2
  have f6 := rng32 k3
  refine Go.st (fun _ k => XS.iconst X0.here hx rfl (hb hby d3_0) k) ?_
  refine Go.st (fun _ k => XS.istore X0.here hx rfl (hb hby d3_1) rfl (l' := #[.val (.int rk), .val (.int nn), .val (.int k0), .val (.int k1), .val (.int k2), .val (.int k3), .val (.int (0 : Int32))]) rfl k) ?_
  refine Go.st (fun _ k => XS.iloadN X0.here hx rfl (hb hby d3_3) rfl k) ?_
  show Go p e below s Q 0 0 (s₁.setTop (mkF m 4 #[.val (.int rk), .val (.int nn), .val (.int k0), .val (.int k1), .val (.int k2), .val (.int k3), .val (.int (0 : Int32))] [(.int nn)]))
  suffices J8 : ∀ (j7 : Int32), (Mo (0 < nn.toInt ∧ k0.toInt = rk.toInt) 0 j7.toInt) → Go p e below s Q 0 0 (s₁.setTop (mkF m 15 #[.val (.int rk), .val (.int nn), .val (.int k0), .val (.int k1), .val (.int k2), .val (.int k3), .val (.int j7)] [])) by
    have f10 := liI_0
    by_cases c11 : 0 < nn.toInt
    ·
      refine Go.st (fun _ k => XS.ifNo X0.here hx rfl (hb hby d3_4) rfl ((if0 _ _).trans (tlt (ltI liI_0 rfl c11)).2.2.2) k) ?_
      refine Go.st (fun _ k => XS.iloadN X0.here hx rfl (hb hby d3_7) rfl k) ?_
      refine Go.st (fun _ k => XS.iloadN X0.here hx rfl (hb hby d3_8) rfl k) ?_
      by_cases c12 : k0.toInt = rk.toInt
      ·
        refine Go.st (fun _ k => XS.icmpNo X0.here hx rfl (hb hby d3_9) rfl (teq (eqI rfl rfl c12)).2 k) ?_
        refine Go.st (fun _ k => XS.iinc X0.here hx rfl (hb hby d3_12) rfl (l' := #[.val (.int rk), .val (.int nn), .val (.int k0), .val (.int k1), .val (.int k2), .val (.int k3), .val (.int (1 : Int32))]) rfl k) ?_
        show Go p e below s Q 0 0 (s₁.setTop (mkF m 15 #[.val (.int rk), .val (.int nn), .val (.int k0), .val (.int k1), .val (.int k2), .val (.int k3), .val (.int (1 : Int32))] []))
        have f13 := liI_1
        exact J8 (1 : Int32) (by unfold Mo; omega)
      ·
        refine Go.st (fun _ k => XS.icmpYes X0.here hx rfl (pc0 := 9) (pc' := 15) rfl (hb hby d3_9) rfl (feq (neI rfl rfl c12)).2 (by decide) (by decide) k) ?_
        show Go p e below s Q 0 0 (s₁.setTop (mkF m 15 #[.val (.int rk), .val (.int nn), .val (.int k0), .val (.int k1), .val (.int k2), .val (.int k3), .val (.int (0 : Int32))] []))
        exact J8 (0 : Int32) (by unfold Mo; omega)
    ·
      refine Go.st (fun _ k => XS.ifYes X0.here hx rfl (pc0 := 4) (pc' := 15) rfl (hb hby d3_4) rfl ((if0 _ _).trans (flt (nltI liI_0 rfl c11)).2.2.2) (by decide) (by decide) k) ?_
      show Go p e below s Q 0 0 (s₁.setTop (mkF m 15 #[.val (.int rk), .val (.int nn), .val (.int k0), .val (.int k1), .val (.int k2), .val (.int k3), .val (.int (0 : Int32))] []))
      exact J8 (0 : Int32) (by unfold Mo; omega)
  intro j7 f14
  have f15 := rng32 j7
  have gf14 := f14
  unfold Mo at gf14
  refine Go.st (fun _ k => XS.iloadN X0.here hx rfl (hb hby d3_15) rfl k) ?_
  refine Go.st (fun _ k => XS.iconst X0.here hx rfl (hb hby d3_16) k) ?_
  show Go p e below s Q 0 0 (s₁.setTop (mkF m 17 #[.val (.int rk), .val (.int nn), .val (.int k0), .val (.int k1), .val (.int k2), .val (.int k3), .val (.int j7)] [(.int (1 : Int32)), (.int nn)]))
  suffices J17 : ∀ (j16 : Int32), (Mo (1 < nn.toInt ∧ k1.toInt = rk.toInt) j7.toInt j16.toInt) → Go p e below s Q 0 0 (s₁.setTop (mkF m 28 #[.val (.int rk), .val (.int nn), .val (.int k0), .val (.int k1), .val (.int k2), .val (.int k3), .val (.int j16)] [])) by
    have f19 := liI_1
    by_cases c20 : 1 < nn.toInt
    ·
      refine Go.st (fun _ k => XS.icmpNo X0.here hx rfl (hb hby d3_17) rfl (tlt (ltI liI_1 rfl c20)).2.2.2 k) ?_
      refine Go.st (fun _ k => XS.iloadN X0.here hx rfl (hb hby d3_20) rfl k) ?_
      refine Go.st (fun _ k => XS.iloadN X0.here hx rfl (hb hby d3_21) rfl k) ?_
      by_cases c21 : k1.toInt = rk.toInt
      ·
        refine Go.st (fun _ k => XS.icmpNo X0.here hx rfl (hb hby d3_22) rfl (teq (eqI rfl rfl c21)).2 k) ?_
        refine Go.st (fun _ k => XS.iinc X0.here hx rfl (hb hby d3_25) rfl (l' := #[.val (.int rk), .val (.int nn), .val (.int k0), .val (.int k1), .val (.int k2), .val (.int k3), .val (.int (j7 + (1 : Int32)))]) rfl k) ?_
        show Go p e below s Q 0 0 (s₁.setTop (mkF m 28 #[.val (.int rk), .val (.int nn), .val (.int k0), .val (.int k1), .val (.int k2), .val (.int k3), .val (.int (j7 + (1 : Int32)))] []))
        have f22 := c_iadd j7 (1 : Int32)
        have f23 := rng32 (j7 + (1 : Int32))
        exact J17 (j7 + (1 : Int32)) (by unfold Mo; omega)
      ·
        refine Go.st (fun _ k => XS.icmpYes X0.here hx rfl (pc0 := 22) (pc' := 28) rfl (hb hby d3_22) rfl (feq (neI rfl rfl c21)).2 (by decide) (by decide) k) ?_
        show Go p e below s Q 0 0 (s₁.setTop (mkF m 28 #[.val (.int rk), .val (.int nn), .val (.int k0), .val (.int k1), .val (.int k2), .val (.int k3), .val (.int j7)] []))
        exact J17 j7 (by unfold Mo; omega)
    ·
      refine Go.st (fun _ k => XS.icmpYes X0.here hx rfl (pc0 := 17) (pc' := 28) rfl (hb hby d3_17) rfl (flt (nltI liI_1 rfl c20)).2.2.2 (by decide) (by decide) k) ?_
      show Go p e below s Q 0 0 (s₁.setTop (mkF m 28 #[.val (.int rk), .val (.int nn), .val (.int k0), .val (.int k1), .val (.int k2), .val (.int k3), .val (.int j7)] []))
      exact J17 j7 (by unfold Mo; omega)
  intro j16 f24
  have f25 := rng32 j16
  have gf24 := f24
  unfold Mo at gf24
  refine Go.st (fun _ k => XS.iloadN X0.here hx rfl (hb hby d3_28) rfl k) ?_
  refine Go.st (fun _ k => XS.iconst X0.here hx rfl (hb hby d3_29) k) ?_
  show Go p e below s Q 0 0 (s₁.setTop (mkF m 30 #[.val (.int rk), .val (.int nn), .val (.int k0), .val (.int k1), .val (.int k2), .val (.int k3), .val (.int j16)] [(.int (2 : Int32)), (.int nn)]))
  suffices J27 : ∀ (j26 : Int32), (Mo (2 < nn.toInt ∧ k2.toInt = rk.toInt) j16.toInt j26.toInt) → Go p e below s Q 0 0 (s₁.setTop (mkF m 42 #[.val (.int rk), .val (.int nn), .val (.int k0), .val (.int k1), .val (.int k2), .val (.int k3), .val (.int j26)] [])) by
    have f29 := liI_2
    by_cases c30 : 2 < nn.toInt
    ·
      refine Go.st (fun _ k => XS.icmpNo X0.here hx rfl (hb hby d3_30) rfl (tlt (ltI liI_2 rfl c30)).2.2.2 k) ?_
      refine Go.st (fun _ k => XS.iload X0.here hx rfl (hb hby d3_33) rfl k) ?_
      refine Go.st (fun _ k => XS.iloadN X0.here hx rfl (hb hby d3_35) rfl k) ?_
      by_cases c31 : k2.toInt = rk.toInt
      ·
        refine Go.st (fun _ k => XS.icmpNo X0.here hx rfl (hb hby d3_36) rfl (teq (eqI rfl rfl c31)).2 k) ?_
        refine Go.st (fun _ k => XS.iinc X0.here hx rfl (hb hby d3_39) rfl (l' := #[.val (.int rk), .val (.int nn), .val (.int k0), .val (.int k1), .val (.int k2), .val (.int k3), .val (.int (j16 + (1 : Int32)))]) rfl k) ?_
        show Go p e below s Q 0 0 (s₁.setTop (mkF m 42 #[.val (.int rk), .val (.int nn), .val (.int k0), .val (.int k1), .val (.int k2), .val (.int k3), .val (.int (j16 + (1 : Int32)))] []))
        have f32 := liI_1
        have f33 := c_iadd j16 (1 : Int32)
        have f34 := rng32 (j16 + (1 : Int32))
        exact J27 (j16 + (1 : Int32)) (by unfold Mo; omega)
      ·
        refine Go.st (fun _ k => XS.icmpYes X0.here hx rfl (pc0 := 36) (pc' := 42) rfl (hb hby d3_36) rfl (feq (neI rfl rfl c31)).2 (by decide) (by decide) k) ?_
        show Go p e below s Q 0 0 (s₁.setTop (mkF m 42 #[.val (.int rk), .val (.int nn), .val (.int k0), .val (.int k1), .val (.int k2), .val (.int k3), .val (.int j16)] []))
        exact J27 j16 (by unfold Mo; omega)
    ·
      refine Go.st (fun _ k => XS.icmpYes X0.here hx rfl (pc0 := 30) (pc' := 42) rfl (hb hby d3_30) rfl (flt (nltI liI_2 rfl c30)).2.2.2 (by decide) (by decide) k) ?_
      show Go p e below s Q 0 0 (s₁.setTop (mkF m 42 #[.val (.int rk), .val (.int nn), .val (.int k0), .val (.int k1), .val (.int k2), .val (.int k3), .val (.int j16)] []))
      exact J27 j16 (by unfold Mo; omega)
  intro j26 f35
  have f36 := rng32 j26
  have gf35 := f35
  unfold Mo at gf35
  refine Go.st (fun _ k => XS.iloadN X0.here hx rfl (hb hby d3_42) rfl k) ?_
  refine Go.st (fun _ k => XS.iconst X0.here hx rfl (hb hby d3_43) k) ?_
  show Go p e below s Q 0 0 (s₁.setTop (mkF m 44 #[.val (.int rk), .val (.int nn), .val (.int k0), .val (.int k1), .val (.int k2), .val (.int k3), .val (.int j26)] [(.int (3 : Int32)), (.int nn)]))
  suffices J38 : ∀ (j37 : Int32), (Mo (3 < nn.toInt ∧ k3.toInt = rk.toInt) j26.toInt j37.toInt) → Go p e below s Q 0 0 (s₁.setTop (mkF m 56 #[.val (.int rk), .val (.int nn), .val (.int k0), .val (.int k1), .val (.int k2), .val (.int k3), .val (.int j37)] [])) by
    have f40 := liI_3
    by_cases c41 : 3 < nn.toInt
    ·
      refine Go.st (fun _ k => XS.icmpNo X0.here hx rfl (hb hby d3_44) rfl (tlt (ltI liI_3 rfl c41)).2.2.2 k) ?_
      refine Go.st (fun _ k => XS.iload X0.here hx rfl (hb hby d3_47) rfl k) ?_
      refine Go.st (fun _ k => XS.iloadN X0.here hx rfl (hb hby d3_49) rfl k) ?_
      by_cases c42 : k3.toInt = rk.toInt
      ·
        refine Go.st (fun _ k => XS.icmpNo X0.here hx rfl (hb hby d3_50) rfl (teq (eqI rfl rfl c42)).2 k) ?_
        refine Go.st (fun _ k => XS.iinc X0.here hx rfl (hb hby d3_53) rfl (l' := #[.val (.int rk), .val (.int nn), .val (.int k0), .val (.int k1), .val (.int k2), .val (.int k3), .val (.int (j26 + (1 : Int32)))]) rfl k) ?_
        show Go p e below s Q 0 0 (s₁.setTop (mkF m 56 #[.val (.int rk), .val (.int nn), .val (.int k0), .val (.int k1), .val (.int k2), .val (.int k3), .val (.int (j26 + (1 : Int32)))] []))
        have f43 := liI_1
        have f44 := c_iadd j26 (1 : Int32)
        have f45 := rng32 (j26 + (1 : Int32))
        exact J38 (j26 + (1 : Int32)) (by unfold Mo; omega)
      ·
        refine Go.st (fun _ k => XS.icmpYes X0.here hx rfl (pc0 := 50) (pc' := 56) rfl (hb hby d3_50) rfl (feq (neI rfl rfl c42)).2 (by decide) (by decide) k) ?_
        show Go p e below s Q 0 0 (s₁.setTop (mkF m 56 #[.val (.int rk), .val (.int nn), .val (.int k0), .val (.int k1), .val (.int k2), .val (.int k3), .val (.int j26)] []))
        exact J38 j26 (by unfold Mo; omega)
    ·
      refine Go.st (fun _ k => XS.icmpYes X0.here hx rfl (pc0 := 44) (pc' := 56) rfl (hb hby d3_44) rfl (flt (nltI liI_3 rfl c41)).2.2.2 (by decide) (by decide) k) ?_
      show Go p e below s Q 0 0 (s₁.setTop (mkF m 56 #[.val (.int rk), .val (.int nn), .val (.int k0), .val (.int k1), .val (.int k2), .val (.int k3), .val (.int j26)] []))
      exact J38 j26 (by unfold Mo; omega)
  intro j37 f46
  have f47 := rng32 j37
  have gf46 := f46
  unfold Mo at gf46
  refine Go.st (fun _ k => XS.iload X0.here hx rfl (hb hby d3_56) rfl k) ?_
  show Go p e below s Q 0 0 (s₁.setTop (mkF m 58 #[.val (.int rk), .val (.int nn), .val (.int k0), .val (.int k1), .val (.int k2), .val (.int k3), .val (.int j37)] [(.int j37)]))
  exact Go.retI X0 hx hlk Bd.returns (hb hby d3_58) (by rw [← hQ, e0]; exact ⟨j37, rfl, N0, (by exact ⟨_, _, _, f14, f24, f35, f46⟩), (by omega), rfl⟩) (by decide) (by decide)
theorem d2_0 : decode method_5_code 0 = .ok (.aload_n 0, 1) := by decide +kernel
theorem d2_1 : decode method_5_code 1 = .ok (.ifnull 24, 3) := by decide +kernel
theorem d2_4 : decode method_5_code 4 = .ok (.aload_n 0, 1) := by decide +kernel
theorem d2_5 : decode method_5_code 5 = .ok (.arraylength, 1) := by decide +kernel
theorem d2_6 : decode method_5_code 6 = .ok (.iload_n 1, 1) := by decide +kernel
theorem d2_7 : decode method_5_code 7 = .ok (.iload_n 2, 1) := by decide +kernel
theorem d2_8 : decode method_5_code 8 = .ok (.iload_n 3, 1) := by decide +kernel
theorem d2_9 : decode method_5_code 9 = .ok (.iload 4, 2) := by decide +kernel
theorem d2_11 : decode method_5_code 11 = .ok (.iload 5, 2) := by decide +kernel
theorem d2_13 : decode method_5_code 13 = .ok (.iload 6, 2) := by decide +kernel
theorem pd_0 : parseMethodDescriptor "(IIIIII)I" = some ⟨[.int, .int, .int, .int, .int, .int], some .int⟩ := by decide +kernel
theorem d2_15 : decode method_5_code 15 = .ok (.invokestatic 28, 3) := by decide +kernel
theorem d2_18 : decode method_5_code 18 = .ok (.if_icmp .ne 7, 3) := by decide +kernel
theorem d2_21 : decode method_5_code 21 = .ok (.iconst 1, 1) := by decide +kernel
theorem d2_22 : decode method_5_code 22 = .ok (.goto 4, 3) := by decide +kernel
theorem d2_26 : decode method_5_code 26 = .ok (.ireturn, 1) := by decide +kernel
theorem d2_25 : decode method_5_code 25 = .ok (.iconst 0, 1) := by decide +kernel
theorem ef_rm2 (m : MethodId) (rw : Addr) (rk : Int32) (nn : Int32) (k0 : Int32) (k1 : Int32) (k2 : Int32) (k3 : Int32) : entryFrame m #[(.ref rw), (.int rk), (.int nn), (.int k0), (.int k1), (.int k2), (.int k3)] 7 = mkF m 0 #[.val (.ref rw), .val (.int rk), .val (.int nn), .val (.int k0), .val (.int k1), .val (.int k2), .val (.int k3)] [] := by first | (simp [entryFrame, mkF, argsToLocals, Value.category]; done) | rfl
def Q2 (Z : State) (rw : Addr) (rk : Int32) (nn : Int32) (k0 : Int32) (k1 : Int32) (k2 : Int32) (k3 : Int32) (ln : Int32) (gg : Nat → Int32) (h0 : Heap) (n0 : Nat) (vv : Option Value) (h : Heap) (LL : List Loc) : Prop := ∃ (rr : Int32) (cc : Int), vv = some (.int rr) ∧ Fr n0 LL ∧ (∃ a b c : Int, Mo (0 < nn.toInt ∧ k0.toInt = rk.toInt) 0 a ∧ Mo (1 < nn.toInt ∧ k1.toInt = rk.toInt) a b ∧ Mo (2 < nn.toInt ∧ k2.toInt = rk.toInt) b c ∧ Mo (3 < nn.toInt ∧ k3.toInt = rk.toInt) c cc) ∧ ((ln.toInt = cc ∧ rr.toInt = 1) ∨ (¬ ln.toInt = cc ∧ rr.toInt = 0)) ∧ h = h0
set_option maxRecDepth 65536 in
set_option maxHeartbeats 40000000 in
theorem rm2 (l : Launch) (Z : State) (a0 : Array Value) (hw : ∀ d ∈ tables_1, d.before a0 Z = true) (ws : List Jvm.Cond) (rw : Addr) (rk : Int32) (nn : Int32) (k0 : Int32) (k1 : Int32) (k2 : Int32) (k3 : Int32) (ln : Int32) (gg : Nat → Int32) (h0 : Heap) (n0 : Nat) (Z0 : n0 ≤ h0.size) (hV : Vec Z h0 rw .int ln (ints gg)) (hn : 0 ≤ nn.toInt ∧ nn.toInt ≤ 4) :
    MetFree l (⟨"com/example/rackwise/rackwise/RackCostsClientsOfRacksPinLaw", "rowOk", "([IIIIIII)Z"⟩ : MethodName) (head1 (Jvm.Cond.code (⟨"com/example/rackwise/rackwise/RackCostsClientsOfRacksPinLaw", "rowOk", "([IIIIIII)Z"⟩ : MethodName) method_5_code 7 (some .boolean) :: ws) ({ frames := 1, cells := 0, slots := 0, locals := 19 } : Room)) (fun aa UU => aa = #[(.ref rw), (.int rk), (.int nn), (.int k0), (.int k1), (.int k2), (.int k3)] ∧ Z.Warmed39 UU.vm ∧ UU.heap = h0) (fun _ _ _ _ _ => True) (fun _ UU oo UU' => ∃ vv LL, oo = .returned vv ∧ Q2 Z rw rk nn k0 k1 k2 k3 ln gg h0 n0 vv UU'.heap LL ∧ FrameEnd UU oo UU' LL 0 0) := by
  refine MetFree.of_bodySF (plainFor_of_name pn_1) hisR ?_
  intro p e s m args below meth c s₁ Bd hml0 hP hK
  obtain ⟨rfl, hZ, hh⟩ := hP
  have hx := Bd.exec
  have hby := Bd.bytes
  have hlk : meth.locks = false := BodyLoose.notSynchronized Bd
  have hml : c.maxLocals = 7 := hml0
  have hown : s.vm.findClass "com/example/rackwise/rackwise/RackCostsClientsOfRacksPinLaw" = some m.cls := findClass_of_methodNamed Bd.named
  have hnm := (name_of_methodNamed Bd.named Bd.method).1
  have X0 : Stand p l e ({ frames := 1, cells := 0, slots := 0, locals := 19 } : Room) s m #[(.ref rw), (.int rk), (.int nn), (.int k0), (.int k1), (.int k2), (.int k3)] below meth c s₁ [] 0 0 := Stand.of_body Bd
  have e0 : s₁.heap = h0 := by rw [← hh, Bd.state]; rfl
  have N0 := Fr.nil n0
  have K0 : Keep h0 h0 [] := Keep.refl h0 _
  refine (?_ : Go p e below s (Q2 Z rw rk nn k0 k1 k2 k3 ln gg h0 n0) 0 0 (s₁.setTop (entryFrame m #[(.ref rw), (.int rk), (.int nn), (.int k0), (.int k1), (.int k2), (.int k3)] 7)))
  rw [ef_rm2]
  generalize hQ : Q2 Z rw rk nn k0 k1 k2 k3 ln gg h0 n0 = Q
  show Go p e below s Q 0 0 (s₁.setTop (mkF m 0 #[.val (.ref rw), .val (.int rk), .val (.int nn), .val (.int k0), .val (.int k1), .val (.int k2), .val (.int k3)] []))
  have f1 := rng32 rk
  have f2 := rng32 nn
  have f3 := rng32 k0
  have f4 := rng32 k1
  have f5 := rng32 k2
  have f6 := rng32 k3
  refine Go.st (fun _ k => XS.aloadN X0.here hx rfl (hb hby d2_0) rfl rfl k) ?_
  refine Go.st (fun _ k => XS.ifnullNo X0.here hx rfl (hb hby d2_1) rfl k) ?_
  refine Go.st (fun _ k => XS.aloadN X0.here hx rfl (hb hby d2_4) rfl rfl k) ?_
  refine Go.st (Vec.len X0 hx hZ e0 hV (g := (mkF m 5 #[.val (.ref rw), .val (.int rk), .val (.int nn), .val (.int k0), .val (.int k1), .val (.int k2), .val (.int k3)] [(.ref rw)])) rfl rfl (hb hby d2_5)) ?_
  show Go p e below s Q 0 0 (s₁.setTop (mkF m 6 #[.val (.ref rw), .val (.int rk), .val (.int nn), .val (.int k0), .val (.int k1), .val (.int k2), .val (.int k3)] [(.int ln)]))
  refine Go.st (fun _ k => XS.iloadN X0.here hx rfl (hb hby d2_6) rfl k) ?_
  refine Go.st (fun _ k => XS.iloadN X0.here hx rfl (hb hby d2_7) rfl k) ?_
  refine Go.st (fun _ k => XS.iloadN X0.here hx rfl (hb hby d2_8) rfl k) ?_
  refine Go.st (fun _ k => XS.iload X0.here hx rfl (hb hby d2_9) rfl k) ?_
  refine Go.st (fun _ k => XS.iload X0.here hx rfl (hb hby d2_11) rfl k) ?_
  refine Go.st (fun _ k => XS.iload X0.here hx rfl (hb hby d2_13) rfl k) ?_
  show Go p e below s Q 0 0 (s₁.setTop (mkF m 15 #[.val (.ref rw), .val (.int rk), .val (.int nn), .val (.int k0), .val (.int k1), .val (.int k2), .val (.int k3)] [(.int k3), (.int k2), (.int k1), (.int k0), (.int nn), (.int rk), (.int ln)]))
  have p9 : 0 ≤ nn.toInt ∧ nn.toInt ≤ 4 := by omega
  obtain ⟨_, _, ⟨T8, L8, k8, n8⟩, -, X8, ⟨Lc8, hQ8, l8, y8, z8⟩, st8⟩ := Jvm.LawKit.callS X0 hx (y := (⟨"com/example/rackwise/rackwise/RackCostsClientsOfRacksPinLaw", "count", "(IIIIII)I"⟩ : MethodName)) hown (mvT hZ (hw _ (List.mem_of_getElem? (i := 13) rfl))) (mvT hZ (hw _ (List.mem_of_getElem? (i := 14) rfl))) (mvT hZ (hw _ (List.mem_of_getElem? (i := 11) rfl))) (mvT hZ (hw _ (List.mem_of_getElem? (i := 15) rfl))) (by decide) (backOf (W := 1) (rm3 l Z a0 hw [] rk nn k0 k1 k2 k3 h0 n0 (Nat.le_trans Z0 K0.1) p9) hZ (hw _ (List.mem_of_getElem? (i := 15) rfl)) (hw _ (List.mem_of_getElem? (i := 11) rfl)) (by decide) (by decide)) (g := (mkF m 15 #[.val (.ref rw), .val (.int rk), .val (.int nn), .val (.int k0), .val (.int k1), .val (.int k2), .val (.int k3)] [(.int k3), (.int k2), (.int k1), (.int k0), (.int nn), (.int rk), (.int ln)])) rfl (by rw [hml]; rfl) (argsL := [(.int rk), (.int nn), (.int k0), (.int k1), (.int k2), (.int k3)]) (rest := [(.int ln)]) (lenOf pd_0 rfl) rfl (by show 2 * 0 + _ ≤ _; exact Nat.le_of_eq rfl) (hb hby d2_15) (fun _ _ => ⟨rfl, e0, (by decide : 0 + 0 ≤ _), (by decide : 0 + 0 ≤ _)⟩)
  dsimp only [Pt.U, Pt.locs, Pt.cells, Pt.slots] at X8 l8 y8 z8 st8 hQ8
  subst l8 y8 z8
  obtain ⟨rr_10, rfl, N8q, f11, f12, e8⟩ := hQ8
  have N8 := Fr.app N0 N8q
  refine Go.st st8 ?_
  show Go p e below s Q 0 0 (T8.setTop (mkF m 18 #[.val (.ref rw), .val (.int rk), .val (.int nn), .val (.int k0), .val (.int k1), .val (.int k2), .val (.int k3)] [(.int rr_10), (.int ln)]))
  have f13 := rng32 rr_10
  have f14 := rng32 ln
  by_cases c15 : ln.toInt = rr_10.toInt
  ·
    refine Go.st (fun _ k => XS.icmpNo X8.here hx rfl (hb hby d2_18) rfl (teq (eqI rfl rfl c15)).2 k) ?_
    refine Go.st (fun _ k => XS.iconst X8.here hx rfl (hb hby d2_21) k) ?_
    refine Go.st (fun _ k => XS.goto X8.here hx rfl (pc0 := 22) (pc' := 26) rfl (hb hby d2_22) (by decide) (by decide) k) ?_
    show Go p e below s Q 0 0 (T8.setTop (mkF m 26 #[.val (.ref rw), .val (.int rk), .val (.int nn), .val (.int k0), .val (.int k1), .val (.int k2), .val (.int k3)] [(.int (1 : Int32))]))
    have f16 := liI_1
    exact Go.retN X8 hx hlk (by simp) Bd.returns (hb hby d2_26) (z' := (1 : Int32)) (by decide) (by rw [← hQ, e8]; exact ⟨(1 : Int32), rr_10.toInt, rfl, N8, (by exact f11), (by omega), rfl⟩) (by decide) (by decide)
  ·
    refine Go.st (fun _ k => XS.icmpYes X8.here hx rfl (pc0 := 18) (pc' := 25) rfl (hb hby d2_18) rfl (feq (neI rfl rfl c15)).2 (by decide) (by decide) k) ?_
    refine Go.st (fun _ k => XS.iconst X8.here hx rfl (hb hby d2_25) k) ?_
    show Go p e below s Q 0 0 (T8.setTop (mkF m 26 #[.val (.ref rw), .val (.int rk), .val (.int nn), .val (.int k0), .val (.int k1), .val (.int k2), .val (.int k3)] [(.int (0 : Int32))]))
    have f17 := liI_0
    exact Go.retN X8 hx hlk (by simp) Bd.returns (hb hby d2_26) (z' := (0 : Int32)) (by decide) (by rw [← hQ, e8]; exact ⟨(0 : Int32), rr_10.toInt, rfl, N8, (by exact f11), (by omega), rfl⟩) (by decide) (by decide)
theorem d4_0 : decode method_6_code 0 = .ok (.aload_n 0, 1) := by decide +kernel
theorem d4_1 : decode method_6_code 1 = .ok (.iload_n 2, 1) := by decide +kernel
theorem d4_2 : decode method_6_code 2 = .ok (.aaload, 1) := by decide +kernel
theorem d4_3 : decode method_6_code 3 = .ok (.astore 4, 2) := by decide +kernel
theorem d4_5 : decode method_6_code 5 = .ok (.iload_n 3, 1) := by decide +kernel
theorem d4_6 : decode method_6_code 6 = .ok (.aload 4, 2) := by decide +kernel
theorem d4_8 : decode method_6_code 8 = .ok (.arraylength, 1) := by decide +kernel
theorem d4_9 : decode method_6_code 9 = .ok (.if_icmp .ge 15, 3) := by decide +kernel
theorem d4_12 : decode method_6_code 12 = .ok (.aload 4, 2) := by decide +kernel
theorem d4_14 : decode method_6_code 14 = .ok (.iload_n 3, 1) := by decide +kernel
theorem d4_15 : decode method_6_code 15 = .ok (.iaload, 1) := by decide +kernel
theorem d4_16 : decode method_6_code 16 = .ok (.iload_n 1, 1) := by decide +kernel
theorem d4_17 : decode method_6_code 17 = .ok (.if_icmp .ne 7, 3) := by decide +kernel
theorem d4_20 : decode method_6_code 20 = .ok (.iconst 1, 1) := by decide +kernel
theorem d4_21 : decode method_6_code 21 = .ok (.goto 4, 3) := by decide +kernel
theorem d4_25 : decode method_6_code 25 = .ok (.ireturn, 1) := by decide +kernel
theorem d4_24 : decode method_6_code 24 = .ok (.iconst 0, 1) := by decide +kernel
theorem ef_rmp1 (m : MethodId) (res : Addr) (ci : Int32) (rk : Int32) (ra : Int32) : entryFrame m #[(.ref res), (.int ci), (.int rk), (.int ra)] 5 = mkF m 0 #[.val (.ref res), .val (.int ci), .val (.int rk), .val (.int ra), .unset] [] := by first | (simp [entryFrame, mkF, argsToLocals, Value.category]; done) | rfl
def Qp1 (Z : State) (res : Addr) (ci : Int32) (rk : Int32) (ra : Int32) (w0 : Addr) (l0 : Int32) (g0 : Nat → Int32) (h0 : Heap) (n0 : Nat) (vv : Option Value) (h : Heap) (LL : List Loc) : Prop := ∃ (rr : Int32), vv = some (.int rr) ∧ Fr n0 LL ∧ (rk.toInt = 0 → ra.toInt < l0.toInt → (g0 ra.toInt.toNat).toInt = ci.toInt → rr.toInt = 1) ∧ h = h0
set_option maxRecDepth 65536 in
set_option maxHeartbeats 40000000 in
theorem rmp1 (l : Launch) (Z : State) (a0 : Array Value) (hw : ∀ d ∈ tables_1, d.before a0 Z = true) (ws : List Jvm.Cond) (res : Addr) (ci : Int32) (rk : Int32) (ra : Int32) (w0 : Addr) (l0 : Int32) (g0 : Nat → Int32) (h0 : Heap) (n0 : Nat) (Z0 : n0 ≤ h0.size) (hR : RV Z h0 res (1 : Int32) [(.ref w0)]) (hV0 : Vec Z h0 w0 .int l0 (ints g0)) (hbd : 0 ≤ rk.toInt ∧ rk.toInt < 1 ∧ 0 ≤ ra.toInt) :
    MetFree l (⟨"com/example/rackwise/rackwise/RackCostsClientsOfRacksPinLaw", "placed", "([[IIII)Z"⟩ : MethodName) (head1 (Jvm.Cond.code (⟨"com/example/rackwise/rackwise/RackCostsClientsOfRacksPinLaw", "placed", "([[IIII)Z"⟩ : MethodName) method_6_code 5 (some .boolean) :: ws) ({ frames := 0, cells := 0, slots := 0, locals := 0 } : Room)) (fun aa UU => aa = #[(.ref res), (.int ci), (.int rk), (.int ra)] ∧ Z.Warmed39 UU.vm ∧ UU.heap = h0) (fun _ _ _ _ _ => True) (fun _ UU oo UU' => ∃ vv LL, oo = .returned vv ∧ Qp1 Z res ci rk ra w0 l0 g0 h0 n0 vv UU'.heap LL ∧ FrameEnd UU oo UU' LL 0 0) := by
  refine MetFree.of_bodySF (plainFor_of_name pn_1) hisR ?_
  intro p e s m args below meth c s₁ Bd hml0 hP hK
  obtain ⟨rfl, hZ, hh⟩ := hP
  have hx := Bd.exec
  have hby := Bd.bytes
  have hlk : meth.locks = false := BodyLoose.notSynchronized Bd
  have hml : c.maxLocals = 5 := hml0
  have hown : s.vm.findClass "com/example/rackwise/rackwise/RackCostsClientsOfRacksPinLaw" = some m.cls := findClass_of_methodNamed Bd.named
  have hnm := (name_of_methodNamed Bd.named Bd.method).1
  have X0 : Stand p l e ({ frames := 0, cells := 0, slots := 0, locals := 0 } : Room) s m #[(.ref res), (.int ci), (.int rk), (.int ra)] below meth c s₁ [] 0 0 := Stand.of_body Bd
  have e0 : s₁.heap = h0 := by rw [← hh, Bd.state]; rfl
  have N0 := Fr.nil n0
  have K0 : Keep h0 h0 [] := Keep.refl h0 _
  refine (?_ : Go p e below s (Qp1 Z res ci rk ra w0 l0 g0 h0 n0) 0 0 (s₁.setTop (entryFrame m #[(.ref res), (.int ci), (.int rk), (.int ra)] 5)))
  rw [ef_rmp1]
  generalize hQ : Qp1 Z res ci rk ra w0 l0 g0 h0 n0 = Q
  show Go p e below s Q 0 0 (s₁.setTop (mkF m 0 #[.val (.ref res), .val (.int ci), .val (.int rk), .val (.int ra), .unset] []))
  have f1 := rng32 ci
  have f2 := rng32 rk
  have f3 := rng32 ra
  have cs4 : rk.toInt = 0 := by omega
  ·
    have cs4' : rk = (0 : Int32) := eqI cs4 liI_0 rfl
    subst cs4'
    have f5 := liI_0
    show Go p e below s Q 0 0 (s₁.setTop (mkF m 0 #[.val (.ref res), .val (.int ci), .val (.int (0 : Int32)), .val (.int ra), .unset] []))
    refine Go.st (fun _ k => XS.aloadN X0.here hx rfl (hb hby d4_0) rfl rfl k) ?_
    refine Go.st (fun _ k => XS.iloadN X0.here hx rfl (hb hby d4_1) rfl k) ?_
    refine Go.st (RV.ild X0 hx hZ e0 hR (j := (0 : Int32)) (by decide) (by decide) (g := (mkF m 2 #[.val (.ref res), .val (.int ci), .val (.int (0 : Int32)), .val (.int ra), .unset] [(.int (0 : Int32)), (.ref res)])) rfl rfl (hb hby d4_2)) ?_
    show Go p e below s Q 0 0 (s₁.setTop (mkF m 3 #[.val (.ref res), .val (.int ci), .val (.int (0 : Int32)), .val (.int ra), .unset] [(.ref w0)]))
    refine Go.st (fun _ k => XS.astore X0.here hx rfl (hb hby d4_3) rfl rfl (l' := #[.val (.ref res), .val (.int ci), .val (.int (0 : Int32)), .val (.int ra), .val (.ref w0)]) rfl k) ?_
    refine Go.st (fun _ k => XS.iloadN X0.here hx rfl (hb hby d4_5) rfl k) ?_
    refine Go.st (fun _ k => XS.aload X0.here hx rfl (hb hby d4_6) rfl rfl k) ?_
    refine Go.st (Vec.len X0 hx hZ e0 hV0 (g := (mkF m 8 #[.val (.ref res), .val (.int ci), .val (.int (0 : Int32)), .val (.int ra), .val (.ref w0)] [(.ref w0), (.int ra)])) rfl rfl (hb hby d4_8)) ?_
    show Go p e below s Q 0 0 (s₁.setTop (mkF m 9 #[.val (.ref res), .val (.int ci), .val (.int (0 : Int32)), .val (.int ra), .val (.ref w0)] [(.int l0), (.int ra)]))
    have f8 := rng32 l0
    by_cases c9 : ra.toInt < l0.toInt
    ·
      refine Go.st (fun _ k => XS.icmpNo X0.here hx rfl (hb hby d4_9) rfl (tlt (ltI rfl rfl c9)).2.1 k) ?_
      refine Go.st (fun _ k => XS.aload X0.here hx rfl (hb hby d4_12) rfl rfl k) ?_
      refine Go.st (fun _ k => XS.iloadN X0.here hx rfl (hb hby d4_14) rfl k) ?_
      have r11 : 0 ≤ ra.toInt := by omega
      have r12 : ra.toInt < l0.toInt := by omega
      refine Go.st (Vec.ildI X0 hx hZ e0 hV0 (j := ra) r11 r12 (g := (mkF m 15 #[.val (.ref res), .val (.int ci), .val (.int (0 : Int32)), .val (.int ra), .val (.ref w0)] [(.int ra), (.ref w0)])) rfl rfl (hb hby d4_15)) ?_
      show Go p e below s Q 0 0 (s₁.setTop (mkF m 16 #[.val (.ref res), .val (.int ci), .val (.int (0 : Int32)), .val (.int ra), .val (.ref w0)] [(.int (g0 ra.toInt.toNat))]))
      refine Go.st (fun _ k => XS.iloadN X0.here hx rfl (hb hby d4_16) rfl k) ?_
      have f13 := rng32 (g0 ra.toInt.toNat)
      by_cases c14 : (g0 ra.toInt.toNat).toInt = ci.toInt
      ·
        refine Go.st (fun _ k => XS.icmpNo X0.here hx rfl (hb hby d4_17) rfl (teq (eqI rfl rfl c14)).2 k) ?_
        refine Go.st (fun _ k => XS.iconst X0.here hx rfl (hb hby d4_20) k) ?_
        refine Go.st (fun _ k => XS.goto X0.here hx rfl (pc0 := 21) (pc' := 25) rfl (hb hby d4_21) (by decide) (by decide) k) ?_
        show Go p e below s Q 0 0 (s₁.setTop (mkF m 25 #[.val (.ref res), .val (.int ci), .val (.int (0 : Int32)), .val (.int ra), .val (.ref w0)] [(.int (1 : Int32))]))
        have f15 := liI_1
        exact Go.retN X0 hx hlk (by simp) Bd.returns (hb hby d4_25) (z' := (1 : Int32)) (by decide) (by rw [← hQ, e0]; exact ⟨(1 : Int32), rfl, N0, (by omega), rfl⟩) (by decide) (by decide)
      ·
        refine Go.st (fun _ k => XS.icmpYes X0.here hx rfl (pc0 := 17) (pc' := 24) rfl (hb hby d4_17) rfl (feq (neI rfl rfl c14)).2 (by decide) (by decide) k) ?_
        refine Go.st (fun _ k => XS.iconst X0.here hx rfl (hb hby d4_24) k) ?_
        show Go p e below s Q 0 0 (s₁.setTop (mkF m 25 #[.val (.ref res), .val (.int ci), .val (.int (0 : Int32)), .val (.int ra), .val (.ref w0)] [(.int (0 : Int32))]))
        exact Go.retN X0 hx hlk (by simp) Bd.returns (hb hby d4_25) (z' := (0 : Int32)) (by decide) (by rw [← hQ, e0]; exact ⟨(0 : Int32), rfl, N0, (by omega), rfl⟩) (by decide) (by decide)
    ·
      refine Go.st (fun _ k => XS.icmpYes X0.here hx rfl (pc0 := 9) (pc' := 24) rfl (hb hby d4_9) rfl (flt (nltI rfl rfl c9)).2.1 (by decide) (by decide) k) ?_
      refine Go.st (fun _ k => XS.iconst X0.here hx rfl (hb hby d4_24) k) ?_
      show Go p e below s Q 0 0 (s₁.setTop (mkF m 25 #[.val (.ref res), .val (.int ci), .val (.int (0 : Int32)), .val (.int ra), .val (.ref w0)] [(.int (0 : Int32))]))
      exact Go.retN X0 hx hlk (by simp) Bd.returns (hb hby d4_25) (z' := (0 : Int32)) (by decide) (by rw [← hQ, e0]; exact ⟨(0 : Int32), rfl, N0, (by omega), rfl⟩) (by decide) (by decide)
theorem ef_rmp2 (m : MethodId) (res : Addr) (ci : Int32) (rk : Int32) (ra : Int32) : entryFrame m #[(.ref res), (.int ci), (.int rk), (.int ra)] 5 = mkF m 0 #[.val (.ref res), .val (.int ci), .val (.int rk), .val (.int ra), .unset] [] := by first | (simp [entryFrame, mkF, argsToLocals, Value.category]; done) | rfl
def Qp2 (Z : State) (res : Addr) (ci : Int32) (rk : Int32) (ra : Int32) (w0 : Addr) (l0 : Int32) (g0 : Nat → Int32) (w1 : Addr) (l1 : Int32) (g1 : Nat → Int32) (h0 : Heap) (n0 : Nat) (vv : Option Value) (h : Heap) (LL : List Loc) : Prop := ∃ (rr : Int32), vv = some (.int rr) ∧ Fr n0 LL ∧ (rk.toInt = 0 → ra.toInt < l0.toInt → (g0 ra.toInt.toNat).toInt = ci.toInt → rr.toInt = 1) ∧ (rk.toInt = 1 → ra.toInt < l1.toInt → (g1 ra.toInt.toNat).toInt = ci.toInt → rr.toInt = 1) ∧ h = h0
set_option maxRecDepth 65536 in
set_option maxHeartbeats 40000000 in
theorem rmp2 (l : Launch) (Z : State) (a0 : Array Value) (hw : ∀ d ∈ tables_1, d.before a0 Z = true) (ws : List Jvm.Cond) (res : Addr) (ci : Int32) (rk : Int32) (ra : Int32) (w0 : Addr) (l0 : Int32) (g0 : Nat → Int32) (w1 : Addr) (l1 : Int32) (g1 : Nat → Int32) (h0 : Heap) (n0 : Nat) (Z0 : n0 ≤ h0.size) (hR : RV Z h0 res (2 : Int32) [(.ref w0), (.ref w1)]) (hV0 : Vec Z h0 w0 .int l0 (ints g0)) (hV1 : Vec Z h0 w1 .int l1 (ints g1)) (hbd : 0 ≤ rk.toInt ∧ rk.toInt < 2 ∧ 0 ≤ ra.toInt) :
    MetFree l (⟨"com/example/rackwise/rackwise/RackCostsClientsOfRacksPinLaw", "placed", "([[IIII)Z"⟩ : MethodName) (head1 (Jvm.Cond.code (⟨"com/example/rackwise/rackwise/RackCostsClientsOfRacksPinLaw", "placed", "([[IIII)Z"⟩ : MethodName) method_6_code 5 (some .boolean) :: ws) ({ frames := 0, cells := 0, slots := 0, locals := 0 } : Room)) (fun aa UU => aa = #[(.ref res), (.int ci), (.int rk), (.int ra)] ∧ Z.Warmed39 UU.vm ∧ UU.heap = h0) (fun _ _ _ _ _ => True) (fun _ UU oo UU' => ∃ vv LL, oo = .returned vv ∧ Qp2 Z res ci rk ra w0 l0 g0 w1 l1 g1 h0 n0 vv UU'.heap LL ∧ FrameEnd UU oo UU' LL 0 0) := by
  refine MetFree.of_bodySF (plainFor_of_name pn_1) hisR ?_
  intro p e s m args below meth c s₁ Bd hml0 hP hK
  obtain ⟨rfl, hZ, hh⟩ := hP
  have hx := Bd.exec
  have hby := Bd.bytes
  have hlk : meth.locks = false := BodyLoose.notSynchronized Bd
  have hml : c.maxLocals = 5 := hml0
  have hown : s.vm.findClass "com/example/rackwise/rackwise/RackCostsClientsOfRacksPinLaw" = some m.cls := findClass_of_methodNamed Bd.named
  have hnm := (name_of_methodNamed Bd.named Bd.method).1
  have X0 : Stand p l e ({ frames := 0, cells := 0, slots := 0, locals := 0 } : Room) s m #[(.ref res), (.int ci), (.int rk), (.int ra)] below meth c s₁ [] 0 0 := Stand.of_body Bd
  have e0 : s₁.heap = h0 := by rw [← hh, Bd.state]; rfl
  have N0 := Fr.nil n0
  have K0 : Keep h0 h0 [] := Keep.refl h0 _
  refine (?_ : Go p e below s (Qp2 Z res ci rk ra w0 l0 g0 w1 l1 g1 h0 n0) 0 0 (s₁.setTop (entryFrame m #[(.ref res), (.int ci), (.int rk), (.int ra)] 5)))
  rw [ef_rmp2]
  generalize hQ : Qp2 Z res ci rk ra w0 l0 g0 w1 l1 g1 h0 n0 = Q
  show Go p e below s Q 0 0 (s₁.setTop (mkF m 0 #[.val (.ref res), .val (.int ci), .val (.int rk), .val (.int ra), .unset] []))
  have f1 := rng32 ci
  have f2 := rng32 rk
  have f3 := rng32 ra
  have cs4 : rk.toInt = 0 ∨ rk.toInt = 1 := by omega
  rcases cs4 with cs5 | cs6
  ·
    have cs5' : rk = (0 : Int32) := eqI cs5 liI_0 rfl
    subst cs5'
    have f7 := liI_0
    show Go p e below s Q 0 0 (s₁.setTop (mkF m 0 #[.val (.ref res), .val (.int ci), .val (.int (0 : Int32)), .val (.int ra), .unset] []))
    refine Go.st (fun _ k => XS.aloadN X0.here hx rfl (hb hby d4_0) rfl rfl k) ?_
    refine Go.st (fun _ k => XS.iloadN X0.here hx rfl (hb hby d4_1) rfl k) ?_
    refine Go.st (RV.ild X0 hx hZ e0 hR (j := (0 : Int32)) (by decide) (by decide) (g := (mkF m 2 #[.val (.ref res), .val (.int ci), .val (.int (0 : Int32)), .val (.int ra), .unset] [(.int (0 : Int32)), (.ref res)])) rfl rfl (hb hby d4_2)) ?_
    show Go p e below s Q 0 0 (s₁.setTop (mkF m 3 #[.val (.ref res), .val (.int ci), .val (.int (0 : Int32)), .val (.int ra), .unset] [(.ref w0)]))
    refine Go.st (fun _ k => XS.astore X0.here hx rfl (hb hby d4_3) rfl rfl (l' := #[.val (.ref res), .val (.int ci), .val (.int (0 : Int32)), .val (.int ra), .val (.ref w0)]) rfl k) ?_
    refine Go.st (fun _ k => XS.iloadN X0.here hx rfl (hb hby d4_5) rfl k) ?_
    refine Go.st (fun _ k => XS.aload X0.here hx rfl (hb hby d4_6) rfl rfl k) ?_
    refine Go.st (Vec.len X0 hx hZ e0 hV0 (g := (mkF m 8 #[.val (.ref res), .val (.int ci), .val (.int (0 : Int32)), .val (.int ra), .val (.ref w0)] [(.ref w0), (.int ra)])) rfl rfl (hb hby d4_8)) ?_
    show Go p e below s Q 0 0 (s₁.setTop (mkF m 9 #[.val (.ref res), .val (.int ci), .val (.int (0 : Int32)), .val (.int ra), .val (.ref w0)] [(.int l0), (.int ra)]))
    have f10 := rng32 l0
    by_cases c11 : ra.toInt < l0.toInt
    ·
      refine Go.st (fun _ k => XS.icmpNo X0.here hx rfl (hb hby d4_9) rfl (tlt (ltI rfl rfl c11)).2.1 k) ?_
      refine Go.st (fun _ k => XS.aload X0.here hx rfl (hb hby d4_12) rfl rfl k) ?_
      refine Go.st (fun _ k => XS.iloadN X0.here hx rfl (hb hby d4_14) rfl k) ?_
      have r13 : 0 ≤ ra.toInt := by omega
      have r14 : ra.toInt < l0.toInt := by omega
      refine Go.st (Vec.ildI X0 hx hZ e0 hV0 (j := ra) r13 r14 (g := (mkF m 15 #[.val (.ref res), .val (.int ci), .val (.int (0 : Int32)), .val (.int ra), .val (.ref w0)] [(.int ra), (.ref w0)])) rfl rfl (hb hby d4_15)) ?_
      show Go p e below s Q 0 0 (s₁.setTop (mkF m 16 #[.val (.ref res), .val (.int ci), .val (.int (0 : Int32)), .val (.int ra), .val (.ref w0)] [(.int (g0 ra.toInt.toNat))]))
      refine Go.st (fun _ k => XS.iloadN X0.here hx rfl (hb hby d4_16) rfl k) ?_
      have f15 := rng32 (g0 ra.toInt.toNat)
      by_cases c16 : (g0 ra.toInt.toNat).toInt = ci.toInt
      ·
        refine Go.st (fun _ k => XS.icmpNo X0.here hx rfl (hb hby d4_17) rfl (teq (eqI rfl rfl c16)).2 k) ?_
        refine Go.st (fun _ k => XS.iconst X0.here hx rfl (hb hby d4_20) k) ?_
        refine Go.st (fun _ k => XS.goto X0.here hx rfl (pc0 := 21) (pc' := 25) rfl (hb hby d4_21) (by decide) (by decide) k) ?_
        show Go p e below s Q 0 0 (s₁.setTop (mkF m 25 #[.val (.ref res), .val (.int ci), .val (.int (0 : Int32)), .val (.int ra), .val (.ref w0)] [(.int (1 : Int32))]))
        have f17 := liI_1
        exact Go.retN X0 hx hlk (by simp) Bd.returns (hb hby d4_25) (z' := (1 : Int32)) (by decide) (by rw [← hQ, e0]; exact ⟨(1 : Int32), rfl, N0, (by omega), (by omega), rfl⟩) (by decide) (by decide)
      ·
        refine Go.st (fun _ k => XS.icmpYes X0.here hx rfl (pc0 := 17) (pc' := 24) rfl (hb hby d4_17) rfl (feq (neI rfl rfl c16)).2 (by decide) (by decide) k) ?_
        refine Go.st (fun _ k => XS.iconst X0.here hx rfl (hb hby d4_24) k) ?_
        show Go p e below s Q 0 0 (s₁.setTop (mkF m 25 #[.val (.ref res), .val (.int ci), .val (.int (0 : Int32)), .val (.int ra), .val (.ref w0)] [(.int (0 : Int32))]))
        exact Go.retN X0 hx hlk (by simp) Bd.returns (hb hby d4_25) (z' := (0 : Int32)) (by decide) (by rw [← hQ, e0]; exact ⟨(0 : Int32), rfl, N0, (by omega), (by omega), rfl⟩) (by decide) (by decide)
    ·
      refine Go.st (fun _ k => XS.icmpYes X0.here hx rfl (pc0 := 9) (pc' := 24) rfl (hb hby d4_9) rfl (flt (nltI rfl rfl c11)).2.1 (by decide) (by decide) k) ?_
      refine Go.st (fun _ k => XS.iconst X0.here hx rfl (hb hby d4_24) k) ?_
      show Go p e below s Q 0 0 (s₁.setTop (mkF m 25 #[.val (.ref res), .val (.int ci), .val (.int (0 : Int32)), .val (.int ra), .val (.ref w0)] [(.int (0 : Int32))]))
      exact Go.retN X0 hx hlk (by simp) Bd.returns (hb hby d4_25) (z' := (0 : Int32)) (by decide) (by rw [← hQ, e0]; exact ⟨(0 : Int32), rfl, N0, (by omega), (by omega), rfl⟩) (by decide) (by decide)
  ·
    have cs6' : rk = (1 : Int32) := eqI cs6 liI_1 rfl
    subst cs6'
    have f18 := liI_1
    show Go p e below s Q 0 0 (s₁.setTop (mkF m 0 #[.val (.ref res), .val (.int ci), .val (.int (1 : Int32)), .val (.int ra), .unset] []))
    refine Go.st (fun _ k => XS.aloadN X0.here hx rfl (hb hby d4_0) rfl rfl k) ?_
    refine Go.st (fun _ k => XS.iloadN X0.here hx rfl (hb hby d4_1) rfl k) ?_
    refine Go.st (RV.ild X0 hx hZ e0 hR (j := (1 : Int32)) (by decide) (by decide) (g := (mkF m 2 #[.val (.ref res), .val (.int ci), .val (.int (1 : Int32)), .val (.int ra), .unset] [(.int (1 : Int32)), (.ref res)])) rfl rfl (hb hby d4_2)) ?_
    show Go p e below s Q 0 0 (s₁.setTop (mkF m 3 #[.val (.ref res), .val (.int ci), .val (.int (1 : Int32)), .val (.int ra), .unset] [(.ref w1)]))
    refine Go.st (fun _ k => XS.astore X0.here hx rfl (hb hby d4_3) rfl rfl (l' := #[.val (.ref res), .val (.int ci), .val (.int (1 : Int32)), .val (.int ra), .val (.ref w1)]) rfl k) ?_
    refine Go.st (fun _ k => XS.iloadN X0.here hx rfl (hb hby d4_5) rfl k) ?_
    refine Go.st (fun _ k => XS.aload X0.here hx rfl (hb hby d4_6) rfl rfl k) ?_
    refine Go.st (Vec.len X0 hx hZ e0 hV1 (g := (mkF m 8 #[.val (.ref res), .val (.int ci), .val (.int (1 : Int32)), .val (.int ra), .val (.ref w1)] [(.ref w1), (.int ra)])) rfl rfl (hb hby d4_8)) ?_
    show Go p e below s Q 0 0 (s₁.setTop (mkF m 9 #[.val (.ref res), .val (.int ci), .val (.int (1 : Int32)), .val (.int ra), .val (.ref w1)] [(.int l1), (.int ra)]))
    have f21 := rng32 l1
    by_cases c22 : ra.toInt < l1.toInt
    ·
      refine Go.st (fun _ k => XS.icmpNo X0.here hx rfl (hb hby d4_9) rfl (tlt (ltI rfl rfl c22)).2.1 k) ?_
      refine Go.st (fun _ k => XS.aload X0.here hx rfl (hb hby d4_12) rfl rfl k) ?_
      refine Go.st (fun _ k => XS.iloadN X0.here hx rfl (hb hby d4_14) rfl k) ?_
      have r24 : 0 ≤ ra.toInt := by omega
      have r25 : ra.toInt < l1.toInt := by omega
      refine Go.st (Vec.ildI X0 hx hZ e0 hV1 (j := ra) r24 r25 (g := (mkF m 15 #[.val (.ref res), .val (.int ci), .val (.int (1 : Int32)), .val (.int ra), .val (.ref w1)] [(.int ra), (.ref w1)])) rfl rfl (hb hby d4_15)) ?_
      show Go p e below s Q 0 0 (s₁.setTop (mkF m 16 #[.val (.ref res), .val (.int ci), .val (.int (1 : Int32)), .val (.int ra), .val (.ref w1)] [(.int (g1 ra.toInt.toNat))]))
      refine Go.st (fun _ k => XS.iloadN X0.here hx rfl (hb hby d4_16) rfl k) ?_
      have f26 := rng32 (g1 ra.toInt.toNat)
      by_cases c27 : (g1 ra.toInt.toNat).toInt = ci.toInt
      ·
        refine Go.st (fun _ k => XS.icmpNo X0.here hx rfl (hb hby d4_17) rfl (teq (eqI rfl rfl c27)).2 k) ?_
        refine Go.st (fun _ k => XS.iconst X0.here hx rfl (hb hby d4_20) k) ?_
        refine Go.st (fun _ k => XS.goto X0.here hx rfl (pc0 := 21) (pc' := 25) rfl (hb hby d4_21) (by decide) (by decide) k) ?_
        show Go p e below s Q 0 0 (s₁.setTop (mkF m 25 #[.val (.ref res), .val (.int ci), .val (.int (1 : Int32)), .val (.int ra), .val (.ref w1)] [(.int (1 : Int32))]))
        exact Go.retN X0 hx hlk (by simp) Bd.returns (hb hby d4_25) (z' := (1 : Int32)) (by decide) (by rw [← hQ, e0]; exact ⟨(1 : Int32), rfl, N0, (by omega), (by omega), rfl⟩) (by decide) (by decide)
      ·
        refine Go.st (fun _ k => XS.icmpYes X0.here hx rfl (pc0 := 17) (pc' := 24) rfl (hb hby d4_17) rfl (feq (neI rfl rfl c27)).2 (by decide) (by decide) k) ?_
        refine Go.st (fun _ k => XS.iconst X0.here hx rfl (hb hby d4_24) k) ?_
        show Go p e below s Q 0 0 (s₁.setTop (mkF m 25 #[.val (.ref res), .val (.int ci), .val (.int (1 : Int32)), .val (.int ra), .val (.ref w1)] [(.int (0 : Int32))]))
        have f28 := liI_0
        exact Go.retN X0 hx hlk (by simp) Bd.returns (hb hby d4_25) (z' := (0 : Int32)) (by decide) (by rw [← hQ, e0]; exact ⟨(0 : Int32), rfl, N0, (by omega), (by omega), rfl⟩) (by decide) (by decide)
    ·
      refine Go.st (fun _ k => XS.icmpYes X0.here hx rfl (pc0 := 9) (pc' := 24) rfl (hb hby d4_9) rfl (flt (nltI rfl rfl c22)).2.1 (by decide) (by decide) k) ?_
      refine Go.st (fun _ k => XS.iconst X0.here hx rfl (hb hby d4_24) k) ?_
      show Go p e below s Q 0 0 (s₁.setTop (mkF m 25 #[.val (.ref res), .val (.int ci), .val (.int (1 : Int32)), .val (.int ra), .val (.ref w1)] [(.int (0 : Int32))]))
      have f29 := liI_0
      exact Go.retN X0 hx hlk (by simp) Bd.returns (hb hby d4_25) (z' := (0 : Int32)) (by decide) (by rw [← hQ, e0]; exact ⟨(0 : Int32), rfl, N0, (by omega), (by omega), rfl⟩) (by decide) (by decide)
theorem ef_rmp3 (m : MethodId) (res : Addr) (ci : Int32) (rk : Int32) (ra : Int32) : entryFrame m #[(.ref res), (.int ci), (.int rk), (.int ra)] 5 = mkF m 0 #[.val (.ref res), .val (.int ci), .val (.int rk), .val (.int ra), .unset] [] := by first | (simp [entryFrame, mkF, argsToLocals, Value.category]; done) | rfl
def Qp3 (Z : State) (res : Addr) (ci : Int32) (rk : Int32) (ra : Int32) (w0 : Addr) (l0 : Int32) (g0 : Nat → Int32) (w1 : Addr) (l1 : Int32) (g1 : Nat → Int32) (w2 : Addr) (l2 : Int32) (g2 : Nat → Int32) (h0 : Heap) (n0 : Nat) (vv : Option Value) (h : Heap) (LL : List Loc) : Prop := ∃ (rr : Int32), vv = some (.int rr) ∧ Fr n0 LL ∧ (rk.toInt = 0 → ra.toInt < l0.toInt → (g0 ra.toInt.toNat).toInt = ci.toInt → rr.toInt = 1) ∧ (rk.toInt = 1 → ra.toInt < l1.toInt → (g1 ra.toInt.toNat).toInt = ci.toInt → rr.toInt = 1) ∧ (rk.toInt = 2 → ra.toInt < l2.toInt → (g2 ra.toInt.toNat).toInt = ci.toInt → rr.toInt = 1) ∧ h = h0
set_option maxRecDepth 65536 in
set_option maxHeartbeats 40000000 in
theorem rmp3 (l : Launch) (Z : State) (a0 : Array Value) (hw : ∀ d ∈ tables_1, d.before a0 Z = true) (ws : List Jvm.Cond) (res : Addr) (ci : Int32) (rk : Int32) (ra : Int32) (w0 : Addr) (l0 : Int32) (g0 : Nat → Int32) (w1 : Addr) (l1 : Int32) (g1 : Nat → Int32) (w2 : Addr) (l2 : Int32) (g2 : Nat → Int32) (h0 : Heap) (n0 : Nat) (Z0 : n0 ≤ h0.size) (hR : RV Z h0 res (3 : Int32) [(.ref w0), (.ref w1), (.ref w2)]) (hV0 : Vec Z h0 w0 .int l0 (ints g0)) (hV1 : Vec Z h0 w1 .int l1 (ints g1)) (hV2 : Vec Z h0 w2 .int l2 (ints g2)) (hbd : 0 ≤ rk.toInt ∧ rk.toInt < 3 ∧ 0 ≤ ra.toInt) :
    MetFree l (⟨"com/example/rackwise/rackwise/RackCostsClientsOfRacksPinLaw", "placed", "([[IIII)Z"⟩ : MethodName) (head1 (Jvm.Cond.code (⟨"com/example/rackwise/rackwise/RackCostsClientsOfRacksPinLaw", "placed", "([[IIII)Z"⟩ : MethodName) method_6_code 5 (some .boolean) :: ws) ({ frames := 0, cells := 0, slots := 0, locals := 0 } : Room)) (fun aa UU => aa = #[(.ref res), (.int ci), (.int rk), (.int ra)] ∧ Z.Warmed39 UU.vm ∧ UU.heap = h0) (fun _ _ _ _ _ => True) (fun _ UU oo UU' => ∃ vv LL, oo = .returned vv ∧ Qp3 Z res ci rk ra w0 l0 g0 w1 l1 g1 w2 l2 g2 h0 n0 vv UU'.heap LL ∧ FrameEnd UU oo UU' LL 0 0) := by
  refine MetFree.of_bodySF (plainFor_of_name pn_1) hisR ?_
  intro p e s m args below meth c s₁ Bd hml0 hP hK
  obtain ⟨rfl, hZ, hh⟩ := hP
  have hx := Bd.exec
  have hby := Bd.bytes
  have hlk : meth.locks = false := BodyLoose.notSynchronized Bd
  have hml : c.maxLocals = 5 := hml0
  have hown : s.vm.findClass "com/example/rackwise/rackwise/RackCostsClientsOfRacksPinLaw" = some m.cls := findClass_of_methodNamed Bd.named
  have hnm := (name_of_methodNamed Bd.named Bd.method).1
  have X0 : Stand p l e ({ frames := 0, cells := 0, slots := 0, locals := 0 } : Room) s m #[(.ref res), (.int ci), (.int rk), (.int ra)] below meth c s₁ [] 0 0 := Stand.of_body Bd
  have e0 : s₁.heap = h0 := by rw [← hh, Bd.state]; rfl
  have N0 := Fr.nil n0
  have K0 : Keep h0 h0 [] := Keep.refl h0 _
  refine (?_ : Go p e below s (Qp3 Z res ci rk ra w0 l0 g0 w1 l1 g1 w2 l2 g2 h0 n0) 0 0 (s₁.setTop (entryFrame m #[(.ref res), (.int ci), (.int rk), (.int ra)] 5)))
  rw [ef_rmp3]
  generalize hQ : Qp3 Z res ci rk ra w0 l0 g0 w1 l1 g1 w2 l2 g2 h0 n0 = Q
  show Go p e below s Q 0 0 (s₁.setTop (mkF m 0 #[.val (.ref res), .val (.int ci), .val (.int rk), .val (.int ra), .unset] []))
  have f1 := rng32 ci
  have f2 := rng32 rk
  have f3 := rng32 ra
  have cs4 : rk.toInt = 0 ∨ rk.toInt = 1 ∨ rk.toInt = 2 := by omega
  rcases cs4 with cs5 | cs6 | cs7
  ·
    have cs5' : rk = (0 : Int32) := eqI cs5 liI_0 rfl
    subst cs5'
    have f8 := liI_0
    show Go p e below s Q 0 0 (s₁.setTop (mkF m 0 #[.val (.ref res), .val (.int ci), .val (.int (0 : Int32)), .val (.int ra), .unset] []))
    refine Go.st (fun _ k => XS.aloadN X0.here hx rfl (hb hby d4_0) rfl rfl k) ?_
    refine Go.st (fun _ k => XS.iloadN X0.here hx rfl (hb hby d4_1) rfl k) ?_
    refine Go.st (RV.ild X0 hx hZ e0 hR (j := (0 : Int32)) (by decide) (by decide) (g := (mkF m 2 #[.val (.ref res), .val (.int ci), .val (.int (0 : Int32)), .val (.int ra), .unset] [(.int (0 : Int32)), (.ref res)])) rfl rfl (hb hby d4_2)) ?_
    show Go p e below s Q 0 0 (s₁.setTop (mkF m 3 #[.val (.ref res), .val (.int ci), .val (.int (0 : Int32)), .val (.int ra), .unset] [(.ref w0)]))
    refine Go.st (fun _ k => XS.astore X0.here hx rfl (hb hby d4_3) rfl rfl (l' := #[.val (.ref res), .val (.int ci), .val (.int (0 : Int32)), .val (.int ra), .val (.ref w0)]) rfl k) ?_
    refine Go.st (fun _ k => XS.iloadN X0.here hx rfl (hb hby d4_5) rfl k) ?_
    refine Go.st (fun _ k => XS.aload X0.here hx rfl (hb hby d4_6) rfl rfl k) ?_
    refine Go.st (Vec.len X0 hx hZ e0 hV0 (g := (mkF m 8 #[.val (.ref res), .val (.int ci), .val (.int (0 : Int32)), .val (.int ra), .val (.ref w0)] [(.ref w0), (.int ra)])) rfl rfl (hb hby d4_8)) ?_
    show Go p e below s Q 0 0 (s₁.setTop (mkF m 9 #[.val (.ref res), .val (.int ci), .val (.int (0 : Int32)), .val (.int ra), .val (.ref w0)] [(.int l0), (.int ra)]))
    have f11 := rng32 l0
    by_cases c12 : ra.toInt < l0.toInt
    ·
      refine Go.st (fun _ k => XS.icmpNo X0.here hx rfl (hb hby d4_9) rfl (tlt (ltI rfl rfl c12)).2.1 k) ?_
      refine Go.st (fun _ k => XS.aload X0.here hx rfl (hb hby d4_12) rfl rfl k) ?_
      refine Go.st (fun _ k => XS.iloadN X0.here hx rfl (hb hby d4_14) rfl k) ?_
      have r14 : 0 ≤ ra.toInt := by omega
      have r15 : ra.toInt < l0.toInt := by omega
      refine Go.st (Vec.ildI X0 hx hZ e0 hV0 (j := ra) r14 r15 (g := (mkF m 15 #[.val (.ref res), .val (.int ci), .val (.int (0 : Int32)), .val (.int ra), .val (.ref w0)] [(.int ra), (.ref w0)])) rfl rfl (hb hby d4_15)) ?_
      show Go p e below s Q 0 0 (s₁.setTop (mkF m 16 #[.val (.ref res), .val (.int ci), .val (.int (0 : Int32)), .val (.int ra), .val (.ref w0)] [(.int (g0 ra.toInt.toNat))]))
      refine Go.st (fun _ k => XS.iloadN X0.here hx rfl (hb hby d4_16) rfl k) ?_
      have f16 := rng32 (g0 ra.toInt.toNat)
      by_cases c17 : (g0 ra.toInt.toNat).toInt = ci.toInt
      ·
        refine Go.st (fun _ k => XS.icmpNo X0.here hx rfl (hb hby d4_17) rfl (teq (eqI rfl rfl c17)).2 k) ?_
        refine Go.st (fun _ k => XS.iconst X0.here hx rfl (hb hby d4_20) k) ?_
        refine Go.st (fun _ k => XS.goto X0.here hx rfl (pc0 := 21) (pc' := 25) rfl (hb hby d4_21) (by decide) (by decide) k) ?_
        show Go p e below s Q 0 0 (s₁.setTop (mkF m 25 #[.val (.ref res), .val (.int ci), .val (.int (0 : Int32)), .val (.int ra), .val (.ref w0)] [(.int (1 : Int32))]))
        have f18 := liI_1
        exact Go.retN X0 hx hlk (by simp) Bd.returns (hb hby d4_25) (z' := (1 : Int32)) (by decide) (by rw [← hQ, e0]; exact ⟨(1 : Int32), rfl, N0, (by omega), (by omega), (by omega), rfl⟩) (by decide) (by decide)
      ·
        refine Go.st (fun _ k => XS.icmpYes X0.here hx rfl (pc0 := 17) (pc' := 24) rfl (hb hby d4_17) rfl (feq (neI rfl rfl c17)).2 (by decide) (by decide) k) ?_
        refine Go.st (fun _ k => XS.iconst X0.here hx rfl (hb hby d4_24) k) ?_
        show Go p e below s Q 0 0 (s₁.setTop (mkF m 25 #[.val (.ref res), .val (.int ci), .val (.int (0 : Int32)), .val (.int ra), .val (.ref w0)] [(.int (0 : Int32))]))
        exact Go.retN X0 hx hlk (by simp) Bd.returns (hb hby d4_25) (z' := (0 : Int32)) (by decide) (by rw [← hQ, e0]; exact ⟨(0 : Int32), rfl, N0, (by omega), (by omega), (by omega), rfl⟩) (by decide) (by decide)
    ·
      refine Go.st (fun _ k => XS.icmpYes X0.here hx rfl (pc0 := 9) (pc' := 24) rfl (hb hby d4_9) rfl (flt (nltI rfl rfl c12)).2.1 (by decide) (by decide) k) ?_
      refine Go.st (fun _ k => XS.iconst X0.here hx rfl (hb hby d4_24) k) ?_
      show Go p e below s Q 0 0 (s₁.setTop (mkF m 25 #[.val (.ref res), .val (.int ci), .val (.int (0 : Int32)), .val (.int ra), .val (.ref w0)] [(.int (0 : Int32))]))
      exact Go.retN X0 hx hlk (by simp) Bd.returns (hb hby d4_25) (z' := (0 : Int32)) (by decide) (by rw [← hQ, e0]; exact ⟨(0 : Int32), rfl, N0, (by omega), (by omega), (by omega), rfl⟩) (by decide) (by decide)
  ·
    have cs6' : rk = (1 : Int32) := eqI cs6 liI_1 rfl
    subst cs6'
    have f19 := liI_1
    show Go p e below s Q 0 0 (s₁.setTop (mkF m 0 #[.val (.ref res), .val (.int ci), .val (.int (1 : Int32)), .val (.int ra), .unset] []))
    refine Go.st (fun _ k => XS.aloadN X0.here hx rfl (hb hby d4_0) rfl rfl k) ?_
    refine Go.st (fun _ k => XS.iloadN X0.here hx rfl (hb hby d4_1) rfl k) ?_
    refine Go.st (RV.ild X0 hx hZ e0 hR (j := (1 : Int32)) (by decide) (by decide) (g := (mkF m 2 #[.val (.ref res), .val (.int ci), .val (.int (1 : Int32)), .val (.int ra), .unset] [(.int (1 : Int32)), (.ref res)])) rfl rfl (hb hby d4_2)) ?_
    show Go p e below s Q 0 0 (s₁.setTop (mkF m 3 #[.val (.ref res), .val (.int ci), .val (.int (1 : Int32)), .val (.int ra), .unset] [(.ref w1)]))
    refine Go.st (fun _ k => XS.astore X0.here hx rfl (hb hby d4_3) rfl rfl (l' := #[.val (.ref res), .val (.int ci), .val (.int (1 : Int32)), .val (.int ra), .val (.ref w1)]) rfl k) ?_
    refine Go.st (fun _ k => XS.iloadN X0.here hx rfl (hb hby d4_5) rfl k) ?_
    refine Go.st (fun _ k => XS.aload X0.here hx rfl (hb hby d4_6) rfl rfl k) ?_
    refine Go.st (Vec.len X0 hx hZ e0 hV1 (g := (mkF m 8 #[.val (.ref res), .val (.int ci), .val (.int (1 : Int32)), .val (.int ra), .val (.ref w1)] [(.ref w1), (.int ra)])) rfl rfl (hb hby d4_8)) ?_
    show Go p e below s Q 0 0 (s₁.setTop (mkF m 9 #[.val (.ref res), .val (.int ci), .val (.int (1 : Int32)), .val (.int ra), .val (.ref w1)] [(.int l1), (.int ra)]))
    have f22 := rng32 l1
    by_cases c23 : ra.toInt < l1.toInt
    ·
      refine Go.st (fun _ k => XS.icmpNo X0.here hx rfl (hb hby d4_9) rfl (tlt (ltI rfl rfl c23)).2.1 k) ?_
      refine Go.st (fun _ k => XS.aload X0.here hx rfl (hb hby d4_12) rfl rfl k) ?_
      refine Go.st (fun _ k => XS.iloadN X0.here hx rfl (hb hby d4_14) rfl k) ?_
      have r25 : 0 ≤ ra.toInt := by omega
      have r26 : ra.toInt < l1.toInt := by omega
      refine Go.st (Vec.ildI X0 hx hZ e0 hV1 (j := ra) r25 r26 (g := (mkF m 15 #[.val (.ref res), .val (.int ci), .val (.int (1 : Int32)), .val (.int ra), .val (.ref w1)] [(.int ra), (.ref w1)])) rfl rfl (hb hby d4_15)) ?_
      show Go p e below s Q 0 0 (s₁.setTop (mkF m 16 #[.val (.ref res), .val (.int ci), .val (.int (1 : Int32)), .val (.int ra), .val (.ref w1)] [(.int (g1 ra.toInt.toNat))]))
      refine Go.st (fun _ k => XS.iloadN X0.here hx rfl (hb hby d4_16) rfl k) ?_
      have f27 := rng32 (g1 ra.toInt.toNat)
      by_cases c28 : (g1 ra.toInt.toNat).toInt = ci.toInt
      ·
        refine Go.st (fun _ k => XS.icmpNo X0.here hx rfl (hb hby d4_17) rfl (teq (eqI rfl rfl c28)).2 k) ?_
        refine Go.st (fun _ k => XS.iconst X0.here hx rfl (hb hby d4_20) k) ?_
        refine Go.st (fun _ k => XS.goto X0.here hx rfl (pc0 := 21) (pc' := 25) rfl (hb hby d4_21) (by decide) (by decide) k) ?_
        show Go p e below s Q 0 0 (s₁.setTop (mkF m 25 #[.val (.ref res), .val (.int ci), .val (.int (1 : Int32)), .val (.int ra), .val (.ref w1)] [(.int (1 : Int32))]))
        exact Go.retN X0 hx hlk (by simp) Bd.returns (hb hby d4_25) (z' := (1 : Int32)) (by decide) (by rw [← hQ, e0]; exact ⟨(1 : Int32), rfl, N0, (by omega), (by omega), (by omega), rfl⟩) (by decide) (by decide)
      ·
        refine Go.st (fun _ k => XS.icmpYes X0.here hx rfl (pc0 := 17) (pc' := 24) rfl (hb hby d4_17) rfl (feq (neI rfl rfl c28)).2 (by decide) (by decide) k) ?_
        refine Go.st (fun _ k => XS.iconst X0.here hx rfl (hb hby d4_24) k) ?_
        show Go p e below s Q 0 0 (s₁.setTop (mkF m 25 #[.val (.ref res), .val (.int ci), .val (.int (1 : Int32)), .val (.int ra), .val (.ref w1)] [(.int (0 : Int32))]))
        have f29 := liI_0
        exact Go.retN X0 hx hlk (by simp) Bd.returns (hb hby d4_25) (z' := (0 : Int32)) (by decide) (by rw [← hQ, e0]; exact ⟨(0 : Int32), rfl, N0, (by omega), (by omega), (by omega), rfl⟩) (by decide) (by decide)
    ·
      refine Go.st (fun _ k => XS.icmpYes X0.here hx rfl (pc0 := 9) (pc' := 24) rfl (hb hby d4_9) rfl (flt (nltI rfl rfl c23)).2.1 (by decide) (by decide) k) ?_
      refine Go.st (fun _ k => XS.iconst X0.here hx rfl (hb hby d4_24) k) ?_
      show Go p e below s Q 0 0 (s₁.setTop (mkF m 25 #[.val (.ref res), .val (.int ci), .val (.int (1 : Int32)), .val (.int ra), .val (.ref w1)] [(.int (0 : Int32))]))
      have f30 := liI_0
      exact Go.retN X0 hx hlk (by simp) Bd.returns (hb hby d4_25) (z' := (0 : Int32)) (by decide) (by rw [← hQ, e0]; exact ⟨(0 : Int32), rfl, N0, (by omega), (by omega), (by omega), rfl⟩) (by decide) (by decide)
  ·
    have cs7' : rk = (2 : Int32) := eqI cs7 liI_2 rfl
    subst cs7'
    have f31 := liI_2
    show Go p e below s Q 0 0 (s₁.setTop (mkF m 0 #[.val (.ref res), .val (.int ci), .val (.int (2 : Int32)), .val (.int ra), .unset] []))
    refine Go.st (fun _ k => XS.aloadN X0.here hx rfl (hb hby d4_0) rfl rfl k) ?_
    refine Go.st (fun _ k => XS.iloadN X0.here hx rfl (hb hby d4_1) rfl k) ?_
    refine Go.st (RV.ild X0 hx hZ e0 hR (j := (2 : Int32)) (by decide) (by decide) (g := (mkF m 2 #[.val (.ref res), .val (.int ci), .val (.int (2 : Int32)), .val (.int ra), .unset] [(.int (2 : Int32)), (.ref res)])) rfl rfl (hb hby d4_2)) ?_
    show Go p e below s Q 0 0 (s₁.setTop (mkF m 3 #[.val (.ref res), .val (.int ci), .val (.int (2 : Int32)), .val (.int ra), .unset] [(.ref w2)]))
    refine Go.st (fun _ k => XS.astore X0.here hx rfl (hb hby d4_3) rfl rfl (l' := #[.val (.ref res), .val (.int ci), .val (.int (2 : Int32)), .val (.int ra), .val (.ref w2)]) rfl k) ?_
    refine Go.st (fun _ k => XS.iloadN X0.here hx rfl (hb hby d4_5) rfl k) ?_
    refine Go.st (fun _ k => XS.aload X0.here hx rfl (hb hby d4_6) rfl rfl k) ?_
    refine Go.st (Vec.len X0 hx hZ e0 hV2 (g := (mkF m 8 #[.val (.ref res), .val (.int ci), .val (.int (2 : Int32)), .val (.int ra), .val (.ref w2)] [(.ref w2), (.int ra)])) rfl rfl (hb hby d4_8)) ?_
    show Go p e below s Q 0 0 (s₁.setTop (mkF m 9 #[.val (.ref res), .val (.int ci), .val (.int (2 : Int32)), .val (.int ra), .val (.ref w2)] [(.int l2), (.int ra)]))
    have f34 := rng32 l2
    by_cases c35 : ra.toInt < l2.toInt
    ·
      refine Go.st (fun _ k => XS.icmpNo X0.here hx rfl (hb hby d4_9) rfl (tlt (ltI rfl rfl c35)).2.1 k) ?_
      refine Go.st (fun _ k => XS.aload X0.here hx rfl (hb hby d4_12) rfl rfl k) ?_
      refine Go.st (fun _ k => XS.iloadN X0.here hx rfl (hb hby d4_14) rfl k) ?_
      have r37 : 0 ≤ ra.toInt := by omega
      have r38 : ra.toInt < l2.toInt := by omega
      refine Go.st (Vec.ildI X0 hx hZ e0 hV2 (j := ra) r37 r38 (g := (mkF m 15 #[.val (.ref res), .val (.int ci), .val (.int (2 : Int32)), .val (.int ra), .val (.ref w2)] [(.int ra), (.ref w2)])) rfl rfl (hb hby d4_15)) ?_
      show Go p e below s Q 0 0 (s₁.setTop (mkF m 16 #[.val (.ref res), .val (.int ci), .val (.int (2 : Int32)), .val (.int ra), .val (.ref w2)] [(.int (g2 ra.toInt.toNat))]))
      refine Go.st (fun _ k => XS.iloadN X0.here hx rfl (hb hby d4_16) rfl k) ?_
      have f39 := rng32 (g2 ra.toInt.toNat)
      by_cases c40 : (g2 ra.toInt.toNat).toInt = ci.toInt
      ·
        refine Go.st (fun _ k => XS.icmpNo X0.here hx rfl (hb hby d4_17) rfl (teq (eqI rfl rfl c40)).2 k) ?_
        refine Go.st (fun _ k => XS.iconst X0.here hx rfl (hb hby d4_20) k) ?_
        refine Go.st (fun _ k => XS.goto X0.here hx rfl (pc0 := 21) (pc' := 25) rfl (hb hby d4_21) (by decide) (by decide) k) ?_
        show Go p e below s Q 0 0 (s₁.setTop (mkF m 25 #[.val (.ref res), .val (.int ci), .val (.int (2 : Int32)), .val (.int ra), .val (.ref w2)] [(.int (1 : Int32))]))
        have f41 := liI_1
        exact Go.retN X0 hx hlk (by simp) Bd.returns (hb hby d4_25) (z' := (1 : Int32)) (by decide) (by rw [← hQ, e0]; exact ⟨(1 : Int32), rfl, N0, (by omega), (by omega), (by omega), rfl⟩) (by decide) (by decide)
      ·
        refine Go.st (fun _ k => XS.icmpYes X0.here hx rfl (pc0 := 17) (pc' := 24) rfl (hb hby d4_17) rfl (feq (neI rfl rfl c40)).2 (by decide) (by decide) k) ?_
        refine Go.st (fun _ k => XS.iconst X0.here hx rfl (hb hby d4_24) k) ?_
        show Go p e below s Q 0 0 (s₁.setTop (mkF m 25 #[.val (.ref res), .val (.int ci), .val (.int (2 : Int32)), .val (.int ra), .val (.ref w2)] [(.int (0 : Int32))]))
        have f42 := liI_0
        exact Go.retN X0 hx hlk (by simp) Bd.returns (hb hby d4_25) (z' := (0 : Int32)) (by decide) (by rw [← hQ, e0]; exact ⟨(0 : Int32), rfl, N0, (by omega), (by omega), (by omega), rfl⟩) (by decide) (by decide)
    ·
      refine Go.st (fun _ k => XS.icmpYes X0.here hx rfl (pc0 := 9) (pc' := 24) rfl (hb hby d4_9) rfl (flt (nltI rfl rfl c35)).2.1 (by decide) (by decide) k) ?_
      refine Go.st (fun _ k => XS.iconst X0.here hx rfl (hb hby d4_24) k) ?_
      show Go p e below s Q 0 0 (s₁.setTop (mkF m 25 #[.val (.ref res), .val (.int ci), .val (.int (2 : Int32)), .val (.int ra), .val (.ref w2)] [(.int (0 : Int32))]))
      have f43 := liI_0
      exact Go.retN X0 hx hlk (by simp) Bd.returns (hb hby d4_25) (z' := (0 : Int32)) (by decide) (by rw [← hQ, e0]; exact ⟨(0 : Int32), rfl, N0, (by omega), (by omega), (by omega), rfl⟩) (by decide) (by decide)
theorem ef_rmp4 (m : MethodId) (res : Addr) (ci : Int32) (rk : Int32) (ra : Int32) : entryFrame m #[(.ref res), (.int ci), (.int rk), (.int ra)] 5 = mkF m 0 #[.val (.ref res), .val (.int ci), .val (.int rk), .val (.int ra), .unset] [] := by first | (simp [entryFrame, mkF, argsToLocals, Value.category]; done) | rfl
def Qp4 (Z : State) (res : Addr) (ci : Int32) (rk : Int32) (ra : Int32) (w0 : Addr) (l0 : Int32) (g0 : Nat → Int32) (w1 : Addr) (l1 : Int32) (g1 : Nat → Int32) (w2 : Addr) (l2 : Int32) (g2 : Nat → Int32) (w3 : Addr) (l3 : Int32) (g3 : Nat → Int32) (h0 : Heap) (n0 : Nat) (vv : Option Value) (h : Heap) (LL : List Loc) : Prop := ∃ (rr : Int32), vv = some (.int rr) ∧ Fr n0 LL ∧ (rk.toInt = 0 → ra.toInt < l0.toInt → (g0 ra.toInt.toNat).toInt = ci.toInt → rr.toInt = 1) ∧ (rk.toInt = 1 → ra.toInt < l1.toInt → (g1 ra.toInt.toNat).toInt = ci.toInt → rr.toInt = 1) ∧ (rk.toInt = 2 → ra.toInt < l2.toInt → (g2 ra.toInt.toNat).toInt = ci.toInt → rr.toInt = 1) ∧ (rk.toInt = 3 → ra.toInt < l3.toInt → (g3 ra.toInt.toNat).toInt = ci.toInt → rr.toInt = 1) ∧ h = h0
set_option maxRecDepth 65536 in
set_option maxHeartbeats 40000000 in
theorem rmp4 (l : Launch) (Z : State) (a0 : Array Value) (hw : ∀ d ∈ tables_1, d.before a0 Z = true) (ws : List Jvm.Cond) (res : Addr) (ci : Int32) (rk : Int32) (ra : Int32) (w0 : Addr) (l0 : Int32) (g0 : Nat → Int32) (w1 : Addr) (l1 : Int32) (g1 : Nat → Int32) (w2 : Addr) (l2 : Int32) (g2 : Nat → Int32) (w3 : Addr) (l3 : Int32) (g3 : Nat → Int32) (h0 : Heap) (n0 : Nat) (Z0 : n0 ≤ h0.size) (hR : RV Z h0 res (4 : Int32) [(.ref w0), (.ref w1), (.ref w2), (.ref w3)]) (hV0 : Vec Z h0 w0 .int l0 (ints g0)) (hV1 : Vec Z h0 w1 .int l1 (ints g1)) (hV2 : Vec Z h0 w2 .int l2 (ints g2)) (hV3 : Vec Z h0 w3 .int l3 (ints g3)) (hbd : 0 ≤ rk.toInt ∧ rk.toInt < 4 ∧ 0 ≤ ra.toInt) :
    MetFree l (⟨"com/example/rackwise/rackwise/RackCostsClientsOfRacksPinLaw", "placed", "([[IIII)Z"⟩ : MethodName) (head1 (Jvm.Cond.code (⟨"com/example/rackwise/rackwise/RackCostsClientsOfRacksPinLaw", "placed", "([[IIII)Z"⟩ : MethodName) method_6_code 5 (some .boolean) :: ws) ({ frames := 0, cells := 0, slots := 0, locals := 0 } : Room)) (fun aa UU => aa = #[(.ref res), (.int ci), (.int rk), (.int ra)] ∧ Z.Warmed39 UU.vm ∧ UU.heap = h0) (fun _ _ _ _ _ => True) (fun _ UU oo UU' => ∃ vv LL, oo = .returned vv ∧ Qp4 Z res ci rk ra w0 l0 g0 w1 l1 g1 w2 l2 g2 w3 l3 g3 h0 n0 vv UU'.heap LL ∧ FrameEnd UU oo UU' LL 0 0) := by
  refine MetFree.of_bodySF (plainFor_of_name pn_1) hisR ?_
  intro p e s m args below meth c s₁ Bd hml0 hP hK
  obtain ⟨rfl, hZ, hh⟩ := hP
  have hx := Bd.exec
  have hby := Bd.bytes
  have hlk : meth.locks = false := BodyLoose.notSynchronized Bd
  have hml : c.maxLocals = 5 := hml0
  have hown : s.vm.findClass "com/example/rackwise/rackwise/RackCostsClientsOfRacksPinLaw" = some m.cls := findClass_of_methodNamed Bd.named
  have hnm := (name_of_methodNamed Bd.named Bd.method).1
  have X0 : Stand p l e ({ frames := 0, cells := 0, slots := 0, locals := 0 } : Room) s m #[(.ref res), (.int ci), (.int rk), (.int ra)] below meth c s₁ [] 0 0 := Stand.of_body Bd
  have e0 : s₁.heap = h0 := by rw [← hh, Bd.state]; rfl
  have N0 := Fr.nil n0
  have K0 : Keep h0 h0 [] := Keep.refl h0 _
  refine (?_ : Go p e below s (Qp4 Z res ci rk ra w0 l0 g0 w1 l1 g1 w2 l2 g2 w3 l3 g3 h0 n0) 0 0 (s₁.setTop (entryFrame m #[(.ref res), (.int ci), (.int rk), (.int ra)] 5)))
  rw [ef_rmp4]
  generalize hQ : Qp4 Z res ci rk ra w0 l0 g0 w1 l1 g1 w2 l2 g2 w3 l3 g3 h0 n0 = Q
  show Go p e below s Q 0 0 (s₁.setTop (mkF m 0 #[.val (.ref res), .val (.int ci), .val (.int rk), .val (.int ra), .unset] []))
  have f1 := rng32 ci
  have f2 := rng32 rk
  have f3 := rng32 ra
  have cs4 : rk.toInt = 0 ∨ rk.toInt = 1 ∨ rk.toInt = 2 ∨ rk.toInt = 3 := by omega
  rcases cs4 with cs5 | cs6 | cs7 | cs8
  ·
    have cs5' : rk = (0 : Int32) := eqI cs5 liI_0 rfl
    subst cs5'
    have f9 := liI_0
    show Go p e below s Q 0 0 (s₁.setTop (mkF m 0 #[.val (.ref res), .val (.int ci), .val (.int (0 : Int32)), .val (.int ra), .unset] []))
    refine Go.st (fun _ k => XS.aloadN X0.here hx rfl (hb hby d4_0) rfl rfl k) ?_
    refine Go.st (fun _ k => XS.iloadN X0.here hx rfl (hb hby d4_1) rfl k) ?_
    refine Go.st (RV.ild X0 hx hZ e0 hR (j := (0 : Int32)) (by decide) (by decide) (g := (mkF m 2 #[.val (.ref res), .val (.int ci), .val (.int (0 : Int32)), .val (.int ra), .unset] [(.int (0 : Int32)), (.ref res)])) rfl rfl (hb hby d4_2)) ?_
    show Go p e below s Q 0 0 (s₁.setTop (mkF m 3 #[.val (.ref res), .val (.int ci), .val (.int (0 : Int32)), .val (.int ra), .unset] [(.ref w0)]))
    refine Go.st (fun _ k => XS.astore X0.here hx rfl (hb hby d4_3) rfl rfl (l' := #[.val (.ref res), .val (.int ci), .val (.int (0 : Int32)), .val (.int ra), .val (.ref w0)]) rfl k) ?_
    refine Go.st (fun _ k => XS.iloadN X0.here hx rfl (hb hby d4_5) rfl k) ?_
    refine Go.st (fun _ k => XS.aload X0.here hx rfl (hb hby d4_6) rfl rfl k) ?_
    refine Go.st (Vec.len X0 hx hZ e0 hV0 (g := (mkF m 8 #[.val (.ref res), .val (.int ci), .val (.int (0 : Int32)), .val (.int ra), .val (.ref w0)] [(.ref w0), (.int ra)])) rfl rfl (hb hby d4_8)) ?_
    show Go p e below s Q 0 0 (s₁.setTop (mkF m 9 #[.val (.ref res), .val (.int ci), .val (.int (0 : Int32)), .val (.int ra), .val (.ref w0)] [(.int l0), (.int ra)]))
    have f12 := rng32 l0
    by_cases c13 : ra.toInt < l0.toInt
    ·
      refine Go.st (fun _ k => XS.icmpNo X0.here hx rfl (hb hby d4_9) rfl (tlt (ltI rfl rfl c13)).2.1 k) ?_
      refine Go.st (fun _ k => XS.aload X0.here hx rfl (hb hby d4_12) rfl rfl k) ?_
      refine Go.st (fun _ k => XS.iloadN X0.here hx rfl (hb hby d4_14) rfl k) ?_
      have r15 : 0 ≤ ra.toInt := by omega
      have r16 : ra.toInt < l0.toInt := by omega
      refine Go.st (Vec.ildI X0 hx hZ e0 hV0 (j := ra) r15 r16 (g := (mkF m 15 #[.val (.ref res), .val (.int ci), .val (.int (0 : Int32)), .val (.int ra), .val (.ref w0)] [(.int ra), (.ref w0)])) rfl rfl (hb hby d4_15)) ?_
      show Go p e below s Q 0 0 (s₁.setTop (mkF m 16 #[.val (.ref res), .val (.int ci), .val (.int (0 : Int32)), .val (.int ra), .val (.ref w0)] [(.int (g0 ra.toInt.toNat))]))
      refine Go.st (fun _ k => XS.iloadN X0.here hx rfl (hb hby d4_16) rfl k) ?_
      have f17 := rng32 (g0 ra.toInt.toNat)
      by_cases c18 : (g0 ra.toInt.toNat).toInt = ci.toInt
      ·
        refine Go.st (fun _ k => XS.icmpNo X0.here hx rfl (hb hby d4_17) rfl (teq (eqI rfl rfl c18)).2 k) ?_
        refine Go.st (fun _ k => XS.iconst X0.here hx rfl (hb hby d4_20) k) ?_
        refine Go.st (fun _ k => XS.goto X0.here hx rfl (pc0 := 21) (pc' := 25) rfl (hb hby d4_21) (by decide) (by decide) k) ?_
        show Go p e below s Q 0 0 (s₁.setTop (mkF m 25 #[.val (.ref res), .val (.int ci), .val (.int (0 : Int32)), .val (.int ra), .val (.ref w0)] [(.int (1 : Int32))]))
        have f19 := liI_1
        exact Go.retN X0 hx hlk (by simp) Bd.returns (hb hby d4_25) (z' := (1 : Int32)) (by decide) (by rw [← hQ, e0]; exact ⟨(1 : Int32), rfl, N0, (by omega), (by omega), (by omega), (by omega), rfl⟩) (by decide) (by decide)
      ·
        refine Go.st (fun _ k => XS.icmpYes X0.here hx rfl (pc0 := 17) (pc' := 24) rfl (hb hby d4_17) rfl (feq (neI rfl rfl c18)).2 (by decide) (by decide) k) ?_
        refine Go.st (fun _ k => XS.iconst X0.here hx rfl (hb hby d4_24) k) ?_
        show Go p e below s Q 0 0 (s₁.setTop (mkF m 25 #[.val (.ref res), .val (.int ci), .val (.int (0 : Int32)), .val (.int ra), .val (.ref w0)] [(.int (0 : Int32))]))
        exact Go.retN X0 hx hlk (by simp) Bd.returns (hb hby d4_25) (z' := (0 : Int32)) (by decide) (by rw [← hQ, e0]; exact ⟨(0 : Int32), rfl, N0, (by omega), (by omega), (by omega), (by omega), rfl⟩) (by decide) (by decide)
    ·
      refine Go.st (fun _ k => XS.icmpYes X0.here hx rfl (pc0 := 9) (pc' := 24) rfl (hb hby d4_9) rfl (flt (nltI rfl rfl c13)).2.1 (by decide) (by decide) k) ?_
      refine Go.st (fun _ k => XS.iconst X0.here hx rfl (hb hby d4_24) k) ?_
      show Go p e below s Q 0 0 (s₁.setTop (mkF m 25 #[.val (.ref res), .val (.int ci), .val (.int (0 : Int32)), .val (.int ra), .val (.ref w0)] [(.int (0 : Int32))]))
      exact Go.retN X0 hx hlk (by simp) Bd.returns (hb hby d4_25) (z' := (0 : Int32)) (by decide) (by rw [← hQ, e0]; exact ⟨(0 : Int32), rfl, N0, (by omega), (by omega), (by omega), (by omega), rfl⟩) (by decide) (by decide)
  ·
    have cs6' : rk = (1 : Int32) := eqI cs6 liI_1 rfl
    subst cs6'
    have f20 := liI_1
    show Go p e below s Q 0 0 (s₁.setTop (mkF m 0 #[.val (.ref res), .val (.int ci), .val (.int (1 : Int32)), .val (.int ra), .unset] []))
    refine Go.st (fun _ k => XS.aloadN X0.here hx rfl (hb hby d4_0) rfl rfl k) ?_
    refine Go.st (fun _ k => XS.iloadN X0.here hx rfl (hb hby d4_1) rfl k) ?_
    refine Go.st (RV.ild X0 hx hZ e0 hR (j := (1 : Int32)) (by decide) (by decide) (g := (mkF m 2 #[.val (.ref res), .val (.int ci), .val (.int (1 : Int32)), .val (.int ra), .unset] [(.int (1 : Int32)), (.ref res)])) rfl rfl (hb hby d4_2)) ?_
    show Go p e below s Q 0 0 (s₁.setTop (mkF m 3 #[.val (.ref res), .val (.int ci), .val (.int (1 : Int32)), .val (.int ra), .unset] [(.ref w1)]))
    refine Go.st (fun _ k => XS.astore X0.here hx rfl (hb hby d4_3) rfl rfl (l' := #[.val (.ref res), .val (.int ci), .val (.int (1 : Int32)), .val (.int ra), .val (.ref w1)]) rfl k) ?_
    refine Go.st (fun _ k => XS.iloadN X0.here hx rfl (hb hby d4_5) rfl k) ?_
    refine Go.st (fun _ k => XS.aload X0.here hx rfl (hb hby d4_6) rfl rfl k) ?_
    refine Go.st (Vec.len X0 hx hZ e0 hV1 (g := (mkF m 8 #[.val (.ref res), .val (.int ci), .val (.int (1 : Int32)), .val (.int ra), .val (.ref w1)] [(.ref w1), (.int ra)])) rfl rfl (hb hby d4_8)) ?_
    show Go p e below s Q 0 0 (s₁.setTop (mkF m 9 #[.val (.ref res), .val (.int ci), .val (.int (1 : Int32)), .val (.int ra), .val (.ref w1)] [(.int l1), (.int ra)]))
    have f23 := rng32 l1
    by_cases c24 : ra.toInt < l1.toInt
    ·
      refine Go.st (fun _ k => XS.icmpNo X0.here hx rfl (hb hby d4_9) rfl (tlt (ltI rfl rfl c24)).2.1 k) ?_
      refine Go.st (fun _ k => XS.aload X0.here hx rfl (hb hby d4_12) rfl rfl k) ?_
      refine Go.st (fun _ k => XS.iloadN X0.here hx rfl (hb hby d4_14) rfl k) ?_
      have r26 : 0 ≤ ra.toInt := by omega
      have r27 : ra.toInt < l1.toInt := by omega
      refine Go.st (Vec.ildI X0 hx hZ e0 hV1 (j := ra) r26 r27 (g := (mkF m 15 #[.val (.ref res), .val (.int ci), .val (.int (1 : Int32)), .val (.int ra), .val (.ref w1)] [(.int ra), (.ref w1)])) rfl rfl (hb hby d4_15)) ?_
      show Go p e below s Q 0 0 (s₁.setTop (mkF m 16 #[.val (.ref res), .val (.int ci), .val (.int (1 : Int32)), .val (.int ra), .val (.ref w1)] [(.int (g1 ra.toInt.toNat))]))
      refine Go.st (fun _ k => XS.iloadN X0.here hx rfl (hb hby d4_16) rfl k) ?_
      have f28 := rng32 (g1 ra.toInt.toNat)
      by_cases c29 : (g1 ra.toInt.toNat).toInt = ci.toInt
      ·
        refine Go.st (fun _ k => XS.icmpNo X0.here hx rfl (hb hby d4_17) rfl (teq (eqI rfl rfl c29)).2 k) ?_
        refine Go.st (fun _ k => XS.iconst X0.here hx rfl (hb hby d4_20) k) ?_
        refine Go.st (fun _ k => XS.goto X0.here hx rfl (pc0 := 21) (pc' := 25) rfl (hb hby d4_21) (by decide) (by decide) k) ?_
        show Go p e below s Q 0 0 (s₁.setTop (mkF m 25 #[.val (.ref res), .val (.int ci), .val (.int (1 : Int32)), .val (.int ra), .val (.ref w1)] [(.int (1 : Int32))]))
        exact Go.retN X0 hx hlk (by simp) Bd.returns (hb hby d4_25) (z' := (1 : Int32)) (by decide) (by rw [← hQ, e0]; exact ⟨(1 : Int32), rfl, N0, (by omega), (by omega), (by omega), (by omega), rfl⟩) (by decide) (by decide)
      ·
        refine Go.st (fun _ k => XS.icmpYes X0.here hx rfl (pc0 := 17) (pc' := 24) rfl (hb hby d4_17) rfl (feq (neI rfl rfl c29)).2 (by decide) (by decide) k) ?_
        refine Go.st (fun _ k => XS.iconst X0.here hx rfl (hb hby d4_24) k) ?_
        show Go p e below s Q 0 0 (s₁.setTop (mkF m 25 #[.val (.ref res), .val (.int ci), .val (.int (1 : Int32)), .val (.int ra), .val (.ref w1)] [(.int (0 : Int32))]))
        have f30 := liI_0
        exact Go.retN X0 hx hlk (by simp) Bd.returns (hb hby d4_25) (z' := (0 : Int32)) (by decide) (by rw [← hQ, e0]; exact ⟨(0 : Int32), rfl, N0, (by omega), (by omega), (by omega), (by omega), rfl⟩) (by decide) (by decide)
    ·
      refine Go.st (fun _ k => XS.icmpYes X0.here hx rfl (pc0 := 9) (pc' := 24) rfl (hb hby d4_9) rfl (flt (nltI rfl rfl c24)).2.1 (by decide) (by decide) k) ?_
      refine Go.st (fun _ k => XS.iconst X0.here hx rfl (hb hby d4_24) k) ?_
      show Go p e below s Q 0 0 (s₁.setTop (mkF m 25 #[.val (.ref res), .val (.int ci), .val (.int (1 : Int32)), .val (.int ra), .val (.ref w1)] [(.int (0 : Int32))]))
      have f31 := liI_0
      exact Go.retN X0 hx hlk (by simp) Bd.returns (hb hby d4_25) (z' := (0 : Int32)) (by decide) (by rw [← hQ, e0]; exact ⟨(0 : Int32), rfl, N0, (by omega), (by omega), (by omega), (by omega), rfl⟩) (by decide) (by decide)
  ·
    have cs7' : rk = (2 : Int32) := eqI cs7 liI_2 rfl
    subst cs7'
    have f32 := liI_2
    show Go p e below s Q 0 0 (s₁.setTop (mkF m 0 #[.val (.ref res), .val (.int ci), .val (.int (2 : Int32)), .val (.int ra), .unset] []))
    refine Go.st (fun _ k => XS.aloadN X0.here hx rfl (hb hby d4_0) rfl rfl k) ?_
    refine Go.st (fun _ k => XS.iloadN X0.here hx rfl (hb hby d4_1) rfl k) ?_
    refine Go.st (RV.ild X0 hx hZ e0 hR (j := (2 : Int32)) (by decide) (by decide) (g := (mkF m 2 #[.val (.ref res), .val (.int ci), .val (.int (2 : Int32)), .val (.int ra), .unset] [(.int (2 : Int32)), (.ref res)])) rfl rfl (hb hby d4_2)) ?_
    show Go p e below s Q 0 0 (s₁.setTop (mkF m 3 #[.val (.ref res), .val (.int ci), .val (.int (2 : Int32)), .val (.int ra), .unset] [(.ref w2)]))
    refine Go.st (fun _ k => XS.astore X0.here hx rfl (hb hby d4_3) rfl rfl (l' := #[.val (.ref res), .val (.int ci), .val (.int (2 : Int32)), .val (.int ra), .val (.ref w2)]) rfl k) ?_
    refine Go.st (fun _ k => XS.iloadN X0.here hx rfl (hb hby d4_5) rfl k) ?_
    refine Go.st (fun _ k => XS.aload X0.here hx rfl (hb hby d4_6) rfl rfl k) ?_
    refine Go.st (Vec.len X0 hx hZ e0 hV2 (g := (mkF m 8 #[.val (.ref res), .val (.int ci), .val (.int (2 : Int32)), .val (.int ra), .val (.ref w2)] [(.ref w2), (.int ra)])) rfl rfl (hb hby d4_8)) ?_
    show Go p e below s Q 0 0 (s₁.setTop (mkF m 9 #[.val (.ref res), .val (.int ci), .val (.int (2 : Int32)), .val (.int ra), .val (.ref w2)] [(.int l2), (.int ra)]))
    have f35 := rng32 l2
    by_cases c36 : ra.toInt < l2.toInt
    ·
      refine Go.st (fun _ k => XS.icmpNo X0.here hx rfl (hb hby d4_9) rfl (tlt (ltI rfl rfl c36)).2.1 k) ?_
      refine Go.st (fun _ k => XS.aload X0.here hx rfl (hb hby d4_12) rfl rfl k) ?_
      refine Go.st (fun _ k => XS.iloadN X0.here hx rfl (hb hby d4_14) rfl k) ?_
      have r38 : 0 ≤ ra.toInt := by omega
      have r39 : ra.toInt < l2.toInt := by omega
      refine Go.st (Vec.ildI X0 hx hZ e0 hV2 (j := ra) r38 r39 (g := (mkF m 15 #[.val (.ref res), .val (.int ci), .val (.int (2 : Int32)), .val (.int ra), .val (.ref w2)] [(.int ra), (.ref w2)])) rfl rfl (hb hby d4_15)) ?_
      show Go p e below s Q 0 0 (s₁.setTop (mkF m 16 #[.val (.ref res), .val (.int ci), .val (.int (2 : Int32)), .val (.int ra), .val (.ref w2)] [(.int (g2 ra.toInt.toNat))]))
      refine Go.st (fun _ k => XS.iloadN X0.here hx rfl (hb hby d4_16) rfl k) ?_
      have f40 := rng32 (g2 ra.toInt.toNat)
      by_cases c41 : (g2 ra.toInt.toNat).toInt = ci.toInt
      ·
        refine Go.st (fun _ k => XS.icmpNo X0.here hx rfl (hb hby d4_17) rfl (teq (eqI rfl rfl c41)).2 k) ?_
        refine Go.st (fun _ k => XS.iconst X0.here hx rfl (hb hby d4_20) k) ?_
        refine Go.st (fun _ k => XS.goto X0.here hx rfl (pc0 := 21) (pc' := 25) rfl (hb hby d4_21) (by decide) (by decide) k) ?_
        show Go p e below s Q 0 0 (s₁.setTop (mkF m 25 #[.val (.ref res), .val (.int ci), .val (.int (2 : Int32)), .val (.int ra), .val (.ref w2)] [(.int (1 : Int32))]))
        have f42 := liI_1
        exact Go.retN X0 hx hlk (by simp) Bd.returns (hb hby d4_25) (z' := (1 : Int32)) (by decide) (by rw [← hQ, e0]; exact ⟨(1 : Int32), rfl, N0, (by omega), (by omega), (by omega), (by omega), rfl⟩) (by decide) (by decide)
      ·
        refine Go.st (fun _ k => XS.icmpYes X0.here hx rfl (pc0 := 17) (pc' := 24) rfl (hb hby d4_17) rfl (feq (neI rfl rfl c41)).2 (by decide) (by decide) k) ?_
        refine Go.st (fun _ k => XS.iconst X0.here hx rfl (hb hby d4_24) k) ?_
        show Go p e below s Q 0 0 (s₁.setTop (mkF m 25 #[.val (.ref res), .val (.int ci), .val (.int (2 : Int32)), .val (.int ra), .val (.ref w2)] [(.int (0 : Int32))]))
        have f43 := liI_0
        exact Go.retN X0 hx hlk (by simp) Bd.returns (hb hby d4_25) (z' := (0 : Int32)) (by decide) (by rw [← hQ, e0]; exact ⟨(0 : Int32), rfl, N0, (by omega), (by omega), (by omega), (by omega), rfl⟩) (by decide) (by decide)
    ·
      refine Go.st (fun _ k => XS.icmpYes X0.here hx rfl (pc0 := 9) (pc' := 24) rfl (hb hby d4_9) rfl (flt (nltI rfl rfl c36)).2.1 (by decide) (by decide) k) ?_
      refine Go.st (fun _ k => XS.iconst X0.here hx rfl (hb hby d4_24) k) ?_
      show Go p e below s Q 0 0 (s₁.setTop (mkF m 25 #[.val (.ref res), .val (.int ci), .val (.int (2 : Int32)), .val (.int ra), .val (.ref w2)] [(.int (0 : Int32))]))
      have f44 := liI_0
      exact Go.retN X0 hx hlk (by simp) Bd.returns (hb hby d4_25) (z' := (0 : Int32)) (by decide) (by rw [← hQ, e0]; exact ⟨(0 : Int32), rfl, N0, (by omega), (by omega), (by omega), (by omega), rfl⟩) (by decide) (by decide)
  ·
    have cs8' : rk = (3 : Int32) := eqI cs8 liI_3 rfl
    subst cs8'
    have f45 := liI_3
    show Go p e below s Q 0 0 (s₁.setTop (mkF m 0 #[.val (.ref res), .val (.int ci), .val (.int (3 : Int32)), .val (.int ra), .unset] []))
    refine Go.st (fun _ k => XS.aloadN X0.here hx rfl (hb hby d4_0) rfl rfl k) ?_
    refine Go.st (fun _ k => XS.iloadN X0.here hx rfl (hb hby d4_1) rfl k) ?_
    refine Go.st (RV.ild X0 hx hZ e0 hR (j := (3 : Int32)) (by decide) (by decide) (g := (mkF m 2 #[.val (.ref res), .val (.int ci), .val (.int (3 : Int32)), .val (.int ra), .unset] [(.int (3 : Int32)), (.ref res)])) rfl rfl (hb hby d4_2)) ?_
    show Go p e below s Q 0 0 (s₁.setTop (mkF m 3 #[.val (.ref res), .val (.int ci), .val (.int (3 : Int32)), .val (.int ra), .unset] [(.ref w3)]))
    refine Go.st (fun _ k => XS.astore X0.here hx rfl (hb hby d4_3) rfl rfl (l' := #[.val (.ref res), .val (.int ci), .val (.int (3 : Int32)), .val (.int ra), .val (.ref w3)]) rfl k) ?_
    refine Go.st (fun _ k => XS.iloadN X0.here hx rfl (hb hby d4_5) rfl k) ?_
    refine Go.st (fun _ k => XS.aload X0.here hx rfl (hb hby d4_6) rfl rfl k) ?_
    refine Go.st (Vec.len X0 hx hZ e0 hV3 (g := (mkF m 8 #[.val (.ref res), .val (.int ci), .val (.int (3 : Int32)), .val (.int ra), .val (.ref w3)] [(.ref w3), (.int ra)])) rfl rfl (hb hby d4_8)) ?_
    show Go p e below s Q 0 0 (s₁.setTop (mkF m 9 #[.val (.ref res), .val (.int ci), .val (.int (3 : Int32)), .val (.int ra), .val (.ref w3)] [(.int l3), (.int ra)]))
    have f48 := rng32 l3
    by_cases c49 : ra.toInt < l3.toInt
    ·
      refine Go.st (fun _ k => XS.icmpNo X0.here hx rfl (hb hby d4_9) rfl (tlt (ltI rfl rfl c49)).2.1 k) ?_
      refine Go.st (fun _ k => XS.aload X0.here hx rfl (hb hby d4_12) rfl rfl k) ?_
      refine Go.st (fun _ k => XS.iloadN X0.here hx rfl (hb hby d4_14) rfl k) ?_
      have r51 : 0 ≤ ra.toInt := by omega
      have r52 : ra.toInt < l3.toInt := by omega
      refine Go.st (Vec.ildI X0 hx hZ e0 hV3 (j := ra) r51 r52 (g := (mkF m 15 #[.val (.ref res), .val (.int ci), .val (.int (3 : Int32)), .val (.int ra), .val (.ref w3)] [(.int ra), (.ref w3)])) rfl rfl (hb hby d4_15)) ?_
      show Go p e below s Q 0 0 (s₁.setTop (mkF m 16 #[.val (.ref res), .val (.int ci), .val (.int (3 : Int32)), .val (.int ra), .val (.ref w3)] [(.int (g3 ra.toInt.toNat))]))
      refine Go.st (fun _ k => XS.iloadN X0.here hx rfl (hb hby d4_16) rfl k) ?_
      have f53 := rng32 (g3 ra.toInt.toNat)
      by_cases c54 : (g3 ra.toInt.toNat).toInt = ci.toInt
      ·
        refine Go.st (fun _ k => XS.icmpNo X0.here hx rfl (hb hby d4_17) rfl (teq (eqI rfl rfl c54)).2 k) ?_
        refine Go.st (fun _ k => XS.iconst X0.here hx rfl (hb hby d4_20) k) ?_
        refine Go.st (fun _ k => XS.goto X0.here hx rfl (pc0 := 21) (pc' := 25) rfl (hb hby d4_21) (by decide) (by decide) k) ?_
        show Go p e below s Q 0 0 (s₁.setTop (mkF m 25 #[.val (.ref res), .val (.int ci), .val (.int (3 : Int32)), .val (.int ra), .val (.ref w3)] [(.int (1 : Int32))]))
        have f55 := liI_1
        exact Go.retN X0 hx hlk (by simp) Bd.returns (hb hby d4_25) (z' := (1 : Int32)) (by decide) (by rw [← hQ, e0]; exact ⟨(1 : Int32), rfl, N0, (by omega), (by omega), (by omega), (by omega), rfl⟩) (by decide) (by decide)
      ·
        refine Go.st (fun _ k => XS.icmpYes X0.here hx rfl (pc0 := 17) (pc' := 24) rfl (hb hby d4_17) rfl (feq (neI rfl rfl c54)).2 (by decide) (by decide) k) ?_
        refine Go.st (fun _ k => XS.iconst X0.here hx rfl (hb hby d4_24) k) ?_
        show Go p e below s Q 0 0 (s₁.setTop (mkF m 25 #[.val (.ref res), .val (.int ci), .val (.int (3 : Int32)), .val (.int ra), .val (.ref w3)] [(.int (0 : Int32))]))
        have f56 := liI_0
        exact Go.retN X0 hx hlk (by simp) Bd.returns (hb hby d4_25) (z' := (0 : Int32)) (by decide) (by rw [← hQ, e0]; exact ⟨(0 : Int32), rfl, N0, (by omega), (by omega), (by omega), (by omega), rfl⟩) (by decide) (by decide)
    ·
      refine Go.st (fun _ k => XS.icmpYes X0.here hx rfl (pc0 := 9) (pc' := 24) rfl (hb hby d4_9) rfl (flt (nltI rfl rfl c49)).2.1 (by decide) (by decide) k) ?_
      refine Go.st (fun _ k => XS.iconst X0.here hx rfl (hb hby d4_24) k) ?_
      show Go p e below s Q 0 0 (s₁.setTop (mkF m 25 #[.val (.ref res), .val (.int ci), .val (.int (3 : Int32)), .val (.int ra), .val (.ref w3)] [(.int (0 : Int32))]))
      have f57 := liI_0
      exact Go.retN X0 hx hlk (by simp) Bd.returns (hb hby d4_25) (z' := (0 : Int32)) (by decide) (by rw [← hQ, e0]; exact ⟨(0 : Int32), rfl, N0, (by omega), (by omega), (by omega), (by omega), rfl⟩) (by decide) (by decide)
theorem liI_2147483647 : (2147483647 : Int32).toInt = 2147483647 := by decide
theorem liI_5 : (5 : Int32).toInt = 5 := by decide
theorem pd_1 : parseMethodDescriptor "([II)[[I" = some ⟨[(.array .int), .int], some (.array (.array .int))⟩ := by decide +kernel
theorem pd_2 : parseMethodDescriptor "([IIIIIII)Z" = some ⟨[(.array .int), .int, .int, .int, .int, .int, .int], some .boolean⟩ := by decide +kernel
theorem pd_3 : parseMethodDescriptor "([[IIII)Z" = some ⟨[(.array (.array .int)), .int, .int, .int], some .boolean⟩ := by decide +kernel
theorem pd_4 : parseMethodDescriptor "(II)I" = some ⟨[.int, .int], some .int⟩ := by decide +kernel
theorem ef_rm0 (m : MethodId) (xa : Int32) (xb : Int32) (c0 : Int32) (c1 : Int32) (c2 : Int32) (c3 : Int32) : entryFrame m #[(.int xa), (.int xb), (.int c0), (.int c1), (.int c2), (.int c3)] maxLocals = mkF m 0 #[.val (.int xa), .val (.int xb), .val (.int c0), .val (.int c1), .val (.int c2), .val (.int c3), .unset, .unset, .unset, .unset, .unset, .unset, .unset, .unset] [] := by first | (simp [entryFrame, mkF, argsToLocals, Value.category, maxLocals]; done) | rfl
def Q0 (Z : State) (xa : Int32) (xb : Int32) (c0 : Int32) (c1 : Int32) (c2 : Int32) (c3 : Int32) (h0 : Heap) (n0 : Nat) (vv : Option Value) (h : Heap) (LL : List Loc) : Prop := vv = some (.int (1 : Int32)) ∧ Fr n0 LL ∧ Keep h0 h []
set_option maxRecDepth 65536 in
set_option maxHeartbeats 40000000 in
theorem rm0 (l : Launch) (Z : State) (a0 : Array Value) (hw : ∀ d ∈ tables_1, d.before a0 Z = true) (ws : List Jvm.Cond) (xa : Int32) (xb : Int32) (c0 : Int32) (c1 : Int32) (c2 : Int32) (c3 : Int32) (h0 : Heap) (n0 : Nat) (Z0 : n0 ≤ h0.size) :
    MetFree l x (head1 (Jvm.Cond.code x code maxLocals ret :: ws) room_1) (fun aa UU => aa = #[(.int xa), (.int xb), (.int c0), (.int c1), (.int c2), (.int c3)] ∧ Z.Warmed39 UU.vm ∧ UU.heap = h0) (fun _ _ _ _ _ => True) (fun _ UU oo UU' => ∃ vv LL, oo = .returned vv ∧ Q0 Z xa xb c0 c1 c2 c3 h0 n0 vv UU'.heap LL ∧ FrameEnd UU oo UU' LL 7 28) := by
  refine MetFree.of_bodySF (plainFor_of_name pn_1) hisR ?_
  intro p e s m args below meth c s₁ Bd hml0 hP hK
  obtain ⟨rfl, hZ, hh⟩ := hP
  have hx := Bd.exec
  have hby := Bd.bytes
  have hlk : meth.locks = false := BodyLoose.notSynchronized Bd
  have hml : c.maxLocals = 14 := hml0
  have hown : s.vm.findClass "com/example/rackwise/rackwise/RackCostsClientsOfRacksPinLaw" = some m.cls := findClass_of_methodNamed Bd.named
  have hnm := (name_of_methodNamed Bd.named Bd.method).1
  have X0 : Stand p l e room_1 s m #[(.int xa), (.int xb), (.int c0), (.int c1), (.int c2), (.int c3)] below meth c s₁ [] 0 0 := Stand.of_body Bd
  have e0 : s₁.heap = h0 := by rw [← hh, Bd.state]; rfl
  have N0 := Fr.nil n0
  have K0 : Keep h0 h0 [] := Keep.refl h0 _
  refine (?_ : Go p e below s (Q0 Z xa xb c0 c1 c2 c3 h0 n0) 7 28 (s₁.setTop (entryFrame m #[(.int xa), (.int xb), (.int c0), (.int c1), (.int c2), (.int c3)] maxLocals)))
  rw [ef_rm0]
  generalize hQ : Q0 Z xa xb c0 c1 c2 c3 h0 n0 = Q
  show Go p e below s Q 7 28 (s₁.setTop (mkF m 0 #[.val (.int xa), .val (.int xb), .val (.int c0), .val (.int c1), .val (.int c2), .val (.int c3), .unset, .unset, .unset, .unset, .unset, .unset, .unset, .unset] []))
  have f1 := rng32 xa
  have f2 := rng32 xb
  have f3 := rng32 c0
  have f4 := rng32 c1
  have f5 := rng32 c2
  have f6 := rng32 c3
  refine Go.st (fun _ k => XS.iloadN X0.here hx rfl (hb hby at_0) rfl k) ?_
  refine Go.st (X0.ldcInt hx hown (mvT hZ (hw _ (List.mem_of_getElem? (i := 0) rfl))) (g := (mkF m 1 #[.val (.int xa), .val (.int xb), .val (.int c0), .val (.int c1), .val (.int c2), .val (.int c3), .unset, .unset, .unset, .unset, .unset, .unset, .unset, .unset] [(.int xb)])) rfl (hb hby at_1)) ?_
  show Go p e below s Q 7 28 (s₁.setTop (mkF m 3 #[.val (.int xa), .val (.int xb), .val (.int c0), .val (.int c1), .val (.int c2), .val (.int c3), .unset, .unset, .unset, .unset, .unset, .unset, .unset, .unset] [(.int (2147483647 : Int32)), (.int xb)]))
  refine Go.st (fun _ k => XS.iand X0.here hx rfl (hb hby at_3) rfl k) ?_
  refine Go.st (fun _ k => XS.iconst X0.here hx rfl (hb hby at_4) k) ?_
  refine Go.st (fun _ k => iremM X0 hx rfl (hb hby at_5) rfl (by decide) k) ?_
  refine Go.st (fun _ k => XS.istore X0.here hx rfl (hb hby at_6) rfl (l' := #[.val (.int xa), .val (.int xb), .val (.int c0), .val (.int c1), .val (.int c2), .val (.int c3), .val (.int ((xb &&& (2147483647 : Int32)) % (5 : Int32))), .unset, .unset, .unset, .unset, .unset, .unset, .unset]) rfl k) ?_
  show Go p e below s Q 7 28 (s₁.setTop (mkF m 8 #[.val (.int xa), .val (.int xb), .val (.int c0), .val (.int c1), .val (.int c2), .val (.int c3), .val (.int ((xb &&& (2147483647 : Int32)) % (5 : Int32))), .unset, .unset, .unset, .unset, .unset, .unset, .unset] []))
  have f7 := liI_2147483647
  have f8 : (xb &&& (2147483647 : Int32)).toInt = xb.toInt % 2147483648 := c_mask xb (2147483647 : Int32) 31 (by decide) (by decide)
  have f9 := liI_5
  have f10 := c_irem (xb &&& (2147483647 : Int32)) (5 : Int32) 5 (by decide)
  have f11 := rng32 ((xb &&& (2147483647 : Int32)) % (5 : Int32))
  generalize hv_v12 : ((xb &&& (2147483647 : Int32)) % (5 : Int32)) = v12 at f10 f11 ⊢
  have cs13 : v12.toInt = 0 ∨ v12.toInt = 1 ∨ v12.toInt = 2 ∨ v12.toInt = 3 ∨ v12.toInt = 4 := by omega
  rcases cs13 with cs14 | cs15 | cs16 | cs17 | cs18
  ·
    have cs14' : v12 = (0 : Int32) := eqI cs14 liI_0 rfl
    subst cs14'
    have f19 := liI_0
    show Go p e below s Q 7 28 (s₁.setTop (mkF m 8 #[.val (.int xa), .val (.int xb), .val (.int c0), .val (.int c1), .val (.int c2), .val (.int c3), .val (.int (0 : Int32)), .unset, .unset, .unset, .unset, .unset, .unset, .unset] []))
    clear f1 f2 f3 f4 f5 f6 f7 f8 f9 f10 f11 f19
    refine Go.st (fun _ k => XS.iload X0.here hx rfl (hb hby at_8) rfl k) ?_
    refine Go.st (fun _ k => XS.ifNo X0.here hx rfl (hb hby at_10) rfl ((if0 _ _).trans (teq (eqI liI_0 liI_0 (by decide))).2) k) ?_
    refine Go.st (fun _ k => XS.iconst X0.here hx rfl (hb hby at_13) k) ?_
    refine Go.st (fun _ k => XS.goto X0.here hx rfl (pc0 := 14) (pc' := 23) rfl (hb hby at_14) (by decide) (by decide) k) ?_
    refine Go.st (fun _ k => XS.istore X0.here hx rfl (hb hby at_23) rfl (l' := #[.val (.int xa), .val (.int xb), .val (.int c0), .val (.int c1), .val (.int c2), .val (.int c3), .val (.int (0 : Int32)), .val (.int (0 : Int32)), .unset, .unset, .unset, .unset, .unset, .unset]) rfl k) ?_
    show Go p e below s Q 7 28 (s₁.setTop (mkF m 25 #[.val (.int xa), .val (.int xb), .val (.int c0), .val (.int c1), .val (.int c2), .val (.int c3), .val (.int (0 : Int32)), .val (.int (0 : Int32)), .unset, .unset, .unset, .unset, .unset, .unset] []))
    refine Go.st (fun _ k => XS.iload X0.here hx rfl (hb hby at_25) rfl k) ?_
    refine Go.st (fun _ k => XS.ifNo X0.here hx rfl (hb hby at_27) rfl ((if0 _ _).trans (teq (eqI liI_0 liI_0 (by decide))).2) k) ?_
    refine Go.st (fun _ k => XS.iconst X0.here hx rfl (hb hby at_30) k) ?_
    refine Go.st (fun _ k => XS.goto X0.here hx rfl (pc0 := 31) (pc' := 41) rfl (hb hby at_31) (by decide) (by decide) k) ?_
    refine Go.st (fun _ k => XS.istore X0.here hx rfl (hb hby at_41) rfl (l' := #[.val (.int xa), .val (.int xb), .val (.int c0), .val (.int c1), .val (.int c2), .val (.int c3), .val (.int (0 : Int32)), .val (.int (0 : Int32)), .val (.int (0 : Int32)), .unset, .unset, .unset, .unset, .unset]) rfl k) ?_
    show Go p e below s Q 7 28 (s₁.setTop (mkF m 43 #[.val (.int xa), .val (.int xb), .val (.int c0), .val (.int c1), .val (.int c2), .val (.int c3), .val (.int (0 : Int32)), .val (.int (0 : Int32)), .val (.int (0 : Int32)), .unset, .unset, .unset, .unset, .unset] []))
    refine Go.st (fun _ k => XS.iload X0.here hx rfl (hb hby at_43) rfl k) ?_
    refine Go.st (fun _ k => XS.ifNo X0.here hx rfl (hb hby at_45) rfl ((if0 _ _).trans (teq (eqI liI_0 liI_0 (by decide))).2) k) ?_
    refine Go.st (fun _ k => XS.iconst X0.here hx rfl (hb hby at_48) k) ?_
    refine Go.st (fun _ k => XS.goto X0.here hx rfl (pc0 := 49) (pc' := 59) rfl (hb hby at_49) (by decide) (by decide) k) ?_
    refine Go.st (fun _ k => XS.istore X0.here hx rfl (hb hby at_59) rfl (l' := #[.val (.int xa), .val (.int xb), .val (.int c0), .val (.int c1), .val (.int c2), .val (.int c3), .val (.int (0 : Int32)), .val (.int (0 : Int32)), .val (.int (0 : Int32)), .val (.int (0 : Int32)), .unset, .unset, .unset, .unset]) rfl k) ?_
    show Go p e below s Q 7 28 (s₁.setTop (mkF m 61 #[.val (.int xa), .val (.int xb), .val (.int c0), .val (.int c1), .val (.int c2), .val (.int c3), .val (.int (0 : Int32)), .val (.int (0 : Int32)), .val (.int (0 : Int32)), .val (.int (0 : Int32)), .unset, .unset, .unset, .unset] []))
    refine Go.st (fun _ k => XS.iload X0.here hx rfl (hb hby at_61) rfl k) ?_
    refine Go.st (fun _ k => XS.ifNo X0.here hx rfl (hb hby at_63) rfl ((if0 _ _).trans (teq (eqI liI_0 liI_0 (by decide))).2) k) ?_
    refine Go.st (fun _ k => XS.iconst X0.here hx rfl (hb hby at_66) k) ?_
    refine Go.st (fun _ k => XS.goto X0.here hx rfl (pc0 := 67) (pc' := 78) rfl (hb hby at_67) (by decide) (by decide) k) ?_
    refine Go.st (fun _ k => XS.istore X0.here hx rfl (hb hby at_78) rfl (l' := #[.val (.int xa), .val (.int xb), .val (.int c0), .val (.int c1), .val (.int c2), .val (.int c3), .val (.int (0 : Int32)), .val (.int (0 : Int32)), .val (.int (0 : Int32)), .val (.int (0 : Int32)), .val (.int (0 : Int32)), .unset, .unset, .unset]) rfl k) ?_
    show Go p e below s Q 7 28 (s₁.setTop (mkF m 80 #[.val (.int xa), .val (.int xb), .val (.int c0), .val (.int c1), .val (.int c2), .val (.int c3), .val (.int (0 : Int32)), .val (.int (0 : Int32)), .val (.int (0 : Int32)), .val (.int (0 : Int32)), .val (.int (0 : Int32)), .unset, .unset, .unset] []))
    refine Go.st (fun _ k => XS.iload X0.here hx rfl (hb hby at_80) rfl k) ?_
    refine Go.st (fun _ k => XS.ifNo X0.here hx rfl (hb hby at_82) rfl ((if0 _ _).trans (teq (eqI liI_0 liI_0 (by decide))).2) k) ?_
    refine Go.st (fun _ k => XS.iconst X0.here hx rfl (hb hby at_85) k) ?_
    refine Go.st (fun _ k => XS.goto X0.here hx rfl (pc0 := 86) (pc' := 97) rfl (hb hby at_86) (by decide) (by decide) k) ?_
    refine Go.st (fun _ k => XS.istore X0.here hx rfl (hb hby at_97) rfl (l' := #[.val (.int xa), .val (.int xb), .val (.int c0), .val (.int c1), .val (.int c2), .val (.int c3), .val (.int (0 : Int32)), .val (.int (0 : Int32)), .val (.int (0 : Int32)), .val (.int (0 : Int32)), .val (.int (0 : Int32)), .val (.int (0 : Int32)), .unset, .unset]) rfl k) ?_
    show Go p e below s Q 7 28 (s₁.setTop (mkF m 99 #[.val (.int xa), .val (.int xb), .val (.int c0), .val (.int c1), .val (.int c2), .val (.int c3), .val (.int (0 : Int32)), .val (.int (0 : Int32)), .val (.int (0 : Int32)), .val (.int (0 : Int32)), .val (.int (0 : Int32)), .val (.int (0 : Int32)), .unset, .unset] []))
    refine Go.st (fun _ k => XS.iload X0.here hx rfl (hb hby at_99) rfl k) ?_
    have f21 := liI_0
    have r22 : 0 ≤ (0 : Int32).toInt := by decide
    have r23 : (0 : Int32).toNatClampNeg ≤ 0 := by decide
    obtain ⟨T20, h20, k20, X20, e20, E20, A20, B20, st20⟩ := newPE X0 hx hZ (hw _ (List.mem_of_getElem? (i := 1) rfl)) e0 (g := (mkF m 101 #[.val (.int xa), .val (.int xb), .val (.int c0), .val (.int c1), .val (.int c2), .val (.int c3), .val (.int (0 : Int32)), .val (.int (0 : Int32)), .val (.int (0 : Int32)), .val (.int (0 : Int32)), .val (.int (0 : Int32)), .val (.int (0 : Int32)), .unset, .unset] [(.int (0 : Int32))])) rfl (hb hby at_101) rfl (not_neg r22) (cap := 0) r23 (by decide) (by decide) (by decide) (ad := "[I") (by decide)
    obtain ⟨b20, g20⟩ : ∃ z, z = h0.size := ⟨_, rfl⟩
    rw [← g20] at A20 B20 st20
    have Gb20 : Hid (n0 ≤ b20) := Nat.le_trans (Nat.le_trans Z0 K0.1) (Nat.le_of_eq g20.symm)
    have szb20 : Hid (h0.size ≤ b20) := Nat.le_trans K0.1 (Nat.le_of_eq g20.symm)
    have K20 : Keep h0 h20 [] := K0.ext E20
    have h24 : Vec Z h20 b20 .int (0 : Int32) (ints (fun _ => (0 : Int32))) := Vec.new A20 r22
    refine Go.st st20 ?_
    show Go p e below s Q 7 28 (T20.setTop (mkF m 103 #[.val (.int xa), .val (.int xb), .val (.int c0), .val (.int c1), .val (.int c2), .val (.int c3), .val (.int (0 : Int32)), .val (.int (0 : Int32)), .val (.int (0 : Int32)), .val (.int (0 : Int32)), .val (.int (0 : Int32)), .val (.int (0 : Int32)), .unset, .unset] [(.ref b20)]))
    refine Go.st (fun _ k => XS.astore X20.here hx rfl (hb hby at_103) rfl rfl (l' := #[.val (.int xa), .val (.int xb), .val (.int c0), .val (.int c1), .val (.int c2), .val (.int c3), .val (.int (0 : Int32)), .val (.int (0 : Int32)), .val (.int (0 : Int32)), .val (.int (0 : Int32)), .val (.int (0 : Int32)), .val (.int (0 : Int32)), .val (.ref b20), .unset]) rfl k) ?_
    show Go p e below s Q 7 28 (T20.setTop (mkF m 105 #[.val (.int xa), .val (.int xb), .val (.int c0), .val (.int c1), .val (.int c2), .val (.int c3), .val (.int (0 : Int32)), .val (.int (0 : Int32)), .val (.int (0 : Int32)), .val (.int (0 : Int32)), .val (.int (0 : Int32)), .val (.int (0 : Int32)), .val (.ref b20), .unset] []))
    refine Go.st (fun _ k => XS.iload X20.here hx rfl (hb hby at_105) rfl k) ?_
    refine Go.st (fun _ k => XS.ifYes X20.here hx rfl (pc0 := 107) (pc' := 116) rfl (hb hby at_107) rfl ((if0 _ _).trans (flt (nltI liI_0 liI_0 (by decide))).2.2.2) (by decide) (by decide) k) ?_
    refine Go.st (fun _ k => XS.iload X20.here hx rfl (hb hby at_116) rfl k) ?_
    refine Go.st (fun _ k => XS.iconst X20.here hx rfl (hb hby at_118) k) ?_
    refine Go.st (fun _ k => XS.icmpYes X20.here hx rfl (pc0 := 119) (pc' := 128) rfl (hb hby at_119) rfl (flt (nltI liI_1 liI_0 (by decide))).2.2.2 (by decide) (by decide) k) ?_
    refine Go.st (fun _ k => XS.iload X20.here hx rfl (hb hby at_128) rfl k) ?_
    show Go p e below s Q 7 28 (T20.setTop (mkF m 130 #[.val (.int xa), .val (.int xb), .val (.int c0), .val (.int c1), .val (.int c2), .val (.int c3), .val (.int (0 : Int32)), .val (.int (0 : Int32)), .val (.int (0 : Int32)), .val (.int (0 : Int32)), .val (.int (0 : Int32)), .val (.int (0 : Int32)), .val (.ref b20), .unset] [(.int (0 : Int32))]))
    refine Go.st (fun _ k => XS.iconst X20.here hx rfl (hb hby at_130) k) ?_
    refine Go.st (fun _ k => XS.icmpYes X20.here hx rfl (pc0 := 131) (pc' := 140) rfl (hb hby at_131) rfl (flt (nltI liI_2 liI_0 (by decide))).2.2.2 (by decide) (by decide) k) ?_
    refine Go.st (fun _ k => XS.iload X20.here hx rfl (hb hby at_140) rfl k) ?_
    refine Go.st (fun _ k => XS.iconst X20.here hx rfl (hb hby at_142) k) ?_
    refine Go.st (fun _ k => XS.icmpYes X20.here hx rfl (pc0 := 143) (pc' := 152) rfl (hb hby at_143) rfl (flt (nltI liI_3 liI_0 (by decide))).2.2.2 (by decide) (by decide) k) ?_
    refine Go.st (fun _ k => XS.aload X20.here hx rfl (hb hby at_152) rfl rfl k) ?_
    show Go p e below s Q 7 28 (T20.setTop (mkF m 154 #[.val (.int xa), .val (.int xb), .val (.int c0), .val (.int c1), .val (.int c2), .val (.int c3), .val (.int (0 : Int32)), .val (.int (0 : Int32)), .val (.int (0 : Int32)), .val (.int (0 : Int32)), .val (.int (0 : Int32)), .val (.int (0 : Int32)), .val (.ref b20), .unset] [(.ref b20)]))
    refine Go.st (fun _ k => XS.iload X20.here hx rfl (hb hby at_154) rfl k) ?_
    have p26 : 0 ≤ (0 : Int32).toInt ∧ (0 : Int32).toInt ≤ 0 := by omega
    obtain ⟨_, _, ⟨T25, L25, k25, n25⟩, -, X25, ⟨Lc25, hQ25, l25, y25, z25⟩, st25⟩ := Jvm.LawKit.callS X20 hx (y := (⟨"com/example/rackwise/rackwise/RackCosts", "clientsOfRacks", "([II)[[I"⟩ : MethodName)) hown (mvT hZ (hw _ (List.mem_of_getElem? (i := 2) rfl))) (mvT hZ (hw _ (List.mem_of_getElem? (i := 3) rfl))) (mvT hZ (hw _ (List.mem_of_getElem? (i := 4) rfl))) (mvT hZ (hw _ (List.mem_of_getElem? (i := 5) rfl))) (by decide) (backOf (W := 0) (rmc0 l Z a0 hw [] b20 (0 : Int32) (fun _ => (0 : Int32)) h20 n0 (Nat.le_trans Z0 K20.1) h24 p26 (fun j hj => absurd hj (by omega))) hZ (hw _ (List.mem_of_getElem? (i := 5) rfl)) (hw _ (List.mem_of_getElem? (i := 4) rfl)) (by decide) (by decide)) (g := (mkF m 156 #[.val (.int xa), .val (.int xb), .val (.int c0), .val (.int c1), .val (.int c2), .val (.int c3), .val (.int (0 : Int32)), .val (.int (0 : Int32)), .val (.int (0 : Int32)), .val (.int (0 : Int32)), .val (.int (0 : Int32)), .val (.int (0 : Int32)), .val (.ref b20), .unset] [(.int (0 : Int32)), (.ref b20)])) rfl (by rw [hml]; rfl) (argsL := [(.ref b20), (.int (0 : Int32))]) (rest := []) (lenOf pd_1 rfl) rfl (by show 2 * 0 + _ ≤ _; exact Nat.le_of_eq rfl) (hb hby at_156) (fun _ _ => ⟨rfl, e20, (by decide : 1 + 2 ≤ _), (by decide : 0 + 0 ≤ _)⟩)
    dsimp only [Pt.U, Pt.locs, Pt.cells, Pt.slots] at X25 l25 y25 z25 st25 hQ25
    subst l25 y25 z25
    obtain ⟨res_27, rfl, N25q, K25q, h28⟩ := hQ25
    have N25 := Fr.app N0 N25q
    have h29 : Exa Z T25.heap b20 "[I" := B20.keep K25q
    have h30 : Vec Z T25.heap b20 .int (0 : Int32) (ints (fun _ => (0 : Int32))) := h24.keep K25q nin0
    have K25 : Keep h0 T25.heap [] := K20.trans K25q (fun x hx => (show ∀ x ∈ ([] : List Addr), x ∈ ([] : List Addr) ∨ h0.size ≤ x from all0) x hx)
    refine Go.st st25 ?_
    show Go p e below s Q 7 28 (T25.setTop (mkF m 159 #[.val (.int xa), .val (.int xb), .val (.int c0), .val (.int c1), .val (.int c2), .val (.int c3), .val (.int (0 : Int32)), .val (.int (0 : Int32)), .val (.int (0 : Int32)), .val (.int (0 : Int32)), .val (.int (0 : Int32)), .val (.int (0 : Int32)), .val (.ref b20), .unset] [(.ref res_27)]))
    refine Go.st (fun _ k => XS.astore X25.here hx rfl (hb hby at_159) rfl rfl (l' := #[.val (.int xa), .val (.int xb), .val (.int c0), .val (.int c1), .val (.int c2), .val (.int c3), .val (.int (0 : Int32)), .val (.int (0 : Int32)), .val (.int (0 : Int32)), .val (.int (0 : Int32)), .val (.int (0 : Int32)), .val (.int (0 : Int32)), .val (.ref b20), .val (.ref res_27)]) rfl k) ?_
    refine Go.st (fun _ k => XS.aload X25.here hx rfl (hb hby at_161) rfl rfl k) ?_
    refine Go.st (fun _ k => XS.ifnullNo X25.here hx rfl (hb hby at_163) rfl k) ?_
    refine Go.st (fun _ k => XS.aload X25.here hx rfl (hb hby at_166) rfl rfl k) ?_
    refine Go.st (RV.len X25 hx hZ rfl h28 (g := (mkF m 168 #[.val (.int xa), .val (.int xb), .val (.int c0), .val (.int c1), .val (.int c2), .val (.int c3), .val (.int (0 : Int32)), .val (.int (0 : Int32)), .val (.int (0 : Int32)), .val (.int (0 : Int32)), .val (.int (0 : Int32)), .val (.int (0 : Int32)), .val (.ref b20), .val (.ref res_27)] [(.ref res_27)])) rfl rfl (hb hby at_168)) ?_
    show Go p e below s Q 7 28 (T25.setTop (mkF m 169 #[.val (.int xa), .val (.int xb), .val (.int c0), .val (.int c1), .val (.int c2), .val (.int c3), .val (.int (0 : Int32)), .val (.int (0 : Int32)), .val (.int (0 : Int32)), .val (.int (0 : Int32)), .val (.int (0 : Int32)), .val (.int (0 : Int32)), .val (.ref b20), .val (.ref res_27)] [(.int (0 : Int32))]))
    refine Go.st (fun _ k => XS.iload X25.here hx rfl (hb hby at_169) rfl k) ?_
    refine Go.st (fun _ k => XS.icmpYes X25.here hx rfl (pc0 := 171) (pc' := 176) rfl (hb hby at_171) rfl (teq (eqI liI_0 liI_0 (by decide))).1 (by decide) (by decide) k) ?_
    refine Go.st (fun _ k => XS.iload X25.here hx rfl (hb hby at_176) rfl k) ?_
    refine Go.st (fun _ k => XS.ifYes X25.here hx rfl (pc0 := 178) (pc' := 204) rfl (hb hby at_178) rfl ((if0 _ _).trans (flt (nltI liI_0 liI_0 (by decide))).2.2.2) (by decide) (by decide) k) ?_
    refine Go.st (fun _ k => XS.iload X25.here hx rfl (hb hby at_204) rfl k) ?_
    refine Go.st (fun _ k => XS.iconst X25.here hx rfl (hb hby at_206) k) ?_
    show Go p e below s Q 7 28 (T25.setTop (mkF m 207 #[.val (.int xa), .val (.int xb), .val (.int c0), .val (.int c1), .val (.int c2), .val (.int c3), .val (.int (0 : Int32)), .val (.int (0 : Int32)), .val (.int (0 : Int32)), .val (.int (0 : Int32)), .val (.int (0 : Int32)), .val (.int (0 : Int32)), .val (.ref b20), .val (.ref res_27)] [(.int (1 : Int32)), (.int (0 : Int32))]))
    refine Go.st (fun _ k => XS.icmpYes X25.here hx rfl (pc0 := 207) (pc' := 233) rfl (hb hby at_207) rfl (flt (nltI liI_1 liI_0 (by decide))).2.2.2 (by decide) (by decide) k) ?_
    refine Go.st (fun _ k => XS.iload X25.here hx rfl (hb hby at_233) rfl k) ?_
    refine Go.st (fun _ k => XS.iconst X25.here hx rfl (hb hby at_235) k) ?_
    refine Go.st (fun _ k => XS.icmpYes X25.here hx rfl (pc0 := 236) (pc' := 262) rfl (hb hby at_236) rfl (flt (nltI liI_2 liI_0 (by decide))).2.2.2 (by decide) (by decide) k) ?_
    refine Go.st (fun _ k => XS.iload X25.here hx rfl (hb hby at_262) rfl k) ?_
    refine Go.st (fun _ k => XS.iconst X25.here hx rfl (hb hby at_264) k) ?_
    show Go p e below s Q 7 28 (T25.setTop (mkF m 265 #[.val (.int xa), .val (.int xb), .val (.int c0), .val (.int c1), .val (.int c2), .val (.int c3), .val (.int (0 : Int32)), .val (.int (0 : Int32)), .val (.int (0 : Int32)), .val (.int (0 : Int32)), .val (.int (0 : Int32)), .val (.int (0 : Int32)), .val (.ref b20), .val (.ref res_27)] [(.int (3 : Int32)), (.int (0 : Int32))]))
    refine Go.st (fun _ k => XS.icmpYes X25.here hx rfl (pc0 := 265) (pc' := 291) rfl (hb hby at_265) rfl (flt (nltI liI_3 liI_0 (by decide))).2.2.2 (by decide) (by decide) k) ?_
    show Go p e below s Q 7 28 (T25.setTop (mkF m 291 #[.val (.int xa), .val (.int xb), .val (.int c0), .val (.int c1), .val (.int c2), .val (.int c3), .val (.int (0 : Int32)), .val (.int (0 : Int32)), .val (.int (0 : Int32)), .val (.int (0 : Int32)), .val (.int (0 : Int32)), .val (.int (0 : Int32)), .val (.ref b20), .val (.ref res_27)] []))
    refine Go.st (fun _ k => XS.iload X25.here hx rfl (hb hby at_291) rfl k) ?_
    refine Go.st (fun _ k => XS.ifYes X25.here hx rfl (pc0 := 293) (pc' := 310) rfl (hb hby at_293) rfl ((if0 _ _).trans (flt (nltI liI_0 liI_0 (by decide))).2.2.2) (by decide) (by decide) k) ?_
    show Go p e below s Q 7 28 (T25.setTop (mkF m 310 #[.val (.int xa), .val (.int xb), .val (.int c0), .val (.int c1), .val (.int c2), .val (.int c3), .val (.int (0 : Int32)), .val (.int (0 : Int32)), .val (.int (0 : Int32)), .val (.int (0 : Int32)), .val (.int (0 : Int32)), .val (.int (0 : Int32)), .val (.ref b20), .val (.ref res_27)] []))
    refine Go.st (fun _ k => XS.iload X25.here hx rfl (hb hby at_310) rfl k) ?_
    refine Go.st (fun _ k => XS.iconst X25.here hx rfl (hb hby at_312) k) ?_
    refine Go.st (fun _ k => XS.icmpYes X25.here hx rfl (pc0 := 313) (pc' := 336) rfl (hb hby at_313) rfl (flt (nltI liI_1 liI_0 (by decide))).2.2.2 (by decide) (by decide) k) ?_
    show Go p e below s Q 7 28 (T25.setTop (mkF m 336 #[.val (.int xa), .val (.int xb), .val (.int c0), .val (.int c1), .val (.int c2), .val (.int c3), .val (.int (0 : Int32)), .val (.int (0 : Int32)), .val (.int (0 : Int32)), .val (.int (0 : Int32)), .val (.int (0 : Int32)), .val (.int (0 : Int32)), .val (.ref b20), .val (.ref res_27)] []))
    refine Go.st (fun _ k => XS.iload X25.here hx rfl (hb hby at_336) rfl k) ?_
    refine Go.st (fun _ k => XS.iconst X25.here hx rfl (hb hby at_338) k) ?_
    refine Go.st (fun _ k => XS.icmpYes X25.here hx rfl (pc0 := 339) (pc' := 370) rfl (hb hby at_339) rfl (flt (nltI liI_2 liI_0 (by decide))).2.2.2 (by decide) (by decide) k) ?_
    show Go p e below s Q 7 28 (T25.setTop (mkF m 370 #[.val (.int xa), .val (.int xb), .val (.int c0), .val (.int c1), .val (.int c2), .val (.int c3), .val (.int (0 : Int32)), .val (.int (0 : Int32)), .val (.int (0 : Int32)), .val (.int (0 : Int32)), .val (.int (0 : Int32)), .val (.int (0 : Int32)), .val (.ref b20), .val (.ref res_27)] []))
    refine Go.st (fun _ k => XS.iload X25.here hx rfl (hb hby at_370) rfl k) ?_
    refine Go.st (fun _ k => XS.iconst X25.here hx rfl (hb hby at_372) k) ?_
    refine Go.st (fun _ k => XS.icmpYes X25.here hx rfl (pc0 := 373) (pc' := 412) rfl (hb hby at_373) rfl (flt (nltI liI_3 liI_0 (by decide))).2.2.2 (by decide) (by decide) k) ?_
    refine Go.st (fun _ k => XS.iconst X25.here hx rfl (hb hby at_412) k) ?_
    show Go p e below s Q 7 28 (T25.setTop (mkF m 413 #[.val (.int xa), .val (.int xb), .val (.int c0), .val (.int c1), .val (.int c2), .val (.int c3), .val (.int (0 : Int32)), .val (.int (0 : Int32)), .val (.int (0 : Int32)), .val (.int (0 : Int32)), .val (.int (0 : Int32)), .val (.int (0 : Int32)), .val (.ref b20), .val (.ref res_27)] [(.int (1 : Int32))]))
    have f32 := liI_1
    exact Go.retN X25 hx hlk (by simp) Bd.returns (hb hby at_413) (z' := (1 : Int32)) (by decide) (by rw [← hQ]; exact ⟨rfl, N25, K25⟩) (by decide) (by decide)
  ·
    have cs15' : v12 = (1 : Int32) := eqI cs15 liI_1 rfl
    subst cs15'
    have f33 := liI_1
    show Go p e below s Q 7 28 (s₁.setTop (mkF m 8 #[.val (.int xa), .val (.int xb), .val (.int c0), .val (.int c1), .val (.int c2), .val (.int c3), .val (.int (1 : Int32)), .unset, .unset, .unset, .unset, .unset, .unset, .unset] []))
    clear f1 f2 f3 f4 f5 f6 f7 f8 f9 f10 f11 f33
    refine Go.st (fun _ k => XS.iload X0.here hx rfl (hb hby at_8) rfl k) ?_
    refine Go.st (fun _ k => XS.ifYes X0.here hx rfl (pc0 := 10) (pc' := 17) rfl (hb hby at_10) rfl ((if0 _ _).trans (feq (neI liI_1 liI_0 (by decide))).2) (by decide) (by decide) k) ?_
    refine Go.st (fun _ k => XS.iloadN X0.here hx rfl (hb hby at_17) rfl k) ?_
    refine Go.st (X0.ldcInt hx hown (mvT hZ (hw _ (List.mem_of_getElem? (i := 0) rfl))) (g := (mkF m 18 #[.val (.int xa), .val (.int xb), .val (.int c0), .val (.int c1), .val (.int c2), .val (.int c3), .val (.int (1 : Int32)), .unset, .unset, .unset, .unset, .unset, .unset, .unset] [(.int xa)])) rfl (hb hby at_18)) ?_
    show Go p e below s Q 7 28 (s₁.setTop (mkF m 20 #[.val (.int xa), .val (.int xb), .val (.int c0), .val (.int c1), .val (.int c2), .val (.int c3), .val (.int (1 : Int32)), .unset, .unset, .unset, .unset, .unset, .unset, .unset] [(.int (2147483647 : Int32)), (.int xa)]))
    refine Go.st (fun _ k => XS.iand X0.here hx rfl (hb hby at_20) rfl k) ?_
    refine Go.st (fun _ k => XS.iconst X0.here hx rfl (hb hby at_21) k) ?_
    refine Go.st (fun _ k => iremM X0 hx rfl (hb hby at_22) rfl (by decide) k) ?_
    refine Go.st (fun _ k => XS.istore X0.here hx rfl (hb hby at_23) rfl (l' := #[.val (.int xa), .val (.int xb), .val (.int c0), .val (.int c1), .val (.int c2), .val (.int c3), .val (.int (1 : Int32)), .val (.int ((xa &&& (2147483647 : Int32)) % (5 : Int32))), .unset, .unset, .unset, .unset, .unset, .unset]) rfl k) ?_
    show Go p e below s Q 7 28 (s₁.setTop (mkF m 25 #[.val (.int xa), .val (.int xb), .val (.int c0), .val (.int c1), .val (.int c2), .val (.int c3), .val (.int (1 : Int32)), .val (.int ((xa &&& (2147483647 : Int32)) % (5 : Int32))), .unset, .unset, .unset, .unset, .unset, .unset] []))
    have f34 := rng32 xa
    have f35 := liI_2147483647
    have f36 : (xa &&& (2147483647 : Int32)).toInt = xa.toInt % 2147483648 := c_mask xa (2147483647 : Int32) 31 (by decide) (by decide)
    have f37 := liI_5
    have f38 := c_irem (xa &&& (2147483647 : Int32)) (5 : Int32) 5 (by decide)
    have f39 := rng32 ((xa &&& (2147483647 : Int32)) % (5 : Int32))
    generalize hv_v40 : ((xa &&& (2147483647 : Int32)) % (5 : Int32)) = v40 at f38 f39 ⊢
    have f41 : 0 ≤ v40.toInt ∧ v40.toInt < 5 := by omega
    clear f34 f35 f36 f37 f38 f39
    have f42 := rng32 v40
    refine Go.st (fun _ k => XS.iload X0.here hx rfl (hb hby at_25) rfl k) ?_
    refine Go.st (fun _ k => XS.ifYes X0.here hx rfl (pc0 := 27) (pc' := 34) rfl (hb hby at_27) rfl ((if0 _ _).trans (feq (neI liI_1 liI_0 (by decide))).2) (by decide) (by decide) k) ?_
    refine Go.st (fun _ k => XS.iloadN X0.here hx rfl (hb hby at_34) rfl k) ?_
    refine Go.st (X0.ldcInt hx hown (mvT hZ (hw _ (List.mem_of_getElem? (i := 0) rfl))) (g := (mkF m 35 #[.val (.int xa), .val (.int xb), .val (.int c0), .val (.int c1), .val (.int c2), .val (.int c3), .val (.int (1 : Int32)), .val (.int v40), .unset, .unset, .unset, .unset, .unset, .unset] [(.int c0)])) rfl (hb hby at_35)) ?_
    show Go p e below s Q 7 28 (s₁.setTop (mkF m 37 #[.val (.int xa), .val (.int xb), .val (.int c0), .val (.int c1), .val (.int c2), .val (.int c3), .val (.int (1 : Int32)), .val (.int v40), .unset, .unset, .unset, .unset, .unset, .unset] [(.int (2147483647 : Int32)), (.int c0)]))
    refine Go.st (fun _ k => XS.iand X0.here hx rfl (hb hby at_37) rfl k) ?_
    refine Go.st (fun _ k => XS.iload X0.here hx rfl (hb hby at_38) rfl k) ?_
    refine Go.st (fun _ k => iremM X0 hx rfl (hb hby at_40) rfl (by decide) k) ?_
    refine Go.st (fun _ k => XS.istore X0.here hx rfl (hb hby at_41) rfl (l' := #[.val (.int xa), .val (.int xb), .val (.int c0), .val (.int c1), .val (.int c2), .val (.int c3), .val (.int (1 : Int32)), .val (.int v40), .val (.int ((c0 &&& (2147483647 : Int32)) % (1 : Int32))), .unset, .unset, .unset, .unset, .unset]) rfl k) ?_
    show Go p e below s Q 7 28 (s₁.setTop (mkF m 43 #[.val (.int xa), .val (.int xb), .val (.int c0), .val (.int c1), .val (.int c2), .val (.int c3), .val (.int (1 : Int32)), .val (.int v40), .val (.int ((c0 &&& (2147483647 : Int32)) % (1 : Int32))), .unset, .unset, .unset, .unset, .unset] []))
    have f43 := rng32 c0
    have f44 := liI_2147483647
    have f45 : (c0 &&& (2147483647 : Int32)).toInt = c0.toInt % 2147483648 := c_mask c0 (2147483647 : Int32) 31 (by decide) (by decide)
    have f46 := liI_1
    have f47 := c_irem (c0 &&& (2147483647 : Int32)) (1 : Int32) 1 (by decide)
    have f48 := rng32 ((c0 &&& (2147483647 : Int32)) % (1 : Int32))
    generalize hv_v49 : ((c0 &&& (2147483647 : Int32)) % (1 : Int32)) = v49 at f47 f48 ⊢
    have f50 : 0 ≤ v49.toInt ∧ v49.toInt < 1 := by omega
    clear f42 f43 f44 f45 f46 f47 f48
    have f51 := rng32 v49
    refine Go.st (fun _ k => XS.iload X0.here hx rfl (hb hby at_43) rfl k) ?_
    refine Go.st (fun _ k => XS.ifYes X0.here hx rfl (pc0 := 45) (pc' := 52) rfl (hb hby at_45) rfl ((if0 _ _).trans (feq (neI liI_1 liI_0 (by decide))).2) (by decide) (by decide) k) ?_
    refine Go.st (fun _ k => XS.iloadN X0.here hx rfl (hb hby at_52) rfl k) ?_
    refine Go.st (X0.ldcInt hx hown (mvT hZ (hw _ (List.mem_of_getElem? (i := 0) rfl))) (g := (mkF m 53 #[.val (.int xa), .val (.int xb), .val (.int c0), .val (.int c1), .val (.int c2), .val (.int c3), .val (.int (1 : Int32)), .val (.int v40), .val (.int v49), .unset, .unset, .unset, .unset, .unset] [(.int c1)])) rfl (hb hby at_53)) ?_
    show Go p e below s Q 7 28 (s₁.setTop (mkF m 55 #[.val (.int xa), .val (.int xb), .val (.int c0), .val (.int c1), .val (.int c2), .val (.int c3), .val (.int (1 : Int32)), .val (.int v40), .val (.int v49), .unset, .unset, .unset, .unset, .unset] [(.int (2147483647 : Int32)), (.int c1)]))
    refine Go.st (fun _ k => XS.iand X0.here hx rfl (hb hby at_55) rfl k) ?_
    refine Go.st (fun _ k => XS.iload X0.here hx rfl (hb hby at_56) rfl k) ?_
    refine Go.st (fun _ k => iremM X0 hx rfl (hb hby at_58) rfl (by decide) k) ?_
    refine Go.st (fun _ k => XS.istore X0.here hx rfl (hb hby at_59) rfl (l' := #[.val (.int xa), .val (.int xb), .val (.int c0), .val (.int c1), .val (.int c2), .val (.int c3), .val (.int (1 : Int32)), .val (.int v40), .val (.int v49), .val (.int ((c1 &&& (2147483647 : Int32)) % (1 : Int32))), .unset, .unset, .unset, .unset]) rfl k) ?_
    show Go p e below s Q 7 28 (s₁.setTop (mkF m 61 #[.val (.int xa), .val (.int xb), .val (.int c0), .val (.int c1), .val (.int c2), .val (.int c3), .val (.int (1 : Int32)), .val (.int v40), .val (.int v49), .val (.int ((c1 &&& (2147483647 : Int32)) % (1 : Int32))), .unset, .unset, .unset, .unset] []))
    have f52 := rng32 c1
    have f53 := liI_2147483647
    have f54 : (c1 &&& (2147483647 : Int32)).toInt = c1.toInt % 2147483648 := c_mask c1 (2147483647 : Int32) 31 (by decide) (by decide)
    have f55 := liI_1
    have f56 := c_irem (c1 &&& (2147483647 : Int32)) (1 : Int32) 1 (by decide)
    have f57 := rng32 ((c1 &&& (2147483647 : Int32)) % (1 : Int32))
    generalize hv_v58 : ((c1 &&& (2147483647 : Int32)) % (1 : Int32)) = v58 at f56 f57 ⊢
    have f59 : 0 ≤ v58.toInt ∧ v58.toInt < 1 := by omega
    clear f51 f52 f53 f54 f55 f56 f57
    have f60 := rng32 v58
    refine Go.st (fun _ k => XS.iload X0.here hx rfl (hb hby at_61) rfl k) ?_
    refine Go.st (fun _ k => XS.ifYes X0.here hx rfl (pc0 := 63) (pc' := 70) rfl (hb hby at_63) rfl ((if0 _ _).trans (feq (neI liI_1 liI_0 (by decide))).2) (by decide) (by decide) k) ?_
    refine Go.st (fun _ k => XS.iload X0.here hx rfl (hb hby at_70) rfl k) ?_
    refine Go.st (X0.ldcInt hx hown (mvT hZ (hw _ (List.mem_of_getElem? (i := 0) rfl))) (g := (mkF m 72 #[.val (.int xa), .val (.int xb), .val (.int c0), .val (.int c1), .val (.int c2), .val (.int c3), .val (.int (1 : Int32)), .val (.int v40), .val (.int v49), .val (.int v58), .unset, .unset, .unset, .unset] [(.int c2)])) rfl (hb hby at_72)) ?_
    show Go p e below s Q 7 28 (s₁.setTop (mkF m 74 #[.val (.int xa), .val (.int xb), .val (.int c0), .val (.int c1), .val (.int c2), .val (.int c3), .val (.int (1 : Int32)), .val (.int v40), .val (.int v49), .val (.int v58), .unset, .unset, .unset, .unset] [(.int (2147483647 : Int32)), (.int c2)]))
    refine Go.st (fun _ k => XS.iand X0.here hx rfl (hb hby at_74) rfl k) ?_
    refine Go.st (fun _ k => XS.iload X0.here hx rfl (hb hby at_75) rfl k) ?_
    refine Go.st (fun _ k => iremM X0 hx rfl (hb hby at_77) rfl (by decide) k) ?_
    refine Go.st (fun _ k => XS.istore X0.here hx rfl (hb hby at_78) rfl (l' := #[.val (.int xa), .val (.int xb), .val (.int c0), .val (.int c1), .val (.int c2), .val (.int c3), .val (.int (1 : Int32)), .val (.int v40), .val (.int v49), .val (.int v58), .val (.int ((c2 &&& (2147483647 : Int32)) % (1 : Int32))), .unset, .unset, .unset]) rfl k) ?_
    show Go p e below s Q 7 28 (s₁.setTop (mkF m 80 #[.val (.int xa), .val (.int xb), .val (.int c0), .val (.int c1), .val (.int c2), .val (.int c3), .val (.int (1 : Int32)), .val (.int v40), .val (.int v49), .val (.int v58), .val (.int ((c2 &&& (2147483647 : Int32)) % (1 : Int32))), .unset, .unset, .unset] []))
    have f61 := rng32 c2
    have f62 := liI_2147483647
    have f63 : (c2 &&& (2147483647 : Int32)).toInt = c2.toInt % 2147483648 := c_mask c2 (2147483647 : Int32) 31 (by decide) (by decide)
    have f64 := liI_1
    have f65 := c_irem (c2 &&& (2147483647 : Int32)) (1 : Int32) 1 (by decide)
    have f66 := rng32 ((c2 &&& (2147483647 : Int32)) % (1 : Int32))
    generalize hv_v67 : ((c2 &&& (2147483647 : Int32)) % (1 : Int32)) = v67 at f65 f66 ⊢
    have f68 : 0 ≤ v67.toInt ∧ v67.toInt < 1 := by omega
    clear f60 f61 f62 f63 f64 f65 f66
    have f69 := rng32 v67
    refine Go.st (fun _ k => XS.iload X0.here hx rfl (hb hby at_80) rfl k) ?_
    refine Go.st (fun _ k => XS.ifYes X0.here hx rfl (pc0 := 82) (pc' := 89) rfl (hb hby at_82) rfl ((if0 _ _).trans (feq (neI liI_1 liI_0 (by decide))).2) (by decide) (by decide) k) ?_
    refine Go.st (fun _ k => XS.iload X0.here hx rfl (hb hby at_89) rfl k) ?_
    refine Go.st (X0.ldcInt hx hown (mvT hZ (hw _ (List.mem_of_getElem? (i := 0) rfl))) (g := (mkF m 91 #[.val (.int xa), .val (.int xb), .val (.int c0), .val (.int c1), .val (.int c2), .val (.int c3), .val (.int (1 : Int32)), .val (.int v40), .val (.int v49), .val (.int v58), .val (.int v67), .unset, .unset, .unset] [(.int c3)])) rfl (hb hby at_91)) ?_
    show Go p e below s Q 7 28 (s₁.setTop (mkF m 93 #[.val (.int xa), .val (.int xb), .val (.int c0), .val (.int c1), .val (.int c2), .val (.int c3), .val (.int (1 : Int32)), .val (.int v40), .val (.int v49), .val (.int v58), .val (.int v67), .unset, .unset, .unset] [(.int (2147483647 : Int32)), (.int c3)]))
    refine Go.st (fun _ k => XS.iand X0.here hx rfl (hb hby at_93) rfl k) ?_
    refine Go.st (fun _ k => XS.iload X0.here hx rfl (hb hby at_94) rfl k) ?_
    refine Go.st (fun _ k => iremM X0 hx rfl (hb hby at_96) rfl (by decide) k) ?_
    refine Go.st (fun _ k => XS.istore X0.here hx rfl (hb hby at_97) rfl (l' := #[.val (.int xa), .val (.int xb), .val (.int c0), .val (.int c1), .val (.int c2), .val (.int c3), .val (.int (1 : Int32)), .val (.int v40), .val (.int v49), .val (.int v58), .val (.int v67), .val (.int ((c3 &&& (2147483647 : Int32)) % (1 : Int32))), .unset, .unset]) rfl k) ?_
    show Go p e below s Q 7 28 (s₁.setTop (mkF m 99 #[.val (.int xa), .val (.int xb), .val (.int c0), .val (.int c1), .val (.int c2), .val (.int c3), .val (.int (1 : Int32)), .val (.int v40), .val (.int v49), .val (.int v58), .val (.int v67), .val (.int ((c3 &&& (2147483647 : Int32)) % (1 : Int32))), .unset, .unset] []))
    have f70 := rng32 c3
    have f71 := liI_2147483647
    have f72 : (c3 &&& (2147483647 : Int32)).toInt = c3.toInt % 2147483648 := c_mask c3 (2147483647 : Int32) 31 (by decide) (by decide)
    have f73 := liI_1
    have f74 := c_irem (c3 &&& (2147483647 : Int32)) (1 : Int32) 1 (by decide)
    have f75 := rng32 ((c3 &&& (2147483647 : Int32)) % (1 : Int32))
    generalize hv_v76 : ((c3 &&& (2147483647 : Int32)) % (1 : Int32)) = v76 at f74 f75 ⊢
    have f77 : 0 ≤ v76.toInt ∧ v76.toInt < 1 := by omega
    clear f69 f70 f71 f72 f73 f74 f75
    have f78 := rng32 v76
    refine Go.st (fun _ k => XS.iload X0.here hx rfl (hb hby at_99) rfl k) ?_
    have f80 := rng32 v40
    have r81 : 0 ≤ v40.toInt := by omega
    have r82 : v40.toNatClampNeg ≤ 4 := by rw [nat_cl]; omega
    obtain ⟨T79, h79, k79, X79, e79, E79, A79, B79, st79⟩ := newPE X0 hx hZ (hw _ (List.mem_of_getElem? (i := 1) rfl)) e0 (g := (mkF m 101 #[.val (.int xa), .val (.int xb), .val (.int c0), .val (.int c1), .val (.int c2), .val (.int c3), .val (.int (1 : Int32)), .val (.int v40), .val (.int v49), .val (.int v58), .val (.int v67), .val (.int v76), .unset, .unset] [(.int v40)])) rfl (hb hby at_101) rfl (not_neg r81) (cap := 4) r82 (by decide) (by decide) (by decide) (ad := "[I") (by decide)
    obtain ⟨b79, g79⟩ : ∃ z, z = h0.size := ⟨_, rfl⟩
    rw [← g79] at A79 B79 st79
    have Gb79 : Hid (n0 ≤ b79) := Nat.le_trans (Nat.le_trans Z0 K0.1) (Nat.le_of_eq g79.symm)
    have szb79 : Hid (h0.size ≤ b79) := Nat.le_trans K0.1 (Nat.le_of_eq g79.symm)
    have K79 : Keep h0 h79 [] := K0.ext E79
    have h83 : Vec Z h79 b79 .int v40 (ints (fun _ => (0 : Int32))) := Vec.new A79 r81
    refine Go.st st79 ?_
    show Go p e below s Q 7 28 (T79.setTop (mkF m 103 #[.val (.int xa), .val (.int xb), .val (.int c0), .val (.int c1), .val (.int c2), .val (.int c3), .val (.int (1 : Int32)), .val (.int v40), .val (.int v49), .val (.int v58), .val (.int v67), .val (.int v76), .unset, .unset] [(.ref b79)]))
    refine Go.st (fun _ k => XS.astore X79.here hx rfl (hb hby at_103) rfl rfl (l' := #[.val (.int xa), .val (.int xb), .val (.int c0), .val (.int c1), .val (.int c2), .val (.int c3), .val (.int (1 : Int32)), .val (.int v40), .val (.int v49), .val (.int v58), .val (.int v67), .val (.int v76), .val (.ref b79), .unset]) rfl k) ?_
    show Go p e below s Q 7 28 (T79.setTop (mkF m 105 #[.val (.int xa), .val (.int xb), .val (.int c0), .val (.int c1), .val (.int c2), .val (.int c3), .val (.int (1 : Int32)), .val (.int v40), .val (.int v49), .val (.int v58), .val (.int v67), .val (.int v76), .val (.ref b79), .unset] []))
    suffices J85 : ∀ (Tg84 : State) (hg84 : Heap) (Lgg84 : List Loc) (Xg84 : Stand p l e room_1 s m #[(.int xa), (.int xb), (.int c0), (.int c1), (.int c2), (.int c3)] below meth c Tg84 Lgg84 1 4) (eg84 : Tg84.heap = hg84) (Ng84 : Fr n0 Lgg84) (Kg84 : Keep h0 hg84 []) (KK : Nat → Int32) (hfg84_0 : Exa Z hg84 b79 "[I") (hfg84_1 : Vec Z hg84 b79 .int v40 (ints KK)) (hpg84_0 : 0 < v40.toInt → KK 0 = v49) (hpg84_1 : 1 < v40.toInt → KK 1 = v58) (hpg84_2 : 2 < v40.toInt → KK 2 = v67) (hpg84_3 : 3 < v40.toInt → KK 3 = v76) (hpg84_4 : n0 ≤ b79), Go p e below s Q 7 28 (Tg84.setTop (mkF m 152 #[.val (.int xa), .val (.int xb), .val (.int c0), .val (.int c1), .val (.int c2), .val (.int c3), .val (.int (1 : Int32)), .val (.int v40), .val (.int v49), .val (.int v58), .val (.int v67), .val (.int v76), .val (.ref b79), .unset] [])) by
      refine Go.st (fun _ k => XS.iload X79.here hx rfl (hb hby at_105) rfl k) ?_
      have f86 := liI_0
      by_cases c87 : 0 < v40.toInt
      ·
        refine Go.st (fun _ k => XS.ifNo X79.here hx rfl (hb hby at_107) rfl ((if0 _ _).trans (tlt (ltI liI_0 rfl c87)).2.2.2) k) ?_
        refine Go.st (fun _ k => XS.aload X79.here hx rfl (hb hby at_110) rfl rfl k) ?_
        refine Go.st (fun _ k => XS.iconst X79.here hx rfl (hb hby at_112) k) ?_
        refine Go.st (fun _ k => XS.iload X79.here hx rfl (hb hby at_113) rfl k) ?_
        have r89 : 0 ≤ (0 : Int32).toInt := by omega
        have r90 : (0 : Int32).toInt < v40.toInt := by omega
        obtain ⟨T88, h88, X88, e88, W88, V88, st88⟩ := Vec.istI X79 hx hZ e79 h83 (j := (0 : Int32)) r89 r90 (g := (mkF m 115 #[.val (.int xa), .val (.int xb), .val (.int c0), .val (.int c1), .val (.int c2), .val (.int c3), .val (.int (1 : Int32)), .val (.int v40), .val (.int v49), .val (.int v58), .val (.int v67), .val (.int v76), .val (.ref b79), .unset] [(.int v49), (.int (0 : Int32)), (.ref b79)])) rfl rfl (hb hby at_115)
        have h91 : Exa Z h88 b79 "[I" := B79.wr W88
        have h92 : Vec Z h88 b79 .int v40 (ints (updF (fun _ => (0 : Int32)) 0 v49)) := V88
        have K88 : Keep h0 h88 [] := K79.wr W88 (Or.inr szb79)
        have N88 := Fr.snoc X88 N0 Gb79
        refine Go.st st88 ?_
        show Go p e below s Q 7 28 (T88.setTop (mkF m 116 #[.val (.int xa), .val (.int xb), .val (.int c0), .val (.int c1), .val (.int c2), .val (.int c3), .val (.int (1 : Int32)), .val (.int v40), .val (.int v49), .val (.int v58), .val (.int v67), .val (.int v76), .val (.ref b79), .unset] []))
        refine Go.st (fun _ k => XS.iload X88.here hx rfl (hb hby at_116) rfl k) ?_
        refine Go.st (fun _ k => XS.iconst X88.here hx rfl (hb hby at_118) k) ?_
        have f93 := liI_1
        by_cases c94 : 1 < v40.toInt
        ·
          refine Go.st (fun _ k => XS.icmpNo X88.here hx rfl (hb hby at_119) rfl (tlt (ltI liI_1 rfl c94)).2.2.2 k) ?_
          refine Go.st (fun _ k => XS.aload X88.here hx rfl (hb hby at_122) rfl rfl k) ?_
          refine Go.st (fun _ k => XS.iconst X88.here hx rfl (hb hby at_124) k) ?_
          refine Go.st (fun _ k => XS.iload X88.here hx rfl (hb hby at_125) rfl k) ?_
          show Go p e below s Q 7 28 (T88.setTop (mkF m 127 #[.val (.int xa), .val (.int xb), .val (.int c0), .val (.int c1), .val (.int c2), .val (.int c3), .val (.int (1 : Int32)), .val (.int v40), .val (.int v49), .val (.int v58), .val (.int v67), .val (.int v76), .val (.ref b79), .unset] [(.int v58), (.int (1 : Int32)), (.ref b79)]))
          have r96 : 0 ≤ (1 : Int32).toInt := by omega
          have r97 : (1 : Int32).toInt < v40.toInt := by omega
          obtain ⟨T95, h95, X95, e95, W95, V95, st95⟩ := Vec.istI X88 hx hZ e88 h92 (j := (1 : Int32)) r96 r97 (g := (mkF m 127 #[.val (.int xa), .val (.int xb), .val (.int c0), .val (.int c1), .val (.int c2), .val (.int c3), .val (.int (1 : Int32)), .val (.int v40), .val (.int v49), .val (.int v58), .val (.int v67), .val (.int v76), .val (.ref b79), .unset] [(.int v58), (.int (1 : Int32)), (.ref b79)])) rfl rfl (hb hby at_127)
          have h98 : Exa Z h95 b79 "[I" := h91.wr W95
          have h99 : Vec Z h95 b79 .int v40 (ints (updF (updF (fun _ => (0 : Int32)) 0 v49) 1 v58)) := V95
          have K95 : Keep h0 h95 [] := K88.wr W95 (Or.inr szb79)
          have N95 := Fr.snoc X95 N88 Gb79
          refine Go.st st95 ?_
          show Go p e below s Q 7 28 (T95.setTop (mkF m 128 #[.val (.int xa), .val (.int xb), .val (.int c0), .val (.int c1), .val (.int c2), .val (.int c3), .val (.int (1 : Int32)), .val (.int v40), .val (.int v49), .val (.int v58), .val (.int v67), .val (.int v76), .val (.ref b79), .unset] []))
          refine Go.st (fun _ k => XS.iload X95.here hx rfl (hb hby at_128) rfl k) ?_
          refine Go.st (fun _ k => XS.iconst X95.here hx rfl (hb hby at_130) k) ?_
          have f100 := liI_2
          by_cases c101 : 2 < v40.toInt
          ·
            refine Go.st (fun _ k => XS.icmpNo X95.here hx rfl (hb hby at_131) rfl (tlt (ltI liI_2 rfl c101)).2.2.2 k) ?_
            refine Go.st (fun _ k => XS.aload X95.here hx rfl (hb hby at_134) rfl rfl k) ?_
            refine Go.st (fun _ k => XS.iconst X95.here hx rfl (hb hby at_136) k) ?_
            refine Go.st (fun _ k => XS.iload X95.here hx rfl (hb hby at_137) rfl k) ?_
            show Go p e below s Q 7 28 (T95.setTop (mkF m 139 #[.val (.int xa), .val (.int xb), .val (.int c0), .val (.int c1), .val (.int c2), .val (.int c3), .val (.int (1 : Int32)), .val (.int v40), .val (.int v49), .val (.int v58), .val (.int v67), .val (.int v76), .val (.ref b79), .unset] [(.int v67), (.int (2 : Int32)), (.ref b79)]))
            have r103 : 0 ≤ (2 : Int32).toInt := by omega
            have r104 : (2 : Int32).toInt < v40.toInt := by omega
            obtain ⟨T102, h102, X102, e102, W102, V102, st102⟩ := Vec.istI X95 hx hZ e95 h99 (j := (2 : Int32)) r103 r104 (g := (mkF m 139 #[.val (.int xa), .val (.int xb), .val (.int c0), .val (.int c1), .val (.int c2), .val (.int c3), .val (.int (1 : Int32)), .val (.int v40), .val (.int v49), .val (.int v58), .val (.int v67), .val (.int v76), .val (.ref b79), .unset] [(.int v67), (.int (2 : Int32)), (.ref b79)])) rfl rfl (hb hby at_139)
            have h105 : Exa Z h102 b79 "[I" := h98.wr W102
            have h106 : Vec Z h102 b79 .int v40 (ints (updF (updF (updF (fun _ => (0 : Int32)) 0 v49) 1 v58) 2 v67)) := V102
            have K102 : Keep h0 h102 [] := K95.wr W102 (Or.inr szb79)
            have N102 := Fr.snoc X102 N95 Gb79
            refine Go.st st102 ?_
            show Go p e below s Q 7 28 (T102.setTop (mkF m 140 #[.val (.int xa), .val (.int xb), .val (.int c0), .val (.int c1), .val (.int c2), .val (.int c3), .val (.int (1 : Int32)), .val (.int v40), .val (.int v49), .val (.int v58), .val (.int v67), .val (.int v76), .val (.ref b79), .unset] []))
            refine Go.st (fun _ k => XS.iload X102.here hx rfl (hb hby at_140) rfl k) ?_
            refine Go.st (fun _ k => XS.iconst X102.here hx rfl (hb hby at_142) k) ?_
            have f107 := liI_3
            by_cases c108 : 3 < v40.toInt
            ·
              refine Go.st (fun _ k => XS.icmpNo X102.here hx rfl (hb hby at_143) rfl (tlt (ltI liI_3 rfl c108)).2.2.2 k) ?_
              refine Go.st (fun _ k => XS.aload X102.here hx rfl (hb hby at_146) rfl rfl k) ?_
              refine Go.st (fun _ k => XS.iconst X102.here hx rfl (hb hby at_148) k) ?_
              refine Go.st (fun _ k => XS.iload X102.here hx rfl (hb hby at_149) rfl k) ?_
              show Go p e below s Q 7 28 (T102.setTop (mkF m 151 #[.val (.int xa), .val (.int xb), .val (.int c0), .val (.int c1), .val (.int c2), .val (.int c3), .val (.int (1 : Int32)), .val (.int v40), .val (.int v49), .val (.int v58), .val (.int v67), .val (.int v76), .val (.ref b79), .unset] [(.int v76), (.int (3 : Int32)), (.ref b79)]))
              have r110 : 0 ≤ (3 : Int32).toInt := by omega
              have r111 : (3 : Int32).toInt < v40.toInt := by omega
              obtain ⟨T109, h109, X109, e109, W109, V109, st109⟩ := Vec.istI X102 hx hZ e102 h106 (j := (3 : Int32)) r110 r111 (g := (mkF m 151 #[.val (.int xa), .val (.int xb), .val (.int c0), .val (.int c1), .val (.int c2), .val (.int c3), .val (.int (1 : Int32)), .val (.int v40), .val (.int v49), .val (.int v58), .val (.int v67), .val (.int v76), .val (.ref b79), .unset] [(.int v76), (.int (3 : Int32)), (.ref b79)])) rfl rfl (hb hby at_151)
              have h112 : Exa Z h109 b79 "[I" := h105.wr W109
              have h113 : Vec Z h109 b79 .int v40 (ints (updF (updF (updF (updF (fun _ => (0 : Int32)) 0 v49) 1 v58) 2 v67) 3 v76)) := V109
              have K109 : Keep h0 h109 [] := K102.wr W109 (Or.inr szb79)
              have N109 := Fr.snoc X109 N102 Gb79
              refine Go.st st109 ?_
              show Go p e below s Q 7 28 (T109.setTop (mkF m 152 #[.val (.int xa), .val (.int xb), .val (.int c0), .val (.int c1), .val (.int c2), .val (.int c3), .val (.int (1 : Int32)), .val (.int v40), .val (.int v49), .val (.int v58), .val (.int v67), .val (.int v76), .val (.ref b79), .unset] []))
              have f114 := rng32 xa
              have f115 := rng32 xb
              have f116 := rng32 c0
              have f117 := rng32 c1
              have f118 := rng32 c2
              have f119 := rng32 c3
              have f120 := rng32 v49
              have f121 := rng32 v58
              have f122 := rng32 v67
              exact J85 T109 h109 _ (up X109 (by decide) (by decide)) e109 N109 K109 (updF (updF (updF (updF (fun _ => (0 : Int32)) 0 v49) 1 v58) 2 v67) 3 v76) h112 h113 (by intro h; first | rfl | omega) (by intro h; first | rfl | omega) (by intro h; first | rfl | omega) (by intro h; first | rfl | omega) Gb79
            ·
              refine Go.st (fun _ k => XS.icmpYes X102.here hx rfl (pc0 := 143) (pc' := 152) rfl (hb hby at_143) rfl (flt (nltI liI_3 rfl c108)).2.2.2 (by decide) (by decide) k) ?_
              show Go p e below s Q 7 28 (T102.setTop (mkF m 152 #[.val (.int xa), .val (.int xb), .val (.int c0), .val (.int c1), .val (.int c2), .val (.int c3), .val (.int (1 : Int32)), .val (.int v40), .val (.int v49), .val (.int v58), .val (.int v67), .val (.int v76), .val (.ref b79), .unset] []))
              have f123 := rng32 xa
              have f124 := rng32 xb
              have f125 := rng32 c0
              have f126 := rng32 c1
              have f127 := rng32 c2
              have f128 := rng32 c3
              have f129 := rng32 v49
              have f130 := rng32 v58
              have f131 := rng32 v67
              exact J85 T102 h102 _ (up X102 (by decide) (by decide)) e102 N102 K102 (updF (updF (updF (fun _ => (0 : Int32)) 0 v49) 1 v58) 2 v67) h105 h106 (by intro h; first | rfl | omega) (by intro h; first | rfl | omega) (by intro h; first | rfl | omega) (by intro h; first | rfl | omega) Gb79
          ·
            refine Go.st (fun _ k => XS.icmpYes X95.here hx rfl (pc0 := 131) (pc' := 140) rfl (hb hby at_131) rfl (flt (nltI liI_2 rfl c101)).2.2.2 (by decide) (by decide) k) ?_
            refine Go.st (fun _ k => XS.iload X95.here hx rfl (hb hby at_140) rfl k) ?_
            refine Go.st (fun _ k => XS.iconst X95.here hx rfl (hb hby at_142) k) ?_
            have f132 := liI_3
            have c133 : ¬ (3 < v40.toInt) := by omega
            refine Go.st (fun _ k => XS.icmpYes X95.here hx rfl (pc0 := 143) (pc' := 152) rfl (hb hby at_143) rfl (flt (nltI liI_3 rfl c133)).2.2.2 (by decide) (by decide) k) ?_
            show Go p e below s Q 7 28 (T95.setTop (mkF m 152 #[.val (.int xa), .val (.int xb), .val (.int c0), .val (.int c1), .val (.int c2), .val (.int c3), .val (.int (1 : Int32)), .val (.int v40), .val (.int v49), .val (.int v58), .val (.int v67), .val (.int v76), .val (.ref b79), .unset] []))
            have f134 := rng32 xa
            have f135 := rng32 xb
            have f136 := rng32 c0
            have f137 := rng32 c1
            have f138 := rng32 c2
            have f139 := rng32 c3
            have f140 := rng32 v49
            have f141 := rng32 v58
            have f142 := rng32 v67
            exact J85 T95 h95 _ (up X95 (by decide) (by decide)) e95 N95 K95 (updF (updF (fun _ => (0 : Int32)) 0 v49) 1 v58) h98 h99 (by intro h; first | rfl | omega) (by intro h; first | rfl | omega) (by intro h; first | rfl | omega) (by intro h; first | rfl | omega) Gb79
        ·
          refine Go.st (fun _ k => XS.icmpYes X88.here hx rfl (pc0 := 119) (pc' := 128) rfl (hb hby at_119) rfl (flt (nltI liI_1 rfl c94)).2.2.2 (by decide) (by decide) k) ?_
          refine Go.st (fun _ k => XS.iload X88.here hx rfl (hb hby at_128) rfl k) ?_
          refine Go.st (fun _ k => XS.iconst X88.here hx rfl (hb hby at_130) k) ?_
          have f143 := liI_2
          have c144 : ¬ (2 < v40.toInt) := by omega
          refine Go.st (fun _ k => XS.icmpYes X88.here hx rfl (pc0 := 131) (pc' := 140) rfl (hb hby at_131) rfl (flt (nltI liI_2 rfl c144)).2.2.2 (by decide) (by decide) k) ?_
          show Go p e below s Q 7 28 (T88.setTop (mkF m 140 #[.val (.int xa), .val (.int xb), .val (.int c0), .val (.int c1), .val (.int c2), .val (.int c3), .val (.int (1 : Int32)), .val (.int v40), .val (.int v49), .val (.int v58), .val (.int v67), .val (.int v76), .val (.ref b79), .unset] []))
          refine Go.st (fun _ k => XS.iload X88.here hx rfl (hb hby at_140) rfl k) ?_
          refine Go.st (fun _ k => XS.iconst X88.here hx rfl (hb hby at_142) k) ?_
          have f145 := liI_3
          have c146 : ¬ (3 < v40.toInt) := by omega
          refine Go.st (fun _ k => XS.icmpYes X88.here hx rfl (pc0 := 143) (pc' := 152) rfl (hb hby at_143) rfl (flt (nltI liI_3 rfl c146)).2.2.2 (by decide) (by decide) k) ?_
          show Go p e below s Q 7 28 (T88.setTop (mkF m 152 #[.val (.int xa), .val (.int xb), .val (.int c0), .val (.int c1), .val (.int c2), .val (.int c3), .val (.int (1 : Int32)), .val (.int v40), .val (.int v49), .val (.int v58), .val (.int v67), .val (.int v76), .val (.ref b79), .unset] []))
          have f147 := rng32 xa
          have f148 := rng32 xb
          have f149 := rng32 c0
          have f150 := rng32 c1
          have f151 := rng32 c2
          have f152 := rng32 c3
          have f153 := rng32 v49
          have f154 := rng32 v58
          have f155 := rng32 v67
          exact J85 T88 h88 _ (up X88 (by decide) (by decide)) e88 N88 K88 (updF (fun _ => (0 : Int32)) 0 v49) h91 h92 (by intro h; first | rfl | omega) (by intro h; first | rfl | omega) (by intro h; first | rfl | omega) (by intro h; first | rfl | omega) Gb79
      ·
        refine Go.st (fun _ k => XS.ifYes X79.here hx rfl (pc0 := 107) (pc' := 116) rfl (hb hby at_107) rfl ((if0 _ _).trans (flt (nltI liI_0 rfl c87)).2.2.2) (by decide) (by decide) k) ?_
        refine Go.st (fun _ k => XS.iload X79.here hx rfl (hb hby at_116) rfl k) ?_
        refine Go.st (fun _ k => XS.iconst X79.here hx rfl (hb hby at_118) k) ?_
        have f156 := liI_1
        have c157 : ¬ (1 < v40.toInt) := by omega
        refine Go.st (fun _ k => XS.icmpYes X79.here hx rfl (pc0 := 119) (pc' := 128) rfl (hb hby at_119) rfl (flt (nltI liI_1 rfl c157)).2.2.2 (by decide) (by decide) k) ?_
        refine Go.st (fun _ k => XS.iload X79.here hx rfl (hb hby at_128) rfl k) ?_
        show Go p e below s Q 7 28 (T79.setTop (mkF m 130 #[.val (.int xa), .val (.int xb), .val (.int c0), .val (.int c1), .val (.int c2), .val (.int c3), .val (.int (1 : Int32)), .val (.int v40), .val (.int v49), .val (.int v58), .val (.int v67), .val (.int v76), .val (.ref b79), .unset] [(.int v40)]))
        refine Go.st (fun _ k => XS.iconst X79.here hx rfl (hb hby at_130) k) ?_
        have f158 := liI_2
        have c159 : ¬ (2 < v40.toInt) := by omega
        refine Go.st (fun _ k => XS.icmpYes X79.here hx rfl (pc0 := 131) (pc' := 140) rfl (hb hby at_131) rfl (flt (nltI liI_2 rfl c159)).2.2.2 (by decide) (by decide) k) ?_
        refine Go.st (fun _ k => XS.iload X79.here hx rfl (hb hby at_140) rfl k) ?_
        refine Go.st (fun _ k => XS.iconst X79.here hx rfl (hb hby at_142) k) ?_
        have f160 := liI_3
        have c161 : ¬ (3 < v40.toInt) := by omega
        refine Go.st (fun _ k => XS.icmpYes X79.here hx rfl (pc0 := 143) (pc' := 152) rfl (hb hby at_143) rfl (flt (nltI liI_3 rfl c161)).2.2.2 (by decide) (by decide) k) ?_
        show Go p e below s Q 7 28 (T79.setTop (mkF m 152 #[.val (.int xa), .val (.int xb), .val (.int c0), .val (.int c1), .val (.int c2), .val (.int c3), .val (.int (1 : Int32)), .val (.int v40), .val (.int v49), .val (.int v58), .val (.int v67), .val (.int v76), .val (.ref b79), .unset] []))
        have f162 := rng32 xa
        have f163 := rng32 xb
        have f164 := rng32 c0
        have f165 := rng32 c1
        have f166 := rng32 c2
        have f167 := rng32 c3
        have f168 := rng32 v49
        have f169 := rng32 v58
        have f170 := rng32 v67
        exact J85 T79 h79 _ (up X79 (by decide) (by decide)) e79 N0 K79 (fun _ => (0 : Int32)) B79 h83 (by intro h; first | rfl | omega) (by intro h; first | rfl | omega) (by intro h; first | rfl | omega) (by intro h; first | rfl | omega) Gb79
    intro Tg84 hg84 Lgg84 Xg84 eg84 Ng84 Kg84 KK hfg84_0 hfg84_1 hpg84_0 hpg84_1 hpg84_2 hpg84_3 hpg84_4
    have hk0 : Hid (0 < v40.toInt → (KK 0).toInt = v49.toInt) := fun h => congrArg Int32.toInt (hpg84_0 h)
    have hk1 : Hid (1 < v40.toInt → (KK 1).toInt = v58.toInt) := fun h => congrArg Int32.toInt (hpg84_1 h)
    have hk2 : Hid (2 < v40.toInt → (KK 2).toInt = v67.toInt) := fun h => congrArg Int32.toInt (hpg84_2 h)
    have hk3 : Hid (3 < v40.toInt → (KK 3).toInt = v76.toInt) := fun h => congrArg Int32.toInt (hpg84_3 h)
    refine Go.st (fun _ k => XS.aload Xg84.here hx rfl (hb hby at_152) rfl rfl k) ?_
    refine Go.st (fun _ k => XS.iload Xg84.here hx rfl (hb hby at_154) rfl k) ?_
    have f172 := liI_1
    have p173 : 0 ≤ v40.toInt ∧ v40.toInt ≤ 4 := by omega
    obtain ⟨_, _, ⟨T171, L171, k171, n171⟩, -, X171, ⟨Lc171, hQ171, l171, y171, z171⟩, st171⟩ := Jvm.LawKit.callS Xg84 hx (y := (⟨"com/example/rackwise/rackwise/RackCosts", "clientsOfRacks", "([II)[[I"⟩ : MethodName)) hown (mvT hZ (hw _ (List.mem_of_getElem? (i := 2) rfl))) (mvT hZ (hw _ (List.mem_of_getElem? (i := 3) rfl))) (mvT hZ (hw _ (List.mem_of_getElem? (i := 4) rfl))) (mvT hZ (hw _ (List.mem_of_getElem? (i := 5) rfl))) (by decide) (backOf (W := 0) (rmc1 l Z a0 hw [] b79 v40 KK hg84 n0 (Nat.le_trans Z0 Kg84.1) hfg84_1 p173 (four_rng (by omega) hk0 hk1 hk2 hk3 (by omega) (by omega) (by omega) (by omega))) hZ (hw _ (List.mem_of_getElem? (i := 5) rfl)) (hw _ (List.mem_of_getElem? (i := 4) rfl)) (by decide) (by decide)) (g := (mkF m 156 #[.val (.int xa), .val (.int xb), .val (.int c0), .val (.int c1), .val (.int c2), .val (.int c3), .val (.int (1 : Int32)), .val (.int v40), .val (.int v49), .val (.int v58), .val (.int v67), .val (.int v76), .val (.ref b79), .unset] [(.int (1 : Int32)), (.ref b79)])) rfl (by rw [hml]; rfl) (argsL := [(.ref b79), (.int (1 : Int32))]) (rest := []) (lenOf pd_1 rfl) rfl (by show 2 * 0 + _ ≤ _; exact Nat.le_of_eq rfl) (hb hby at_156) (fun _ _ => ⟨rfl, eg84, (by decide : 1 + 3 ≤ _), (by decide : 4 + 6 ≤ _)⟩)
    dsimp only [Pt.U, Pt.locs, Pt.cells, Pt.slots] at X171 l171 y171 z171 st171 hQ171
    subst l171 y171 z171
    obtain ⟨res_174, w0_175, l0_176, g0_177, rfl, N171q, f178, f179, K171q, h180, h181⟩ := hQ171
    have N171 := Fr.app Ng84 N171q
    have h182 : Exa Z T171.heap b79 "[I" := hfg84_0.keep K171q
    have h183 : Vec Z T171.heap b79 .int v40 (ints KK) := hfg84_1.keep K171q nin0
    have K171 : Keep h0 T171.heap [] := Kg84.trans K171q (fun x hx => (show ∀ x ∈ ([] : List Addr), x ∈ ([] : List Addr) ∨ h0.size ≤ x from all0) x hx)
    refine Go.st st171 ?_
    show Go p e below s Q 7 28 (T171.setTop (mkF m 159 #[.val (.int xa), .val (.int xb), .val (.int c0), .val (.int c1), .val (.int c2), .val (.int c3), .val (.int (1 : Int32)), .val (.int v40), .val (.int v49), .val (.int v58), .val (.int v67), .val (.int v76), .val (.ref b79), .unset] [(.ref res_174)]))
    refine Go.st (fun _ k => XS.astore X171.here hx rfl (hb hby at_159) rfl rfl (l' := #[.val (.int xa), .val (.int xb), .val (.int c0), .val (.int c1), .val (.int c2), .val (.int c3), .val (.int (1 : Int32)), .val (.int v40), .val (.int v49), .val (.int v58), .val (.int v67), .val (.int v76), .val (.ref b79), .val (.ref res_174)]) rfl k) ?_
    refine Go.st (fun _ k => XS.aload X171.here hx rfl (hb hby at_161) rfl rfl k) ?_
    refine Go.st (fun _ k => XS.ifnullNo X171.here hx rfl (hb hby at_163) rfl k) ?_
    refine Go.st (fun _ k => XS.aload X171.here hx rfl (hb hby at_166) rfl rfl k) ?_
    refine Go.st (RV.len X171 hx hZ rfl h180 (g := (mkF m 168 #[.val (.int xa), .val (.int xb), .val (.int c0), .val (.int c1), .val (.int c2), .val (.int c3), .val (.int (1 : Int32)), .val (.int v40), .val (.int v49), .val (.int v58), .val (.int v67), .val (.int v76), .val (.ref b79), .val (.ref res_174)] [(.ref res_174)])) rfl rfl (hb hby at_168)) ?_
    show Go p e below s Q 7 28 (T171.setTop (mkF m 169 #[.val (.int xa), .val (.int xb), .val (.int c0), .val (.int c1), .val (.int c2), .val (.int c3), .val (.int (1 : Int32)), .val (.int v40), .val (.int v49), .val (.int v58), .val (.int v67), .val (.int v76), .val (.ref b79), .val (.ref res_174)] [(.int (1 : Int32))]))
    refine Go.st (fun _ k => XS.iload X171.here hx rfl (hb hby at_169) rfl k) ?_
    refine Go.st (fun _ k => XS.icmpYes X171.here hx rfl (pc0 := 171) (pc' := 176) rfl (hb hby at_171) rfl (teq (eqI liI_1 liI_1 (by decide))).1 (by decide) (by decide) k) ?_
    refine Go.st (fun _ k => XS.iload X171.here hx rfl (hb hby at_176) rfl k) ?_
    refine Go.st (fun _ k => XS.ifNo X171.here hx rfl (hb hby at_178) rfl ((if0 _ _).trans (tlt (ltI liI_0 liI_1 (by decide))).2.2.2) k) ?_
    refine Go.st (fun _ k => XS.aload X171.here hx rfl (hb hby at_181) rfl rfl k) ?_
    refine Go.st (fun _ k => XS.iconst X171.here hx rfl (hb hby at_183) k) ?_
    show Go p e below s Q 7 28 (T171.setTop (mkF m 184 #[.val (.int xa), .val (.int xb), .val (.int c0), .val (.int c1), .val (.int c2), .val (.int c3), .val (.int (1 : Int32)), .val (.int v40), .val (.int v49), .val (.int v58), .val (.int v67), .val (.int v76), .val (.ref b79), .val (.ref res_174)] [(.int (0 : Int32)), (.ref res_174)]))
    refine Go.st (RV.ild X171 hx hZ rfl h180 (j := (0 : Int32)) (by decide) (by decide) (g := (mkF m 184 #[.val (.int xa), .val (.int xb), .val (.int c0), .val (.int c1), .val (.int c2), .val (.int c3), .val (.int (1 : Int32)), .val (.int v40), .val (.int v49), .val (.int v58), .val (.int v67), .val (.int v76), .val (.ref b79), .val (.ref res_174)] [(.int (0 : Int32)), (.ref res_174)])) rfl rfl (hb hby at_184)) ?_
    show Go p e below s Q 7 28 (T171.setTop (mkF m 185 #[.val (.int xa), .val (.int xb), .val (.int c0), .val (.int c1), .val (.int c2), .val (.int c3), .val (.int (1 : Int32)), .val (.int v40), .val (.int v49), .val (.int v58), .val (.int v67), .val (.int v76), .val (.ref b79), .val (.ref res_174)] [(.ref w0_175)]))
    refine Go.st (fun _ k => XS.iconst X171.here hx rfl (hb hby at_185) k) ?_
    refine Go.st (fun _ k => XS.iload X171.here hx rfl (hb hby at_186) rfl k) ?_
    refine Go.st (fun _ k => XS.iload X171.here hx rfl (hb hby at_188) rfl k) ?_
    refine Go.st (fun _ k => XS.iload X171.here hx rfl (hb hby at_190) rfl k) ?_
    refine Go.st (fun _ k => XS.iload X171.here hx rfl (hb hby at_192) rfl k) ?_
    refine Go.st (fun _ k => XS.iload X171.here hx rfl (hb hby at_194) rfl k) ?_
    show Go p e below s Q 7 28 (T171.setTop (mkF m 196 #[.val (.int xa), .val (.int xb), .val (.int c0), .val (.int c1), .val (.int c2), .val (.int c3), .val (.int (1 : Int32)), .val (.int v40), .val (.int v49), .val (.int v58), .val (.int v67), .val (.int v76), .val (.ref b79), .val (.ref res_174)] [(.int v76), (.int v67), (.int v58), (.int v49), (.int v40), (.int (0 : Int32)), (.ref w0_175)]))
    have f187 := rng32 l0_176
    have f188 := liI_0
    have f189 := rng32 v49
    have f190 := rng32 v58
    have f191 := rng32 v67
    have p192 : 0 ≤ v40.toInt ∧ v40.toInt ≤ 4 := by omega
    obtain ⟨_, _, ⟨T186, L186, k186, n186⟩, -, X186, ⟨Lc186, hQ186, l186, y186, z186⟩, st186⟩ := Jvm.LawKit.callS X171 hx (y := (⟨"com/example/rackwise/rackwise/RackCostsClientsOfRacksPinLaw", "rowOk", "([IIIIIII)Z"⟩ : MethodName)) hown (mvT hZ (hw _ (List.mem_of_getElem? (i := 9) rfl))) (mvT hZ (hw _ (List.mem_of_getElem? (i := 10) rfl))) (mvT hZ (hw _ (List.mem_of_getElem? (i := 11) rfl))) (mvT hZ (hw _ (List.mem_of_getElem? (i := 12) rfl))) (by decide) (backOf (W := 0) (rm2 l Z a0 hw [] w0_175 (0 : Int32) v40 v49 v58 v67 v76 l0_176 g0_177 T171.heap n0 (Nat.le_trans Z0 K171.1) h181 p192) hZ (hw _ (List.mem_of_getElem? (i := 12) rfl)) (hw _ (List.mem_of_getElem? (i := 11) rfl)) (by decide) (by decide)) (g := (mkF m 196 #[.val (.int xa), .val (.int xb), .val (.int c0), .val (.int c1), .val (.int c2), .val (.int c3), .val (.int (1 : Int32)), .val (.int v40), .val (.int v49), .val (.int v58), .val (.int v67), .val (.int v76), .val (.ref b79), .val (.ref res_174)] [(.int v76), (.int v67), (.int v58), (.int v49), (.int v40), (.int (0 : Int32)), (.ref w0_175)])) rfl (by rw [hml]; rfl) (argsL := [(.ref w0_175), (.int (0 : Int32)), (.int v40), (.int v49), (.int v58), (.int v67), (.int v76)]) (rest := []) (lenOf pd_2 rfl) rfl (by show 2 * 0 + _ ≤ _; exact Nat.le_of_eq rfl) (hb hby at_196) (fun _ _ => ⟨rfl, rfl, (by decide : 4 + 0 ≤ _), (by decide : 10 + 0 ≤ _)⟩)
    dsimp only [Pt.U, Pt.locs, Pt.cells, Pt.slots] at X186 l186 y186 z186 st186 hQ186
    subst l186 y186 z186
    obtain ⟨rr_193, cc_194, rfl, N186q, f195, f196, e186⟩ := hQ186
    have N186 := Fr.app N171 N186q
    refine Go.st st186 ?_
    show Go p e below s Q 7 28 (T186.setTop (mkF m 199 #[.val (.int xa), .val (.int xb), .val (.int c0), .val (.int c1), .val (.int c2), .val (.int c3), .val (.int (1 : Int32)), .val (.int v40), .val (.int v49), .val (.int v58), .val (.int v67), .val (.int v76), .val (.ref b79), .val (.ref res_174)] [(.int rr_193)]))
    have f197 := rng32 rr_193
    have hrow0 : rr_193.toInt = 1 := by
      obtain ⟨qa, qb, qc, m0, m1, m2, m3⟩ := f195
      have q1 := chain_cnt hk0 hk1 hk2 hk3 (by omega) m0 m1 m2 m3
      have q2 := f178
      have q3 : (0 : Int32).toInt = 0 := by decide
      rw [q3] at q1
      omega
    clear f195 f196
    have c198 : ¬ (rr_193.toInt = 0) := by omega
    refine Go.st (fun _ k => XS.ifYes X186.here hx rfl (pc0 := 199) (pc' := 204) rfl (hb hby at_199) rfl ((if0 _ _).trans (feq (neI rfl liI_0 c198)).2) (by decide) (by decide) k) ?_
    refine Go.st (fun _ k => XS.iload X186.here hx rfl (hb hby at_204) rfl k) ?_
    refine Go.st (fun _ k => XS.iconst X186.here hx rfl (hb hby at_206) k) ?_
    refine Go.st (fun _ k => XS.icmpYes X186.here hx rfl (pc0 := 207) (pc' := 233) rfl (hb hby at_207) rfl (flt (nltI liI_1 liI_1 (by decide))).2.2.2 (by decide) (by decide) k) ?_
    refine Go.st (fun _ k => XS.iload X186.here hx rfl (hb hby at_233) rfl k) ?_
    refine Go.st (fun _ k => XS.iconst X186.here hx rfl (hb hby at_235) k) ?_
    show Go p e below s Q 7 28 (T186.setTop (mkF m 236 #[.val (.int xa), .val (.int xb), .val (.int c0), .val (.int c1), .val (.int c2), .val (.int c3), .val (.int (1 : Int32)), .val (.int v40), .val (.int v49), .val (.int v58), .val (.int v67), .val (.int v76), .val (.ref b79), .val (.ref res_174)] [(.int (2 : Int32)), (.int (1 : Int32))]))
    refine Go.st (fun _ k => XS.icmpYes X186.here hx rfl (pc0 := 236) (pc' := 262) rfl (hb hby at_236) rfl (flt (nltI liI_2 liI_1 (by decide))).2.2.2 (by decide) (by decide) k) ?_
    refine Go.st (fun _ k => XS.iload X186.here hx rfl (hb hby at_262) rfl k) ?_
    refine Go.st (fun _ k => XS.iconst X186.here hx rfl (hb hby at_264) k) ?_
    refine Go.st (fun _ k => XS.icmpYes X186.here hx rfl (pc0 := 265) (pc' := 291) rfl (hb hby at_265) rfl (flt (nltI liI_3 liI_1 (by decide))).2.2.2 (by decide) (by decide) k) ?_
    show Go p e below s Q 7 28 (T186.setTop (mkF m 291 #[.val (.int xa), .val (.int xb), .val (.int c0), .val (.int c1), .val (.int c2), .val (.int c3), .val (.int (1 : Int32)), .val (.int v40), .val (.int v49), .val (.int v58), .val (.int v67), .val (.int v76), .val (.ref b79), .val (.ref res_174)] []))
    suffices J200 : ∀ (Tg199 : State) (hg199 : Heap) (Lgg199 : List Loc) (Xg199 : Stand p l e room_1 s m #[(.int xa), (.int xb), (.int c0), (.int c1), (.int c2), (.int c3)] below meth c Tg199 Lgg199 4 10) (eg199 : Tg199.heap = hg199) (Ng199 : Fr n0 Lgg199) (Kg199 : Keep h0 hg199 []) (hfg199_0 : Exa Z hg199 b79 "[I") (hfg199_1 : Vec Z hg199 b79 .int v40 (ints KK)) (hfg199_2 : RV Z hg199 res_174 (1 : Int32) [(.ref w0_175)]) (hfg199_3 : Vec Z hg199 w0_175 .int l0_176 (ints g0_177)), Go p e below s Q 7 28 (Tg199.setTop (mkF m 310 #[.val (.int xa), .val (.int xb), .val (.int c0), .val (.int c1), .val (.int c2), .val (.int c3), .val (.int (1 : Int32)), .val (.int v40), .val (.int v49), .val (.int v58), .val (.int v67), .val (.int v76), .val (.ref b79), .val (.ref res_174)] [])) by
      refine Go.st (fun _ k => XS.iload X186.here hx rfl (hb hby at_291) rfl k) ?_
      by_cases c201 : 0 < v40.toInt
      ·
        refine Go.st (fun _ k => XS.ifNo X186.here hx rfl (hb hby at_293) rfl ((if0 _ _).trans (tlt (ltI liI_0 rfl c201)).2.2.2) k) ?_
        refine Go.st (fun _ k => XS.aload X186.here hx rfl (hb hby at_296) rfl rfl k) ?_
        refine Go.st (fun _ k => XS.iconst X186.here hx rfl (hb hby at_298) k) ?_
        refine Go.st (fun _ k => XS.iload X186.here hx rfl (hb hby at_299) rfl k) ?_
        refine Go.st (fun _ k => XS.iconst X186.here hx rfl (hb hby at_301) k) ?_
        show Go p e below s Q 7 28 (T186.setTop (mkF m 302 #[.val (.int xa), .val (.int xb), .val (.int c0), .val (.int c1), .val (.int c2), .val (.int c3), .val (.int (1 : Int32)), .val (.int v40), .val (.int v49), .val (.int v58), .val (.int v67), .val (.int v76), .val (.ref b79), .val (.ref res_174)] [(.int (0 : Int32)), (.int v49), (.int (0 : Int32)), (.ref res_174)]))
        have hra0 : (0 : Int32).toInt = cnt KK 0 v49.toInt := by
          have e0 : cnt KK 0 v49.toInt = 0 := rfl
          omega
        have hrb0 := cnt_rng KK 0 v49.toInt
        have p203 : 0 ≤ v49.toInt ∧ v49.toInt < 1 ∧ 0 ≤ (0 : Int32).toInt := by omega
        obtain ⟨_, _, ⟨T202, L202, k202, n202⟩, -, X202, ⟨Lc202, hQ202, l202, y202, z202⟩, st202⟩ := Jvm.LawKit.callS X186 hx (y := (⟨"com/example/rackwise/rackwise/RackCostsClientsOfRacksPinLaw", "placed", "([[IIII)Z"⟩ : MethodName)) hown (mvT hZ (hw _ (List.mem_of_getElem? (i := 16) rfl))) (mvT hZ (hw _ (List.mem_of_getElem? (i := 17) rfl))) (mvT hZ (hw _ (List.mem_of_getElem? (i := 11) rfl))) (mvT hZ (hw _ (List.mem_of_getElem? (i := 18) rfl))) (by decide) (backOf (W := 0) (rmp1 l Z a0 hw [] res_174 (0 : Int32) v49 (0 : Int32) w0_175 l0_176 g0_177 T171.heap n0 (Nat.le_trans Z0 K171.1) h180 h181 p203) hZ (hw _ (List.mem_of_getElem? (i := 18) rfl)) (hw _ (List.mem_of_getElem? (i := 11) rfl)) (by decide) (by decide)) (g := (mkF m 302 #[.val (.int xa), .val (.int xb), .val (.int c0), .val (.int c1), .val (.int c2), .val (.int c3), .val (.int (1 : Int32)), .val (.int v40), .val (.int v49), .val (.int v58), .val (.int v67), .val (.int v76), .val (.ref b79), .val (.ref res_174)] [(.int (0 : Int32)), (.int v49), (.int (0 : Int32)), (.ref res_174)])) rfl (by rw [hml]; rfl) (argsL := [(.ref res_174), (.int (0 : Int32)), (.int v49), (.int (0 : Int32))]) (rest := []) (lenOf pd_3 rfl) rfl (by show 2 * 0 + _ ≤ _; exact Nat.le_of_eq rfl) (hb hby at_302) (fun _ _ => ⟨rfl, e186, (by decide : 4 + 0 ≤ _), (by decide : 10 + 0 ≤ _)⟩)
        dsimp only [Pt.U, Pt.locs, Pt.cells, Pt.slots] at X202 l202 y202 z202 st202 hQ202
        subst l202 y202 z202
        obtain ⟨rr_204, rfl, N202q, f205, e202⟩ := hQ202
        have N202 := Fr.app N186 N202q
        refine Go.st st202 ?_
        show Go p e below s Q 7 28 (T202.setTop (mkF m 305 #[.val (.int xa), .val (.int xb), .val (.int c0), .val (.int c1), .val (.int c2), .val (.int c3), .val (.int (1 : Int32)), .val (.int v40), .val (.int v49), .val (.int v58), .val (.int v67), .val (.int v76), .val (.ref b79), .val (.ref res_174)] [(.int rr_204)]))
        have f206 := rng32 rr_204
        have hone0 : rr_204.toInt = 1 := by
          have q1 : v49.toInt = 0 := by omega
          exact placed_ok (i := 0) f178 f179 (by omega) (by rw [hk0 (by omega)]; exact q1) (by rw [← q1]; exact hra0) (by decide) (f205 q1)
        clear f205
        have c207 : ¬ (rr_204.toInt = 0) := by omega
        refine Go.st (fun _ k => XS.ifYes X202.here hx rfl (pc0 := 305) (pc' := 310) rfl (hb hby at_305) rfl ((if0 _ _).trans (feq (neI rfl liI_0 c207)).2) (by decide) (by decide) k) ?_
        show Go p e below s Q 7 28 (T202.setTop (mkF m 310 #[.val (.int xa), .val (.int xb), .val (.int c0), .val (.int c1), .val (.int c2), .val (.int c3), .val (.int (1 : Int32)), .val (.int v40), .val (.int v49), .val (.int v58), .val (.int v67), .val (.int v76), .val (.ref b79), .val (.ref res_174)] []))
        have f208 := rng32 xa
        have f209 := rng32 xb
        have f210 := rng32 c0
        have f211 := rng32 c1
        have f212 := rng32 c2
        have f213 := rng32 c3
        exact J200 T202 T171.heap _ (up X202 (by decide) (by decide)) e202 N202 K171 h182 h183 h180 h181
      ·
        refine Go.st (fun _ k => XS.ifYes X186.here hx rfl (pc0 := 293) (pc' := 310) rfl (hb hby at_293) rfl ((if0 _ _).trans (flt (nltI liI_0 rfl c201)).2.2.2) (by decide) (by decide) k) ?_
        show Go p e below s Q 7 28 (T186.setTop (mkF m 310 #[.val (.int xa), .val (.int xb), .val (.int c0), .val (.int c1), .val (.int c2), .val (.int c3), .val (.int (1 : Int32)), .val (.int v40), .val (.int v49), .val (.int v58), .val (.int v67), .val (.int v76), .val (.ref b79), .val (.ref res_174)] []))
        have f214 := rng32 xa
        have f215 := rng32 xb
        have f216 := rng32 c0
        have f217 := rng32 c1
        have f218 := rng32 c2
        have f219 := rng32 c3
        exact J200 T186 T171.heap _ (up X186 (by decide) (by decide)) e186 N186 K171 h182 h183 h180 h181
    intro Tg199 hg199 Lgg199 Xg199 eg199 Ng199 Kg199 hfg199_0 hfg199_1 hfg199_2 hfg199_3
    suffices J221 : ∀ (Tg220 : State) (hg220 : Heap) (Lgg220 : List Loc) (Xg220 : Stand p l e room_1 s m #[(.int xa), (.int xb), (.int c0), (.int c1), (.int c2), (.int c3)] below meth c Tg220 Lgg220 4 10) (eg220 : Tg220.heap = hg220) (Ng220 : Fr n0 Lgg220) (Kg220 : Keep h0 hg220 []) (hfg220_0 : Exa Z hg220 b79 "[I") (hfg220_1 : Vec Z hg220 b79 .int v40 (ints KK)) (hfg220_2 : RV Z hg220 res_174 (1 : Int32) [(.ref w0_175)]) (hfg220_3 : Vec Z hg220 w0_175 .int l0_176 (ints g0_177)), Go p e below s Q 7 28 (Tg220.setTop (mkF m 336 #[.val (.int xa), .val (.int xb), .val (.int c0), .val (.int c1), .val (.int c2), .val (.int c3), .val (.int (1 : Int32)), .val (.int v40), .val (.int v49), .val (.int v58), .val (.int v67), .val (.int v76), .val (.ref b79), .val (.ref res_174)] [])) by
      refine Go.st (fun _ k => XS.iload Xg199.here hx rfl (hb hby at_310) rfl k) ?_
      refine Go.st (fun _ k => XS.iconst Xg199.here hx rfl (hb hby at_312) k) ?_
      by_cases c222 : 1 < v40.toInt
      ·
        refine Go.st (fun _ k => XS.icmpNo Xg199.here hx rfl (hb hby at_313) rfl (tlt (ltI liI_1 rfl c222)).2.2.2 k) ?_
        refine Go.st (fun _ k => XS.aload Xg199.here hx rfl (hb hby at_316) rfl rfl k) ?_
        refine Go.st (fun _ k => XS.iconst Xg199.here hx rfl (hb hby at_318) k) ?_
        refine Go.st (fun _ k => XS.iload Xg199.here hx rfl (hb hby at_319) rfl k) ?_
        show Go p e below s Q 7 28 (Tg199.setTop (mkF m 321 #[.val (.int xa), .val (.int xb), .val (.int c0), .val (.int c1), .val (.int c2), .val (.int c3), .val (.int (1 : Int32)), .val (.int v40), .val (.int v49), .val (.int v58), .val (.int v67), .val (.int v76), .val (.ref b79), .val (.ref res_174)] [(.int v58), (.int (1 : Int32)), (.ref res_174)]))
        refine Go.st (fun _ k => XS.iload Xg199.here hx rfl (hb hby at_321) rfl k) ?_
        refine Go.st (fun _ k => XS.iload Xg199.here hx rfl (hb hby at_323) rfl k) ?_
        obtain ⟨_, _, ⟨T223, L223, k223, n223⟩, -, X223, ⟨Lc223, hQ223, l223, y223, z223⟩, st223⟩ := Jvm.LawKit.callS Xg199 hx (y := (⟨"com/example/rackwise/rackwise/RackCostsClientsOfRacksPinLaw", "same", "(II)I"⟩ : MethodName)) hown (mvT hZ (hw _ (List.mem_of_getElem? (i := 19) rfl))) (mvT hZ (hw _ (List.mem_of_getElem? (i := 20) rfl))) (mvT hZ (hw _ (List.mem_of_getElem? (i := 11) rfl))) (mvT hZ (hw _ (List.mem_of_getElem? (i := 21) rfl))) (by decide) (backOf (W := 3) (rm5 l Z a0 hw [] v49 v58 hg199 n0 (Nat.le_trans Z0 Kg199.1) ) hZ (hw _ (List.mem_of_getElem? (i := 21) rfl)) (hw _ (List.mem_of_getElem? (i := 11) rfl)) (by decide) (by decide)) (g := (mkF m 325 #[.val (.int xa), .val (.int xb), .val (.int c0), .val (.int c1), .val (.int c2), .val (.int c3), .val (.int (1 : Int32)), .val (.int v40), .val (.int v49), .val (.int v58), .val (.int v67), .val (.int v76), .val (.ref b79), .val (.ref res_174)] [(.int v58), (.int v49), (.int v58), (.int (1 : Int32)), (.ref res_174)])) rfl (by rw [hml]; rfl) (argsL := [(.int v49), (.int v58)]) (rest := [(.int v58), (.int (1 : Int32)), (.ref res_174)]) (lenOf pd_4 rfl) rfl (by show 2 * 0 + _ ≤ _; exact Nat.le_of_eq rfl) (hb hby at_325) (fun _ _ => ⟨rfl, eg199, (by decide : 4 + 0 ≤ _), (by decide : 10 + 0 ≤ _)⟩)
        dsimp only [Pt.U, Pt.locs, Pt.cells, Pt.slots] at X223 l223 y223 z223 st223 hQ223
        subst l223 y223 z223
        obtain ⟨rr_224, rfl, N223q, f225, e223⟩ := hQ223
        have N223 := Fr.app Ng199 N223q
        refine Go.st st223 ?_
        show Go p e below s Q 7 28 (T223.setTop (mkF m 328 #[.val (.int xa), .val (.int xb), .val (.int c0), .val (.int c1), .val (.int c2), .val (.int c3), .val (.int (1 : Int32)), .val (.int v40), .val (.int v49), .val (.int v58), .val (.int v67), .val (.int v76), .val (.ref b79), .val (.ref res_174)] [(.int rr_224), (.int v58), (.int (1 : Int32)), (.ref res_174)]))
        have f226 := rng32 rr_224
        have hra1 : rr_224.toInt = cnt KK 1 v58.toInt := by
          have i0 := ind_c (KK 0).toInt v58.toInt
          have j0 := hk0 (by omega)
          have e0 : cnt KK 0 v58.toInt = 0 := rfl
          have e1 : cnt KK 1 v58.toInt = cnt KK 0 v58.toInt + ind (KK 0).toInt v58.toInt := rfl
          omega
        have hrb1 := cnt_rng KK 1 v58.toInt
        have p228 : 0 ≤ v58.toInt ∧ v58.toInt < 1 ∧ 0 ≤ rr_224.toInt := by omega
        obtain ⟨_, _, ⟨T227, L227, k227, n227⟩, -, X227, ⟨Lc227, hQ227, l227, y227, z227⟩, st227⟩ := Jvm.LawKit.callS X223 hx (y := (⟨"com/example/rackwise/rackwise/RackCostsClientsOfRacksPinLaw", "placed", "([[IIII)Z"⟩ : MethodName)) hown (mvT hZ (hw _ (List.mem_of_getElem? (i := 16) rfl))) (mvT hZ (hw _ (List.mem_of_getElem? (i := 17) rfl))) (mvT hZ (hw _ (List.mem_of_getElem? (i := 11) rfl))) (mvT hZ (hw _ (List.mem_of_getElem? (i := 18) rfl))) (by decide) (backOf (W := 0) (rmp1 l Z a0 hw [] res_174 (1 : Int32) v58 rr_224 w0_175 l0_176 g0_177 hg199 n0 (Nat.le_trans Z0 Kg199.1) hfg199_2 hfg199_3 p228) hZ (hw _ (List.mem_of_getElem? (i := 18) rfl)) (hw _ (List.mem_of_getElem? (i := 11) rfl)) (by decide) (by decide)) (g := (mkF m 328 #[.val (.int xa), .val (.int xb), .val (.int c0), .val (.int c1), .val (.int c2), .val (.int c3), .val (.int (1 : Int32)), .val (.int v40), .val (.int v49), .val (.int v58), .val (.int v67), .val (.int v76), .val (.ref b79), .val (.ref res_174)] [(.int rr_224), (.int v58), (.int (1 : Int32)), (.ref res_174)])) rfl (by rw [hml]; rfl) (argsL := [(.ref res_174), (.int (1 : Int32)), (.int v58), (.int rr_224)]) (rest := []) (lenOf pd_3 rfl) rfl (by show 2 * 0 + _ ≤ _; exact Nat.le_of_eq rfl) (hb hby at_328) (fun _ _ => ⟨rfl, e223, (by decide : 4 + 0 ≤ _), (by decide : 10 + 0 ≤ _)⟩)
        dsimp only [Pt.U, Pt.locs, Pt.cells, Pt.slots] at X227 l227 y227 z227 st227 hQ227
        subst l227 y227 z227
        obtain ⟨rr_229, rfl, N227q, f230, e227⟩ := hQ227
        have N227 := Fr.app N223 N227q
        refine Go.st st227 ?_
        show Go p e below s Q 7 28 (T227.setTop (mkF m 331 #[.val (.int xa), .val (.int xb), .val (.int c0), .val (.int c1), .val (.int c2), .val (.int c3), .val (.int (1 : Int32)), .val (.int v40), .val (.int v49), .val (.int v58), .val (.int v67), .val (.int v76), .val (.ref b79), .val (.ref res_174)] [(.int rr_229)]))
        have f231 := rng32 rr_229
        have hone1 : rr_229.toInt = 1 := by
          have q1 : v58.toInt = 0 := by omega
          exact placed_ok (i := 1) f178 f179 (by omega) (by rw [hk1 (by omega)]; exact q1) (by rw [← q1]; exact hra1) (by decide) (f230 q1)
        clear f230
        have c232 : ¬ (rr_229.toInt = 0) := by omega
        refine Go.st (fun _ k => XS.ifYes X227.here hx rfl (pc0 := 331) (pc' := 336) rfl (hb hby at_331) rfl ((if0 _ _).trans (feq (neI rfl liI_0 c232)).2) (by decide) (by decide) k) ?_
        show Go p e below s Q 7 28 (T227.setTop (mkF m 336 #[.val (.int xa), .val (.int xb), .val (.int c0), .val (.int c1), .val (.int c2), .val (.int c3), .val (.int (1 : Int32)), .val (.int v40), .val (.int v49), .val (.int v58), .val (.int v67), .val (.int v76), .val (.ref b79), .val (.ref res_174)] []))
        have f233 := rng32 xa
        have f234 := rng32 xb
        have f235 := rng32 c0
        have f236 := rng32 c1
        have f237 := rng32 c2
        have f238 := rng32 c3
        exact J221 T227 hg199 _ (up X227 (by decide) (by decide)) e227 N227 Kg199 hfg199_0 hfg199_1 hfg199_2 hfg199_3
      ·
        refine Go.st (fun _ k => XS.icmpYes Xg199.here hx rfl (pc0 := 313) (pc' := 336) rfl (hb hby at_313) rfl (flt (nltI liI_1 rfl c222)).2.2.2 (by decide) (by decide) k) ?_
        show Go p e below s Q 7 28 (Tg199.setTop (mkF m 336 #[.val (.int xa), .val (.int xb), .val (.int c0), .val (.int c1), .val (.int c2), .val (.int c3), .val (.int (1 : Int32)), .val (.int v40), .val (.int v49), .val (.int v58), .val (.int v67), .val (.int v76), .val (.ref b79), .val (.ref res_174)] []))
        have f239 := rng32 xa
        have f240 := rng32 xb
        have f241 := rng32 c0
        have f242 := rng32 c1
        have f243 := rng32 c2
        have f244 := rng32 c3
        exact J221 Tg199 hg199 _ (up Xg199 (by decide) (by decide)) eg199 Ng199 Kg199 hfg199_0 hfg199_1 hfg199_2 hfg199_3
    intro Tg220 hg220 Lgg220 Xg220 eg220 Ng220 Kg220 hfg220_0 hfg220_1 hfg220_2 hfg220_3
    suffices J246 : ∀ (Tg245 : State) (hg245 : Heap) (Lgg245 : List Loc) (Xg245 : Stand p l e room_1 s m #[(.int xa), (.int xb), (.int c0), (.int c1), (.int c2), (.int c3)] below meth c Tg245 Lgg245 4 10) (eg245 : Tg245.heap = hg245) (Ng245 : Fr n0 Lgg245) (Kg245 : Keep h0 hg245 []) (hfg245_0 : Exa Z hg245 b79 "[I") (hfg245_1 : Vec Z hg245 b79 .int v40 (ints KK)) (hfg245_2 : RV Z hg245 res_174 (1 : Int32) [(.ref w0_175)]) (hfg245_3 : Vec Z hg245 w0_175 .int l0_176 (ints g0_177)), Go p e below s Q 7 28 (Tg245.setTop (mkF m 370 #[.val (.int xa), .val (.int xb), .val (.int c0), .val (.int c1), .val (.int c2), .val (.int c3), .val (.int (1 : Int32)), .val (.int v40), .val (.int v49), .val (.int v58), .val (.int v67), .val (.int v76), .val (.ref b79), .val (.ref res_174)] [])) by
      refine Go.st (fun _ k => XS.iload Xg220.here hx rfl (hb hby at_336) rfl k) ?_
      refine Go.st (fun _ k => XS.iconst Xg220.here hx rfl (hb hby at_338) k) ?_
      have f247 := liI_2
      by_cases c248 : 2 < v40.toInt
      ·
        refine Go.st (fun _ k => XS.icmpNo Xg220.here hx rfl (hb hby at_339) rfl (tlt (ltI liI_2 rfl c248)).2.2.2 k) ?_
        refine Go.st (fun _ k => XS.aload Xg220.here hx rfl (hb hby at_342) rfl rfl k) ?_
        refine Go.st (fun _ k => XS.iconst Xg220.here hx rfl (hb hby at_344) k) ?_
        refine Go.st (fun _ k => XS.iload Xg220.here hx rfl (hb hby at_345) rfl k) ?_
        show Go p e below s Q 7 28 (Tg220.setTop (mkF m 347 #[.val (.int xa), .val (.int xb), .val (.int c0), .val (.int c1), .val (.int c2), .val (.int c3), .val (.int (1 : Int32)), .val (.int v40), .val (.int v49), .val (.int v58), .val (.int v67), .val (.int v76), .val (.ref b79), .val (.ref res_174)] [(.int v67), (.int (2 : Int32)), (.ref res_174)]))
        refine Go.st (fun _ k => XS.iload Xg220.here hx rfl (hb hby at_347) rfl k) ?_
        refine Go.st (fun _ k => XS.iload Xg220.here hx rfl (hb hby at_349) rfl k) ?_
        obtain ⟨_, _, ⟨T249, L249, k249, n249⟩, -, X249, ⟨Lc249, hQ249, l249, y249, z249⟩, st249⟩ := Jvm.LawKit.callS Xg220 hx (y := (⟨"com/example/rackwise/rackwise/RackCostsClientsOfRacksPinLaw", "same", "(II)I"⟩ : MethodName)) hown (mvT hZ (hw _ (List.mem_of_getElem? (i := 19) rfl))) (mvT hZ (hw _ (List.mem_of_getElem? (i := 20) rfl))) (mvT hZ (hw _ (List.mem_of_getElem? (i := 11) rfl))) (mvT hZ (hw _ (List.mem_of_getElem? (i := 21) rfl))) (by decide) (backOf (W := 3) (rm5 l Z a0 hw [] v49 v67 hg220 n0 (Nat.le_trans Z0 Kg220.1) ) hZ (hw _ (List.mem_of_getElem? (i := 21) rfl)) (hw _ (List.mem_of_getElem? (i := 11) rfl)) (by decide) (by decide)) (g := (mkF m 351 #[.val (.int xa), .val (.int xb), .val (.int c0), .val (.int c1), .val (.int c2), .val (.int c3), .val (.int (1 : Int32)), .val (.int v40), .val (.int v49), .val (.int v58), .val (.int v67), .val (.int v76), .val (.ref b79), .val (.ref res_174)] [(.int v67), (.int v49), (.int v67), (.int (2 : Int32)), (.ref res_174)])) rfl (by rw [hml]; rfl) (argsL := [(.int v49), (.int v67)]) (rest := [(.int v67), (.int (2 : Int32)), (.ref res_174)]) (lenOf pd_4 rfl) rfl (by show 2 * 0 + _ ≤ _; exact Nat.le_of_eq rfl) (hb hby at_351) (fun _ _ => ⟨rfl, eg220, (by decide : 4 + 0 ≤ _), (by decide : 10 + 0 ≤ _)⟩)
        dsimp only [Pt.U, Pt.locs, Pt.cells, Pt.slots] at X249 l249 y249 z249 st249 hQ249
        subst l249 y249 z249
        obtain ⟨rr_250, rfl, N249q, f251, e249⟩ := hQ249
        have N249 := Fr.app Ng220 N249q
        refine Go.st st249 ?_
        show Go p e below s Q 7 28 (T249.setTop (mkF m 354 #[.val (.int xa), .val (.int xb), .val (.int c0), .val (.int c1), .val (.int c2), .val (.int c3), .val (.int (1 : Int32)), .val (.int v40), .val (.int v49), .val (.int v58), .val (.int v67), .val (.int v76), .val (.ref b79), .val (.ref res_174)] [(.int rr_250), (.int v67), (.int (2 : Int32)), (.ref res_174)]))
        have f252 := rng32 rr_250
        refine Go.st (fun _ k => XS.iload X249.here hx rfl (hb hby at_354) rfl k) ?_
        refine Go.st (fun _ k => XS.iload X249.here hx rfl (hb hby at_356) rfl k) ?_
        obtain ⟨_, _, ⟨T253, L253, k253, n253⟩, -, X253, ⟨Lc253, hQ253, l253, y253, z253⟩, st253⟩ := Jvm.LawKit.callS X249 hx (y := (⟨"com/example/rackwise/rackwise/RackCostsClientsOfRacksPinLaw", "same", "(II)I"⟩ : MethodName)) hown (mvT hZ (hw _ (List.mem_of_getElem? (i := 19) rfl))) (mvT hZ (hw _ (List.mem_of_getElem? (i := 20) rfl))) (mvT hZ (hw _ (List.mem_of_getElem? (i := 11) rfl))) (mvT hZ (hw _ (List.mem_of_getElem? (i := 21) rfl))) (by decide) (backOf (W := 4) (rm5 l Z a0 hw [] v58 v67 hg220 n0 (Nat.le_trans Z0 Kg220.1) ) hZ (hw _ (List.mem_of_getElem? (i := 21) rfl)) (hw _ (List.mem_of_getElem? (i := 11) rfl)) (by decide) (by decide)) (g := (mkF m 358 #[.val (.int xa), .val (.int xb), .val (.int c0), .val (.int c1), .val (.int c2), .val (.int c3), .val (.int (1 : Int32)), .val (.int v40), .val (.int v49), .val (.int v58), .val (.int v67), .val (.int v76), .val (.ref b79), .val (.ref res_174)] [(.int v67), (.int v58), (.int rr_250), (.int v67), (.int (2 : Int32)), (.ref res_174)])) rfl (by rw [hml]; rfl) (argsL := [(.int v58), (.int v67)]) (rest := [(.int rr_250), (.int v67), (.int (2 : Int32)), (.ref res_174)]) (lenOf pd_4 rfl) rfl (by show 2 * 0 + _ ≤ _; exact Nat.le_of_eq rfl) (hb hby at_358) (fun _ _ => ⟨rfl, e249, (by decide : 4 + 0 ≤ _), (by decide : 10 + 0 ≤ _)⟩)
        dsimp only [Pt.U, Pt.locs, Pt.cells, Pt.slots] at X253 l253 y253 z253 st253 hQ253
        subst l253 y253 z253
        obtain ⟨rr_254, rfl, N253q, f255, e253⟩ := hQ253
        have N253 := Fr.app N249 N253q
        refine Go.st st253 ?_
        show Go p e below s Q 7 28 (T253.setTop (mkF m 361 #[.val (.int xa), .val (.int xb), .val (.int c0), .val (.int c1), .val (.int c2), .val (.int c3), .val (.int (1 : Int32)), .val (.int v40), .val (.int v49), .val (.int v58), .val (.int v67), .val (.int v76), .val (.ref b79), .val (.ref res_174)] [(.int rr_254), (.int rr_250), (.int v67), (.int (2 : Int32)), (.ref res_174)]))
        have f256 := rng32 rr_254
        refine Go.st (fun _ k => XS.iadd X253.here hx rfl (hb hby at_361) rfl k) ?_
        show Go p e below s Q 7 28 (T253.setTop (mkF m 362 #[.val (.int xa), .val (.int xb), .val (.int c0), .val (.int c1), .val (.int c2), .val (.int c3), .val (.int (1 : Int32)), .val (.int v40), .val (.int v49), .val (.int v58), .val (.int v67), .val (.int v76), .val (.ref b79), .val (.ref res_174)] [(.int (rr_250 + rr_254)), (.int v67), (.int (2 : Int32)), (.ref res_174)]))
        have f257 := c_iadd rr_250 rr_254
        have f258 := rng32 (rr_250 + rr_254)
        have hra2 : (rr_250 + rr_254).toInt = cnt KK 2 v67.toInt := by
          have i0 := ind_c (KK 0).toInt v67.toInt
          have j0 := hk0 (by omega)
          have i1 := ind_c (KK 1).toInt v67.toInt
          have j1 := hk1 (by omega)
          have e0 : cnt KK 0 v67.toInt = 0 := rfl
          have e1 : cnt KK 1 v67.toInt = cnt KK 0 v67.toInt + ind (KK 0).toInt v67.toInt := rfl
          have e2 : cnt KK 2 v67.toInt = cnt KK 1 v67.toInt + ind (KK 1).toInt v67.toInt := rfl
          omega
        have hrb2 := cnt_rng KK 2 v67.toInt
        have p260 : 0 ≤ v67.toInt ∧ v67.toInt < 1 ∧ 0 ≤ (rr_250 + rr_254).toInt := by omega
        obtain ⟨_, _, ⟨T259, L259, k259, n259⟩, -, X259, ⟨Lc259, hQ259, l259, y259, z259⟩, st259⟩ := Jvm.LawKit.callS X253 hx (y := (⟨"com/example/rackwise/rackwise/RackCostsClientsOfRacksPinLaw", "placed", "([[IIII)Z"⟩ : MethodName)) hown (mvT hZ (hw _ (List.mem_of_getElem? (i := 16) rfl))) (mvT hZ (hw _ (List.mem_of_getElem? (i := 17) rfl))) (mvT hZ (hw _ (List.mem_of_getElem? (i := 11) rfl))) (mvT hZ (hw _ (List.mem_of_getElem? (i := 18) rfl))) (by decide) (backOf (W := 0) (rmp1 l Z a0 hw [] res_174 (2 : Int32) v67 (rr_250 + rr_254) w0_175 l0_176 g0_177 hg220 n0 (Nat.le_trans Z0 Kg220.1) hfg220_2 hfg220_3 p260) hZ (hw _ (List.mem_of_getElem? (i := 18) rfl)) (hw _ (List.mem_of_getElem? (i := 11) rfl)) (by decide) (by decide)) (g := (mkF m 362 #[.val (.int xa), .val (.int xb), .val (.int c0), .val (.int c1), .val (.int c2), .val (.int c3), .val (.int (1 : Int32)), .val (.int v40), .val (.int v49), .val (.int v58), .val (.int v67), .val (.int v76), .val (.ref b79), .val (.ref res_174)] [(.int (rr_250 + rr_254)), (.int v67), (.int (2 : Int32)), (.ref res_174)])) rfl (by rw [hml]; rfl) (argsL := [(.ref res_174), (.int (2 : Int32)), (.int v67), (.int (rr_250 + rr_254))]) (rest := []) (lenOf pd_3 rfl) rfl (by show 2 * 0 + _ ≤ _; exact Nat.le_of_eq rfl) (hb hby at_362) (fun _ _ => ⟨rfl, e253, (by decide : 4 + 0 ≤ _), (by decide : 10 + 0 ≤ _)⟩)
        dsimp only [Pt.U, Pt.locs, Pt.cells, Pt.slots] at X259 l259 y259 z259 st259 hQ259
        subst l259 y259 z259
        obtain ⟨rr_261, rfl, N259q, f262, e259⟩ := hQ259
        have N259 := Fr.app N253 N259q
        refine Go.st st259 ?_
        show Go p e below s Q 7 28 (T259.setTop (mkF m 365 #[.val (.int xa), .val (.int xb), .val (.int c0), .val (.int c1), .val (.int c2), .val (.int c3), .val (.int (1 : Int32)), .val (.int v40), .val (.int v49), .val (.int v58), .val (.int v67), .val (.int v76), .val (.ref b79), .val (.ref res_174)] [(.int rr_261)]))
        have f263 := rng32 rr_261
        have hone2 : rr_261.toInt = 1 := by
          have q1 : v67.toInt = 0 := by omega
          exact placed_ok (i := 2) f178 f179 (by omega) (by rw [hk2 (by omega)]; exact q1) (by rw [← q1]; exact hra2) (by decide) (f262 q1)
        clear f262
        have c264 : ¬ (rr_261.toInt = 0) := by omega
        refine Go.st (fun _ k => XS.ifYes X259.here hx rfl (pc0 := 365) (pc' := 370) rfl (hb hby at_365) rfl ((if0 _ _).trans (feq (neI rfl liI_0 c264)).2) (by decide) (by decide) k) ?_
        show Go p e below s Q 7 28 (T259.setTop (mkF m 370 #[.val (.int xa), .val (.int xb), .val (.int c0), .val (.int c1), .val (.int c2), .val (.int c3), .val (.int (1 : Int32)), .val (.int v40), .val (.int v49), .val (.int v58), .val (.int v67), .val (.int v76), .val (.ref b79), .val (.ref res_174)] []))
        have f265 := rng32 xa
        have f266 := rng32 xb
        have f267 := rng32 c0
        have f268 := rng32 c1
        have f269 := rng32 c2
        have f270 := rng32 c3
        exact J246 T259 hg220 _ (up X259 (by decide) (by decide)) e259 N259 Kg220 hfg220_0 hfg220_1 hfg220_2 hfg220_3
      ·
        refine Go.st (fun _ k => XS.icmpYes Xg220.here hx rfl (pc0 := 339) (pc' := 370) rfl (hb hby at_339) rfl (flt (nltI liI_2 rfl c248)).2.2.2 (by decide) (by decide) k) ?_
        show Go p e below s Q 7 28 (Tg220.setTop (mkF m 370 #[.val (.int xa), .val (.int xb), .val (.int c0), .val (.int c1), .val (.int c2), .val (.int c3), .val (.int (1 : Int32)), .val (.int v40), .val (.int v49), .val (.int v58), .val (.int v67), .val (.int v76), .val (.ref b79), .val (.ref res_174)] []))
        have f271 := rng32 xa
        have f272 := rng32 xb
        have f273 := rng32 c0
        have f274 := rng32 c1
        have f275 := rng32 c2
        have f276 := rng32 c3
        exact J246 Tg220 hg220 _ (up Xg220 (by decide) (by decide)) eg220 Ng220 Kg220 hfg220_0 hfg220_1 hfg220_2 hfg220_3
    intro Tg245 hg245 Lgg245 Xg245 eg245 Ng245 Kg245 hfg245_0 hfg245_1 hfg245_2 hfg245_3
    suffices J278 : ∀ (Tg277 : State) (hg277 : Heap) (Lgg277 : List Loc) (Xg277 : Stand p l e room_1 s m #[(.int xa), (.int xb), (.int c0), (.int c1), (.int c2), (.int c3)] below meth c Tg277 Lgg277 4 10) (eg277 : Tg277.heap = hg277) (Ng277 : Fr n0 Lgg277) (Kg277 : Keep h0 hg277 []) (hfg277_0 : Exa Z hg277 b79 "[I") (hfg277_1 : Vec Z hg277 b79 .int v40 (ints KK)) (hfg277_2 : RV Z hg277 res_174 (1 : Int32) [(.ref w0_175)]) (hfg277_3 : Vec Z hg277 w0_175 .int l0_176 (ints g0_177)), Go p e below s Q 7 28 (Tg277.setTop (mkF m 412 #[.val (.int xa), .val (.int xb), .val (.int c0), .val (.int c1), .val (.int c2), .val (.int c3), .val (.int (1 : Int32)), .val (.int v40), .val (.int v49), .val (.int v58), .val (.int v67), .val (.int v76), .val (.ref b79), .val (.ref res_174)] [])) by
      refine Go.st (fun _ k => XS.iload Xg245.here hx rfl (hb hby at_370) rfl k) ?_
      refine Go.st (fun _ k => XS.iconst Xg245.here hx rfl (hb hby at_372) k) ?_
      have f279 := liI_3
      by_cases c280 : 3 < v40.toInt
      ·
        refine Go.st (fun _ k => XS.icmpNo Xg245.here hx rfl (hb hby at_373) rfl (tlt (ltI liI_3 rfl c280)).2.2.2 k) ?_
        refine Go.st (fun _ k => XS.aload Xg245.here hx rfl (hb hby at_376) rfl rfl k) ?_
        refine Go.st (fun _ k => XS.iconst Xg245.here hx rfl (hb hby at_378) k) ?_
        refine Go.st (fun _ k => XS.iload Xg245.here hx rfl (hb hby at_379) rfl k) ?_
        show Go p e below s Q 7 28 (Tg245.setTop (mkF m 381 #[.val (.int xa), .val (.int xb), .val (.int c0), .val (.int c1), .val (.int c2), .val (.int c3), .val (.int (1 : Int32)), .val (.int v40), .val (.int v49), .val (.int v58), .val (.int v67), .val (.int v76), .val (.ref b79), .val (.ref res_174)] [(.int v76), (.int (3 : Int32)), (.ref res_174)]))
        refine Go.st (fun _ k => XS.iload Xg245.here hx rfl (hb hby at_381) rfl k) ?_
        refine Go.st (fun _ k => XS.iload Xg245.here hx rfl (hb hby at_383) rfl k) ?_
        obtain ⟨_, _, ⟨T281, L281, k281, n281⟩, -, X281, ⟨Lc281, hQ281, l281, y281, z281⟩, st281⟩ := Jvm.LawKit.callS Xg245 hx (y := (⟨"com/example/rackwise/rackwise/RackCostsClientsOfRacksPinLaw", "same", "(II)I"⟩ : MethodName)) hown (mvT hZ (hw _ (List.mem_of_getElem? (i := 19) rfl))) (mvT hZ (hw _ (List.mem_of_getElem? (i := 20) rfl))) (mvT hZ (hw _ (List.mem_of_getElem? (i := 11) rfl))) (mvT hZ (hw _ (List.mem_of_getElem? (i := 21) rfl))) (by decide) (backOf (W := 3) (rm5 l Z a0 hw [] v49 v76 hg245 n0 (Nat.le_trans Z0 Kg245.1) ) hZ (hw _ (List.mem_of_getElem? (i := 21) rfl)) (hw _ (List.mem_of_getElem? (i := 11) rfl)) (by decide) (by decide)) (g := (mkF m 385 #[.val (.int xa), .val (.int xb), .val (.int c0), .val (.int c1), .val (.int c2), .val (.int c3), .val (.int (1 : Int32)), .val (.int v40), .val (.int v49), .val (.int v58), .val (.int v67), .val (.int v76), .val (.ref b79), .val (.ref res_174)] [(.int v76), (.int v49), (.int v76), (.int (3 : Int32)), (.ref res_174)])) rfl (by rw [hml]; rfl) (argsL := [(.int v49), (.int v76)]) (rest := [(.int v76), (.int (3 : Int32)), (.ref res_174)]) (lenOf pd_4 rfl) rfl (by show 2 * 0 + _ ≤ _; exact Nat.le_of_eq rfl) (hb hby at_385) (fun _ _ => ⟨rfl, eg245, (by decide : 4 + 0 ≤ _), (by decide : 10 + 0 ≤ _)⟩)
        dsimp only [Pt.U, Pt.locs, Pt.cells, Pt.slots] at X281 l281 y281 z281 st281 hQ281
        subst l281 y281 z281
        obtain ⟨rr_282, rfl, N281q, f283, e281⟩ := hQ281
        have N281 := Fr.app Ng245 N281q
        refine Go.st st281 ?_
        show Go p e below s Q 7 28 (T281.setTop (mkF m 388 #[.val (.int xa), .val (.int xb), .val (.int c0), .val (.int c1), .val (.int c2), .val (.int c3), .val (.int (1 : Int32)), .val (.int v40), .val (.int v49), .val (.int v58), .val (.int v67), .val (.int v76), .val (.ref b79), .val (.ref res_174)] [(.int rr_282), (.int v76), (.int (3 : Int32)), (.ref res_174)]))
        have f284 := rng32 rr_282
        refine Go.st (fun _ k => XS.iload X281.here hx rfl (hb hby at_388) rfl k) ?_
        refine Go.st (fun _ k => XS.iload X281.here hx rfl (hb hby at_390) rfl k) ?_
        obtain ⟨_, _, ⟨T285, L285, k285, n285⟩, -, X285, ⟨Lc285, hQ285, l285, y285, z285⟩, st285⟩ := Jvm.LawKit.callS X281 hx (y := (⟨"com/example/rackwise/rackwise/RackCostsClientsOfRacksPinLaw", "same", "(II)I"⟩ : MethodName)) hown (mvT hZ (hw _ (List.mem_of_getElem? (i := 19) rfl))) (mvT hZ (hw _ (List.mem_of_getElem? (i := 20) rfl))) (mvT hZ (hw _ (List.mem_of_getElem? (i := 11) rfl))) (mvT hZ (hw _ (List.mem_of_getElem? (i := 21) rfl))) (by decide) (backOf (W := 4) (rm5 l Z a0 hw [] v58 v76 hg245 n0 (Nat.le_trans Z0 Kg245.1) ) hZ (hw _ (List.mem_of_getElem? (i := 21) rfl)) (hw _ (List.mem_of_getElem? (i := 11) rfl)) (by decide) (by decide)) (g := (mkF m 392 #[.val (.int xa), .val (.int xb), .val (.int c0), .val (.int c1), .val (.int c2), .val (.int c3), .val (.int (1 : Int32)), .val (.int v40), .val (.int v49), .val (.int v58), .val (.int v67), .val (.int v76), .val (.ref b79), .val (.ref res_174)] [(.int v76), (.int v58), (.int rr_282), (.int v76), (.int (3 : Int32)), (.ref res_174)])) rfl (by rw [hml]; rfl) (argsL := [(.int v58), (.int v76)]) (rest := [(.int rr_282), (.int v76), (.int (3 : Int32)), (.ref res_174)]) (lenOf pd_4 rfl) rfl (by show 2 * 0 + _ ≤ _; exact Nat.le_of_eq rfl) (hb hby at_392) (fun _ _ => ⟨rfl, e281, (by decide : 4 + 0 ≤ _), (by decide : 10 + 0 ≤ _)⟩)
        dsimp only [Pt.U, Pt.locs, Pt.cells, Pt.slots] at X285 l285 y285 z285 st285 hQ285
        subst l285 y285 z285
        obtain ⟨rr_286, rfl, N285q, f287, e285⟩ := hQ285
        have N285 := Fr.app N281 N285q
        refine Go.st st285 ?_
        show Go p e below s Q 7 28 (T285.setTop (mkF m 395 #[.val (.int xa), .val (.int xb), .val (.int c0), .val (.int c1), .val (.int c2), .val (.int c3), .val (.int (1 : Int32)), .val (.int v40), .val (.int v49), .val (.int v58), .val (.int v67), .val (.int v76), .val (.ref b79), .val (.ref res_174)] [(.int rr_286), (.int rr_282), (.int v76), (.int (3 : Int32)), (.ref res_174)]))
        have f288 := rng32 rr_286
        refine Go.st (fun _ k => XS.iadd X285.here hx rfl (hb hby at_395) rfl k) ?_
        refine Go.st (fun _ k => XS.iload X285.here hx rfl (hb hby at_396) rfl k) ?_
        refine Go.st (fun _ k => XS.iload X285.here hx rfl (hb hby at_398) rfl k) ?_
        obtain ⟨_, _, ⟨T289, L289, k289, n289⟩, -, X289, ⟨Lc289, hQ289, l289, y289, z289⟩, st289⟩ := Jvm.LawKit.callS X285 hx (y := (⟨"com/example/rackwise/rackwise/RackCostsClientsOfRacksPinLaw", "same", "(II)I"⟩ : MethodName)) hown (mvT hZ (hw _ (List.mem_of_getElem? (i := 19) rfl))) (mvT hZ (hw _ (List.mem_of_getElem? (i := 20) rfl))) (mvT hZ (hw _ (List.mem_of_getElem? (i := 11) rfl))) (mvT hZ (hw _ (List.mem_of_getElem? (i := 21) rfl))) (by decide) (backOf (W := 4) (rm5 l Z a0 hw [] v67 v76 hg245 n0 (Nat.le_trans Z0 Kg245.1) ) hZ (hw _ (List.mem_of_getElem? (i := 21) rfl)) (hw _ (List.mem_of_getElem? (i := 11) rfl)) (by decide) (by decide)) (g := (mkF m 400 #[.val (.int xa), .val (.int xb), .val (.int c0), .val (.int c1), .val (.int c2), .val (.int c3), .val (.int (1 : Int32)), .val (.int v40), .val (.int v49), .val (.int v58), .val (.int v67), .val (.int v76), .val (.ref b79), .val (.ref res_174)] [(.int v76), (.int v67), (.int (rr_282 + rr_286)), (.int v76), (.int (3 : Int32)), (.ref res_174)])) rfl (by rw [hml]; rfl) (argsL := [(.int v67), (.int v76)]) (rest := [(.int (rr_282 + rr_286)), (.int v76), (.int (3 : Int32)), (.ref res_174)]) (lenOf pd_4 rfl) rfl (by show 2 * 0 + _ ≤ _; exact Nat.le_of_eq rfl) (hb hby at_400) (fun _ _ => ⟨rfl, e285, (by decide : 4 + 0 ≤ _), (by decide : 10 + 0 ≤ _)⟩)
        dsimp only [Pt.U, Pt.locs, Pt.cells, Pt.slots] at X289 l289 y289 z289 st289 hQ289
        subst l289 y289 z289
        obtain ⟨rr_290, rfl, N289q, f291, e289⟩ := hQ289
        have N289 := Fr.app N285 N289q
        refine Go.st st289 ?_
        show Go p e below s Q 7 28 (T289.setTop (mkF m 403 #[.val (.int xa), .val (.int xb), .val (.int c0), .val (.int c1), .val (.int c2), .val (.int c3), .val (.int (1 : Int32)), .val (.int v40), .val (.int v49), .val (.int v58), .val (.int v67), .val (.int v76), .val (.ref b79), .val (.ref res_174)] [(.int rr_290), (.int (rr_282 + rr_286)), (.int v76), (.int (3 : Int32)), (.ref res_174)]))
        have f292 := rng32 rr_290
        refine Go.st (fun _ k => XS.iadd X289.here hx rfl (hb hby at_403) rfl k) ?_
        show Go p e below s Q 7 28 (T289.setTop (mkF m 404 #[.val (.int xa), .val (.int xb), .val (.int c0), .val (.int c1), .val (.int c2), .val (.int c3), .val (.int (1 : Int32)), .val (.int v40), .val (.int v49), .val (.int v58), .val (.int v67), .val (.int v76), .val (.ref b79), .val (.ref res_174)] [(.int ((rr_282 + rr_286) + rr_290)), (.int v76), (.int (3 : Int32)), (.ref res_174)]))
        have f293 := c_iadd rr_282 rr_286
        have f294 := rng32 (rr_282 + rr_286)
        have f295 := c_iadd (rr_282 + rr_286) rr_290
        have f296 := rng32 ((rr_282 + rr_286) + rr_290)
        have hra3 : ((rr_282 + rr_286) + rr_290).toInt = cnt KK 3 v76.toInt := by
          have i0 := ind_c (KK 0).toInt v76.toInt
          have j0 := hk0 (by omega)
          have i1 := ind_c (KK 1).toInt v76.toInt
          have j1 := hk1 (by omega)
          have i2 := ind_c (KK 2).toInt v76.toInt
          have j2 := hk2 (by omega)
          have e0 : cnt KK 0 v76.toInt = 0 := rfl
          have e1 : cnt KK 1 v76.toInt = cnt KK 0 v76.toInt + ind (KK 0).toInt v76.toInt := rfl
          have e2 : cnt KK 2 v76.toInt = cnt KK 1 v76.toInt + ind (KK 1).toInt v76.toInt := rfl
          have e3 : cnt KK 3 v76.toInt = cnt KK 2 v76.toInt + ind (KK 2).toInt v76.toInt := rfl
          omega
        have hrb3 := cnt_rng KK 3 v76.toInt
        have p298 : 0 ≤ v76.toInt ∧ v76.toInt < 1 ∧ 0 ≤ ((rr_282 + rr_286) + rr_290).toInt := by omega
        obtain ⟨_, _, ⟨T297, L297, k297, n297⟩, -, X297, ⟨Lc297, hQ297, l297, y297, z297⟩, st297⟩ := Jvm.LawKit.callS X289 hx (y := (⟨"com/example/rackwise/rackwise/RackCostsClientsOfRacksPinLaw", "placed", "([[IIII)Z"⟩ : MethodName)) hown (mvT hZ (hw _ (List.mem_of_getElem? (i := 16) rfl))) (mvT hZ (hw _ (List.mem_of_getElem? (i := 17) rfl))) (mvT hZ (hw _ (List.mem_of_getElem? (i := 11) rfl))) (mvT hZ (hw _ (List.mem_of_getElem? (i := 18) rfl))) (by decide) (backOf (W := 0) (rmp1 l Z a0 hw [] res_174 (3 : Int32) v76 ((rr_282 + rr_286) + rr_290) w0_175 l0_176 g0_177 hg245 n0 (Nat.le_trans Z0 Kg245.1) hfg245_2 hfg245_3 p298) hZ (hw _ (List.mem_of_getElem? (i := 18) rfl)) (hw _ (List.mem_of_getElem? (i := 11) rfl)) (by decide) (by decide)) (g := (mkF m 404 #[.val (.int xa), .val (.int xb), .val (.int c0), .val (.int c1), .val (.int c2), .val (.int c3), .val (.int (1 : Int32)), .val (.int v40), .val (.int v49), .val (.int v58), .val (.int v67), .val (.int v76), .val (.ref b79), .val (.ref res_174)] [(.int ((rr_282 + rr_286) + rr_290)), (.int v76), (.int (3 : Int32)), (.ref res_174)])) rfl (by rw [hml]; rfl) (argsL := [(.ref res_174), (.int (3 : Int32)), (.int v76), (.int ((rr_282 + rr_286) + rr_290))]) (rest := []) (lenOf pd_3 rfl) rfl (by show 2 * 0 + _ ≤ _; exact Nat.le_of_eq rfl) (hb hby at_404) (fun _ _ => ⟨rfl, e289, (by decide : 4 + 0 ≤ _), (by decide : 10 + 0 ≤ _)⟩)
        dsimp only [Pt.U, Pt.locs, Pt.cells, Pt.slots] at X297 l297 y297 z297 st297 hQ297
        subst l297 y297 z297
        obtain ⟨rr_299, rfl, N297q, f300, e297⟩ := hQ297
        have N297 := Fr.app N289 N297q
        refine Go.st st297 ?_
        show Go p e below s Q 7 28 (T297.setTop (mkF m 407 #[.val (.int xa), .val (.int xb), .val (.int c0), .val (.int c1), .val (.int c2), .val (.int c3), .val (.int (1 : Int32)), .val (.int v40), .val (.int v49), .val (.int v58), .val (.int v67), .val (.int v76), .val (.ref b79), .val (.ref res_174)] [(.int rr_299)]))
        have f301 := rng32 rr_299
        have hone3 : rr_299.toInt = 1 := by
          have q1 : v76.toInt = 0 := by omega
          exact placed_ok (i := 3) f178 f179 (by omega) (by rw [hk3 (by omega)]; exact q1) (by rw [← q1]; exact hra3) (by decide) (f300 q1)
        clear f300
        have c302 : ¬ (rr_299.toInt = 0) := by omega
        refine Go.st (fun _ k => XS.ifYes X297.here hx rfl (pc0 := 407) (pc' := 412) rfl (hb hby at_407) rfl ((if0 _ _).trans (feq (neI rfl liI_0 c302)).2) (by decide) (by decide) k) ?_
        show Go p e below s Q 7 28 (T297.setTop (mkF m 412 #[.val (.int xa), .val (.int xb), .val (.int c0), .val (.int c1), .val (.int c2), .val (.int c3), .val (.int (1 : Int32)), .val (.int v40), .val (.int v49), .val (.int v58), .val (.int v67), .val (.int v76), .val (.ref b79), .val (.ref res_174)] []))
        have f303 := rng32 xa
        have f304 := rng32 xb
        have f305 := rng32 c0
        have f306 := rng32 c1
        have f307 := rng32 c2
        have f308 := rng32 c3
        exact J278 T297 hg245 _ (up X297 (by decide) (by decide)) e297 N297 Kg245 hfg245_0 hfg245_1 hfg245_2 hfg245_3
      ·
        refine Go.st (fun _ k => XS.icmpYes Xg245.here hx rfl (pc0 := 373) (pc' := 412) rfl (hb hby at_373) rfl (flt (nltI liI_3 rfl c280)).2.2.2 (by decide) (by decide) k) ?_
        show Go p e below s Q 7 28 (Tg245.setTop (mkF m 412 #[.val (.int xa), .val (.int xb), .val (.int c0), .val (.int c1), .val (.int c2), .val (.int c3), .val (.int (1 : Int32)), .val (.int v40), .val (.int v49), .val (.int v58), .val (.int v67), .val (.int v76), .val (.ref b79), .val (.ref res_174)] []))
        have f309 := rng32 xa
        have f310 := rng32 xb
        have f311 := rng32 c0
        have f312 := rng32 c1
        have f313 := rng32 c2
        have f314 := rng32 c3
        exact J278 Tg245 hg245 _ (up Xg245 (by decide) (by decide)) eg245 Ng245 Kg245 hfg245_0 hfg245_1 hfg245_2 hfg245_3
    intro Tg277 hg277 Lgg277 Xg277 eg277 Ng277 Kg277 hfg277_0 hfg277_1 hfg277_2 hfg277_3
    refine Go.st (fun _ k => XS.iconst Xg277.here hx rfl (hb hby at_412) k) ?_
    show Go p e below s Q 7 28 (Tg277.setTop (mkF m 413 #[.val (.int xa), .val (.int xb), .val (.int c0), .val (.int c1), .val (.int c2), .val (.int c3), .val (.int (1 : Int32)), .val (.int v40), .val (.int v49), .val (.int v58), .val (.int v67), .val (.int v76), .val (.ref b79), .val (.ref res_174)] [(.int (1 : Int32))]))
    exact Go.retN Xg277 hx hlk (by simp) Bd.returns (hb hby at_413) (z' := (1 : Int32)) (by decide) (by rw [← hQ, eg277]; exact ⟨rfl, Ng277, Kg277⟩) (by decide) (by decide)
  ·
    have cs16' : v12 = (2 : Int32) := eqI cs16 liI_2 rfl
    subst cs16'
    have f315 := liI_2
    show Go p e below s Q 7 28 (s₁.setTop (mkF m 8 #[.val (.int xa), .val (.int xb), .val (.int c0), .val (.int c1), .val (.int c2), .val (.int c3), .val (.int (2 : Int32)), .unset, .unset, .unset, .unset, .unset, .unset, .unset] []))
    clear f1 f2 f3 f4 f5 f6 f7 f8 f9 f10 f11 f315
    refine Go.st (fun _ k => XS.iload X0.here hx rfl (hb hby at_8) rfl k) ?_
    refine Go.st (fun _ k => XS.ifYes X0.here hx rfl (pc0 := 10) (pc' := 17) rfl (hb hby at_10) rfl ((if0 _ _).trans (feq (neI liI_2 liI_0 (by decide))).2) (by decide) (by decide) k) ?_
    refine Go.st (fun _ k => XS.iloadN X0.here hx rfl (hb hby at_17) rfl k) ?_
    refine Go.st (X0.ldcInt hx hown (mvT hZ (hw _ (List.mem_of_getElem? (i := 0) rfl))) (g := (mkF m 18 #[.val (.int xa), .val (.int xb), .val (.int c0), .val (.int c1), .val (.int c2), .val (.int c3), .val (.int (2 : Int32)), .unset, .unset, .unset, .unset, .unset, .unset, .unset] [(.int xa)])) rfl (hb hby at_18)) ?_
    show Go p e below s Q 7 28 (s₁.setTop (mkF m 20 #[.val (.int xa), .val (.int xb), .val (.int c0), .val (.int c1), .val (.int c2), .val (.int c3), .val (.int (2 : Int32)), .unset, .unset, .unset, .unset, .unset, .unset, .unset] [(.int (2147483647 : Int32)), (.int xa)]))
    refine Go.st (fun _ k => XS.iand X0.here hx rfl (hb hby at_20) rfl k) ?_
    refine Go.st (fun _ k => XS.iconst X0.here hx rfl (hb hby at_21) k) ?_
    refine Go.st (fun _ k => iremM X0 hx rfl (hb hby at_22) rfl (by decide) k) ?_
    refine Go.st (fun _ k => XS.istore X0.here hx rfl (hb hby at_23) rfl (l' := #[.val (.int xa), .val (.int xb), .val (.int c0), .val (.int c1), .val (.int c2), .val (.int c3), .val (.int (2 : Int32)), .val (.int ((xa &&& (2147483647 : Int32)) % (5 : Int32))), .unset, .unset, .unset, .unset, .unset, .unset]) rfl k) ?_
    show Go p e below s Q 7 28 (s₁.setTop (mkF m 25 #[.val (.int xa), .val (.int xb), .val (.int c0), .val (.int c1), .val (.int c2), .val (.int c3), .val (.int (2 : Int32)), .val (.int ((xa &&& (2147483647 : Int32)) % (5 : Int32))), .unset, .unset, .unset, .unset, .unset, .unset] []))
    have f316 := rng32 xa
    have f317 := liI_2147483647
    have f318 : (xa &&& (2147483647 : Int32)).toInt = xa.toInt % 2147483648 := c_mask xa (2147483647 : Int32) 31 (by decide) (by decide)
    have f319 := liI_5
    have f320 := c_irem (xa &&& (2147483647 : Int32)) (5 : Int32) 5 (by decide)
    have f321 := rng32 ((xa &&& (2147483647 : Int32)) % (5 : Int32))
    generalize hv_v322 : ((xa &&& (2147483647 : Int32)) % (5 : Int32)) = v322 at f320 f321 ⊢
    have f323 : 0 ≤ v322.toInt ∧ v322.toInt < 5 := by omega
    clear f316 f317 f318 f319 f320 f321
    have f324 := rng32 v322
    refine Go.st (fun _ k => XS.iload X0.here hx rfl (hb hby at_25) rfl k) ?_
    refine Go.st (fun _ k => XS.ifYes X0.here hx rfl (pc0 := 27) (pc' := 34) rfl (hb hby at_27) rfl ((if0 _ _).trans (feq (neI liI_2 liI_0 (by decide))).2) (by decide) (by decide) k) ?_
    refine Go.st (fun _ k => XS.iloadN X0.here hx rfl (hb hby at_34) rfl k) ?_
    refine Go.st (X0.ldcInt hx hown (mvT hZ (hw _ (List.mem_of_getElem? (i := 0) rfl))) (g := (mkF m 35 #[.val (.int xa), .val (.int xb), .val (.int c0), .val (.int c1), .val (.int c2), .val (.int c3), .val (.int (2 : Int32)), .val (.int v322), .unset, .unset, .unset, .unset, .unset, .unset] [(.int c0)])) rfl (hb hby at_35)) ?_
    show Go p e below s Q 7 28 (s₁.setTop (mkF m 37 #[.val (.int xa), .val (.int xb), .val (.int c0), .val (.int c1), .val (.int c2), .val (.int c3), .val (.int (2 : Int32)), .val (.int v322), .unset, .unset, .unset, .unset, .unset, .unset] [(.int (2147483647 : Int32)), (.int c0)]))
    refine Go.st (fun _ k => XS.iand X0.here hx rfl (hb hby at_37) rfl k) ?_
    refine Go.st (fun _ k => XS.iload X0.here hx rfl (hb hby at_38) rfl k) ?_
    refine Go.st (fun _ k => iremM X0 hx rfl (hb hby at_40) rfl (by decide) k) ?_
    refine Go.st (fun _ k => XS.istore X0.here hx rfl (hb hby at_41) rfl (l' := #[.val (.int xa), .val (.int xb), .val (.int c0), .val (.int c1), .val (.int c2), .val (.int c3), .val (.int (2 : Int32)), .val (.int v322), .val (.int ((c0 &&& (2147483647 : Int32)) % (2 : Int32))), .unset, .unset, .unset, .unset, .unset]) rfl k) ?_
    show Go p e below s Q 7 28 (s₁.setTop (mkF m 43 #[.val (.int xa), .val (.int xb), .val (.int c0), .val (.int c1), .val (.int c2), .val (.int c3), .val (.int (2 : Int32)), .val (.int v322), .val (.int ((c0 &&& (2147483647 : Int32)) % (2 : Int32))), .unset, .unset, .unset, .unset, .unset] []))
    have f325 := rng32 c0
    have f326 := liI_2147483647
    have f327 : (c0 &&& (2147483647 : Int32)).toInt = c0.toInt % 2147483648 := c_mask c0 (2147483647 : Int32) 31 (by decide) (by decide)
    have f328 := liI_2
    have f329 := c_irem (c0 &&& (2147483647 : Int32)) (2 : Int32) 2 (by decide)
    have f330 := rng32 ((c0 &&& (2147483647 : Int32)) % (2 : Int32))
    generalize hv_v331 : ((c0 &&& (2147483647 : Int32)) % (2 : Int32)) = v331 at f329 f330 ⊢
    have f332 : 0 ≤ v331.toInt ∧ v331.toInt < 2 := by omega
    clear f324 f325 f326 f327 f328 f329 f330
    have f333 := rng32 v331
    refine Go.st (fun _ k => XS.iload X0.here hx rfl (hb hby at_43) rfl k) ?_
    refine Go.st (fun _ k => XS.ifYes X0.here hx rfl (pc0 := 45) (pc' := 52) rfl (hb hby at_45) rfl ((if0 _ _).trans (feq (neI liI_2 liI_0 (by decide))).2) (by decide) (by decide) k) ?_
    refine Go.st (fun _ k => XS.iloadN X0.here hx rfl (hb hby at_52) rfl k) ?_
    refine Go.st (X0.ldcInt hx hown (mvT hZ (hw _ (List.mem_of_getElem? (i := 0) rfl))) (g := (mkF m 53 #[.val (.int xa), .val (.int xb), .val (.int c0), .val (.int c1), .val (.int c2), .val (.int c3), .val (.int (2 : Int32)), .val (.int v322), .val (.int v331), .unset, .unset, .unset, .unset, .unset] [(.int c1)])) rfl (hb hby at_53)) ?_
    show Go p e below s Q 7 28 (s₁.setTop (mkF m 55 #[.val (.int xa), .val (.int xb), .val (.int c0), .val (.int c1), .val (.int c2), .val (.int c3), .val (.int (2 : Int32)), .val (.int v322), .val (.int v331), .unset, .unset, .unset, .unset, .unset] [(.int (2147483647 : Int32)), (.int c1)]))
    refine Go.st (fun _ k => XS.iand X0.here hx rfl (hb hby at_55) rfl k) ?_
    refine Go.st (fun _ k => XS.iload X0.here hx rfl (hb hby at_56) rfl k) ?_
    refine Go.st (fun _ k => iremM X0 hx rfl (hb hby at_58) rfl (by decide) k) ?_
    refine Go.st (fun _ k => XS.istore X0.here hx rfl (hb hby at_59) rfl (l' := #[.val (.int xa), .val (.int xb), .val (.int c0), .val (.int c1), .val (.int c2), .val (.int c3), .val (.int (2 : Int32)), .val (.int v322), .val (.int v331), .val (.int ((c1 &&& (2147483647 : Int32)) % (2 : Int32))), .unset, .unset, .unset, .unset]) rfl k) ?_
    show Go p e below s Q 7 28 (s₁.setTop (mkF m 61 #[.val (.int xa), .val (.int xb), .val (.int c0), .val (.int c1), .val (.int c2), .val (.int c3), .val (.int (2 : Int32)), .val (.int v322), .val (.int v331), .val (.int ((c1 &&& (2147483647 : Int32)) % (2 : Int32))), .unset, .unset, .unset, .unset] []))
    have f334 := rng32 c1
    have f335 := liI_2147483647
    have f336 : (c1 &&& (2147483647 : Int32)).toInt = c1.toInt % 2147483648 := c_mask c1 (2147483647 : Int32) 31 (by decide) (by decide)
    have f337 := liI_2
    have f338 := c_irem (c1 &&& (2147483647 : Int32)) (2 : Int32) 2 (by decide)
    have f339 := rng32 ((c1 &&& (2147483647 : Int32)) % (2 : Int32))
    generalize hv_v340 : ((c1 &&& (2147483647 : Int32)) % (2 : Int32)) = v340 at f338 f339 ⊢
    have f341 : 0 ≤ v340.toInt ∧ v340.toInt < 2 := by omega
    clear f333 f334 f335 f336 f337 f338 f339
    have f342 := rng32 v340
    refine Go.st (fun _ k => XS.iload X0.here hx rfl (hb hby at_61) rfl k) ?_
    refine Go.st (fun _ k => XS.ifYes X0.here hx rfl (pc0 := 63) (pc' := 70) rfl (hb hby at_63) rfl ((if0 _ _).trans (feq (neI liI_2 liI_0 (by decide))).2) (by decide) (by decide) k) ?_
    refine Go.st (fun _ k => XS.iload X0.here hx rfl (hb hby at_70) rfl k) ?_
    refine Go.st (X0.ldcInt hx hown (mvT hZ (hw _ (List.mem_of_getElem? (i := 0) rfl))) (g := (mkF m 72 #[.val (.int xa), .val (.int xb), .val (.int c0), .val (.int c1), .val (.int c2), .val (.int c3), .val (.int (2 : Int32)), .val (.int v322), .val (.int v331), .val (.int v340), .unset, .unset, .unset, .unset] [(.int c2)])) rfl (hb hby at_72)) ?_
    show Go p e below s Q 7 28 (s₁.setTop (mkF m 74 #[.val (.int xa), .val (.int xb), .val (.int c0), .val (.int c1), .val (.int c2), .val (.int c3), .val (.int (2 : Int32)), .val (.int v322), .val (.int v331), .val (.int v340), .unset, .unset, .unset, .unset] [(.int (2147483647 : Int32)), (.int c2)]))
    refine Go.st (fun _ k => XS.iand X0.here hx rfl (hb hby at_74) rfl k) ?_
    refine Go.st (fun _ k => XS.iload X0.here hx rfl (hb hby at_75) rfl k) ?_
    refine Go.st (fun _ k => iremM X0 hx rfl (hb hby at_77) rfl (by decide) k) ?_
    refine Go.st (fun _ k => XS.istore X0.here hx rfl (hb hby at_78) rfl (l' := #[.val (.int xa), .val (.int xb), .val (.int c0), .val (.int c1), .val (.int c2), .val (.int c3), .val (.int (2 : Int32)), .val (.int v322), .val (.int v331), .val (.int v340), .val (.int ((c2 &&& (2147483647 : Int32)) % (2 : Int32))), .unset, .unset, .unset]) rfl k) ?_
    show Go p e below s Q 7 28 (s₁.setTop (mkF m 80 #[.val (.int xa), .val (.int xb), .val (.int c0), .val (.int c1), .val (.int c2), .val (.int c3), .val (.int (2 : Int32)), .val (.int v322), .val (.int v331), .val (.int v340), .val (.int ((c2 &&& (2147483647 : Int32)) % (2 : Int32))), .unset, .unset, .unset] []))
    have f343 := rng32 c2
    have f344 := liI_2147483647
    have f345 : (c2 &&& (2147483647 : Int32)).toInt = c2.toInt % 2147483648 := c_mask c2 (2147483647 : Int32) 31 (by decide) (by decide)
    have f346 := liI_2
    have f347 := c_irem (c2 &&& (2147483647 : Int32)) (2 : Int32) 2 (by decide)
    have f348 := rng32 ((c2 &&& (2147483647 : Int32)) % (2 : Int32))
    generalize hv_v349 : ((c2 &&& (2147483647 : Int32)) % (2 : Int32)) = v349 at f347 f348 ⊢
    have f350 : 0 ≤ v349.toInt ∧ v349.toInt < 2 := by omega
    clear f342 f343 f344 f345 f346 f347 f348
    have f351 := rng32 v349
    refine Go.st (fun _ k => XS.iload X0.here hx rfl (hb hby at_80) rfl k) ?_
    refine Go.st (fun _ k => XS.ifYes X0.here hx rfl (pc0 := 82) (pc' := 89) rfl (hb hby at_82) rfl ((if0 _ _).trans (feq (neI liI_2 liI_0 (by decide))).2) (by decide) (by decide) k) ?_
    refine Go.st (fun _ k => XS.iload X0.here hx rfl (hb hby at_89) rfl k) ?_
    refine Go.st (X0.ldcInt hx hown (mvT hZ (hw _ (List.mem_of_getElem? (i := 0) rfl))) (g := (mkF m 91 #[.val (.int xa), .val (.int xb), .val (.int c0), .val (.int c1), .val (.int c2), .val (.int c3), .val (.int (2 : Int32)), .val (.int v322), .val (.int v331), .val (.int v340), .val (.int v349), .unset, .unset, .unset] [(.int c3)])) rfl (hb hby at_91)) ?_
    show Go p e below s Q 7 28 (s₁.setTop (mkF m 93 #[.val (.int xa), .val (.int xb), .val (.int c0), .val (.int c1), .val (.int c2), .val (.int c3), .val (.int (2 : Int32)), .val (.int v322), .val (.int v331), .val (.int v340), .val (.int v349), .unset, .unset, .unset] [(.int (2147483647 : Int32)), (.int c3)]))
    refine Go.st (fun _ k => XS.iand X0.here hx rfl (hb hby at_93) rfl k) ?_
    refine Go.st (fun _ k => XS.iload X0.here hx rfl (hb hby at_94) rfl k) ?_
    refine Go.st (fun _ k => iremM X0 hx rfl (hb hby at_96) rfl (by decide) k) ?_
    refine Go.st (fun _ k => XS.istore X0.here hx rfl (hb hby at_97) rfl (l' := #[.val (.int xa), .val (.int xb), .val (.int c0), .val (.int c1), .val (.int c2), .val (.int c3), .val (.int (2 : Int32)), .val (.int v322), .val (.int v331), .val (.int v340), .val (.int v349), .val (.int ((c3 &&& (2147483647 : Int32)) % (2 : Int32))), .unset, .unset]) rfl k) ?_
    show Go p e below s Q 7 28 (s₁.setTop (mkF m 99 #[.val (.int xa), .val (.int xb), .val (.int c0), .val (.int c1), .val (.int c2), .val (.int c3), .val (.int (2 : Int32)), .val (.int v322), .val (.int v331), .val (.int v340), .val (.int v349), .val (.int ((c3 &&& (2147483647 : Int32)) % (2 : Int32))), .unset, .unset] []))
    have f352 := rng32 c3
    have f353 := liI_2147483647
    have f354 : (c3 &&& (2147483647 : Int32)).toInt = c3.toInt % 2147483648 := c_mask c3 (2147483647 : Int32) 31 (by decide) (by decide)
    have f355 := liI_2
    have f356 := c_irem (c3 &&& (2147483647 : Int32)) (2 : Int32) 2 (by decide)
    have f357 := rng32 ((c3 &&& (2147483647 : Int32)) % (2 : Int32))
    generalize hv_v358 : ((c3 &&& (2147483647 : Int32)) % (2 : Int32)) = v358 at f356 f357 ⊢
    have f359 : 0 ≤ v358.toInt ∧ v358.toInt < 2 := by omega
    clear f351 f352 f353 f354 f355 f356 f357
    have f360 := rng32 v358
    refine Go.st (fun _ k => XS.iload X0.here hx rfl (hb hby at_99) rfl k) ?_
    have f362 := rng32 v322
    have r363 : 0 ≤ v322.toInt := by omega
    have r364 : v322.toNatClampNeg ≤ 4 := by rw [nat_cl]; omega
    obtain ⟨T361, h361, k361, X361, e361, E361, A361, B361, st361⟩ := newPE X0 hx hZ (hw _ (List.mem_of_getElem? (i := 1) rfl)) e0 (g := (mkF m 101 #[.val (.int xa), .val (.int xb), .val (.int c0), .val (.int c1), .val (.int c2), .val (.int c3), .val (.int (2 : Int32)), .val (.int v322), .val (.int v331), .val (.int v340), .val (.int v349), .val (.int v358), .unset, .unset] [(.int v322)])) rfl (hb hby at_101) rfl (not_neg r363) (cap := 4) r364 (by decide) (by decide) (by decide) (ad := "[I") (by decide)
    obtain ⟨b361, g361⟩ : ∃ z, z = h0.size := ⟨_, rfl⟩
    rw [← g361] at A361 B361 st361
    have Gb361 : Hid (n0 ≤ b361) := Nat.le_trans (Nat.le_trans Z0 K0.1) (Nat.le_of_eq g361.symm)
    have szb361 : Hid (h0.size ≤ b361) := Nat.le_trans K0.1 (Nat.le_of_eq g361.symm)
    have K361 : Keep h0 h361 [] := K0.ext E361
    have h365 : Vec Z h361 b361 .int v322 (ints (fun _ => (0 : Int32))) := Vec.new A361 r363
    refine Go.st st361 ?_
    show Go p e below s Q 7 28 (T361.setTop (mkF m 103 #[.val (.int xa), .val (.int xb), .val (.int c0), .val (.int c1), .val (.int c2), .val (.int c3), .val (.int (2 : Int32)), .val (.int v322), .val (.int v331), .val (.int v340), .val (.int v349), .val (.int v358), .unset, .unset] [(.ref b361)]))
    refine Go.st (fun _ k => XS.astore X361.here hx rfl (hb hby at_103) rfl rfl (l' := #[.val (.int xa), .val (.int xb), .val (.int c0), .val (.int c1), .val (.int c2), .val (.int c3), .val (.int (2 : Int32)), .val (.int v322), .val (.int v331), .val (.int v340), .val (.int v349), .val (.int v358), .val (.ref b361), .unset]) rfl k) ?_
    show Go p e below s Q 7 28 (T361.setTop (mkF m 105 #[.val (.int xa), .val (.int xb), .val (.int c0), .val (.int c1), .val (.int c2), .val (.int c3), .val (.int (2 : Int32)), .val (.int v322), .val (.int v331), .val (.int v340), .val (.int v349), .val (.int v358), .val (.ref b361), .unset] []))
    suffices J367 : ∀ (Tg366 : State) (hg366 : Heap) (Lgg366 : List Loc) (Xg366 : Stand p l e room_1 s m #[(.int xa), (.int xb), (.int c0), (.int c1), (.int c2), (.int c3)] below meth c Tg366 Lgg366 1 4) (eg366 : Tg366.heap = hg366) (Ng366 : Fr n0 Lgg366) (Kg366 : Keep h0 hg366 []) (KK : Nat → Int32) (hfg366_0 : Exa Z hg366 b361 "[I") (hfg366_1 : Vec Z hg366 b361 .int v322 (ints KK)) (hpg366_0 : 0 < v322.toInt → KK 0 = v331) (hpg366_1 : 1 < v322.toInt → KK 1 = v340) (hpg366_2 : 2 < v322.toInt → KK 2 = v349) (hpg366_3 : 3 < v322.toInt → KK 3 = v358) (hpg366_4 : n0 ≤ b361), Go p e below s Q 7 28 (Tg366.setTop (mkF m 152 #[.val (.int xa), .val (.int xb), .val (.int c0), .val (.int c1), .val (.int c2), .val (.int c3), .val (.int (2 : Int32)), .val (.int v322), .val (.int v331), .val (.int v340), .val (.int v349), .val (.int v358), .val (.ref b361), .unset] [])) by
      refine Go.st (fun _ k => XS.iload X361.here hx rfl (hb hby at_105) rfl k) ?_
      have f368 := liI_0
      by_cases c369 : 0 < v322.toInt
      ·
        refine Go.st (fun _ k => XS.ifNo X361.here hx rfl (hb hby at_107) rfl ((if0 _ _).trans (tlt (ltI liI_0 rfl c369)).2.2.2) k) ?_
        refine Go.st (fun _ k => XS.aload X361.here hx rfl (hb hby at_110) rfl rfl k) ?_
        refine Go.st (fun _ k => XS.iconst X361.here hx rfl (hb hby at_112) k) ?_
        refine Go.st (fun _ k => XS.iload X361.here hx rfl (hb hby at_113) rfl k) ?_
        have r371 : 0 ≤ (0 : Int32).toInt := by omega
        have r372 : (0 : Int32).toInt < v322.toInt := by omega
        obtain ⟨T370, h370, X370, e370, W370, V370, st370⟩ := Vec.istI X361 hx hZ e361 h365 (j := (0 : Int32)) r371 r372 (g := (mkF m 115 #[.val (.int xa), .val (.int xb), .val (.int c0), .val (.int c1), .val (.int c2), .val (.int c3), .val (.int (2 : Int32)), .val (.int v322), .val (.int v331), .val (.int v340), .val (.int v349), .val (.int v358), .val (.ref b361), .unset] [(.int v331), (.int (0 : Int32)), (.ref b361)])) rfl rfl (hb hby at_115)
        have h373 : Exa Z h370 b361 "[I" := B361.wr W370
        have h374 : Vec Z h370 b361 .int v322 (ints (updF (fun _ => (0 : Int32)) 0 v331)) := V370
        have K370 : Keep h0 h370 [] := K361.wr W370 (Or.inr szb361)
        have N370 := Fr.snoc X370 N0 Gb361
        refine Go.st st370 ?_
        show Go p e below s Q 7 28 (T370.setTop (mkF m 116 #[.val (.int xa), .val (.int xb), .val (.int c0), .val (.int c1), .val (.int c2), .val (.int c3), .val (.int (2 : Int32)), .val (.int v322), .val (.int v331), .val (.int v340), .val (.int v349), .val (.int v358), .val (.ref b361), .unset] []))
        refine Go.st (fun _ k => XS.iload X370.here hx rfl (hb hby at_116) rfl k) ?_
        refine Go.st (fun _ k => XS.iconst X370.here hx rfl (hb hby at_118) k) ?_
        have f375 := liI_1
        by_cases c376 : 1 < v322.toInt
        ·
          refine Go.st (fun _ k => XS.icmpNo X370.here hx rfl (hb hby at_119) rfl (tlt (ltI liI_1 rfl c376)).2.2.2 k) ?_
          refine Go.st (fun _ k => XS.aload X370.here hx rfl (hb hby at_122) rfl rfl k) ?_
          refine Go.st (fun _ k => XS.iconst X370.here hx rfl (hb hby at_124) k) ?_
          refine Go.st (fun _ k => XS.iload X370.here hx rfl (hb hby at_125) rfl k) ?_
          show Go p e below s Q 7 28 (T370.setTop (mkF m 127 #[.val (.int xa), .val (.int xb), .val (.int c0), .val (.int c1), .val (.int c2), .val (.int c3), .val (.int (2 : Int32)), .val (.int v322), .val (.int v331), .val (.int v340), .val (.int v349), .val (.int v358), .val (.ref b361), .unset] [(.int v340), (.int (1 : Int32)), (.ref b361)]))
          have r378 : 0 ≤ (1 : Int32).toInt := by omega
          have r379 : (1 : Int32).toInt < v322.toInt := by omega
          obtain ⟨T377, h377, X377, e377, W377, V377, st377⟩ := Vec.istI X370 hx hZ e370 h374 (j := (1 : Int32)) r378 r379 (g := (mkF m 127 #[.val (.int xa), .val (.int xb), .val (.int c0), .val (.int c1), .val (.int c2), .val (.int c3), .val (.int (2 : Int32)), .val (.int v322), .val (.int v331), .val (.int v340), .val (.int v349), .val (.int v358), .val (.ref b361), .unset] [(.int v340), (.int (1 : Int32)), (.ref b361)])) rfl rfl (hb hby at_127)
          have h380 : Exa Z h377 b361 "[I" := h373.wr W377
          have h381 : Vec Z h377 b361 .int v322 (ints (updF (updF (fun _ => (0 : Int32)) 0 v331) 1 v340)) := V377
          have K377 : Keep h0 h377 [] := K370.wr W377 (Or.inr szb361)
          have N377 := Fr.snoc X377 N370 Gb361
          refine Go.st st377 ?_
          show Go p e below s Q 7 28 (T377.setTop (mkF m 128 #[.val (.int xa), .val (.int xb), .val (.int c0), .val (.int c1), .val (.int c2), .val (.int c3), .val (.int (2 : Int32)), .val (.int v322), .val (.int v331), .val (.int v340), .val (.int v349), .val (.int v358), .val (.ref b361), .unset] []))
          refine Go.st (fun _ k => XS.iload X377.here hx rfl (hb hby at_128) rfl k) ?_
          refine Go.st (fun _ k => XS.iconst X377.here hx rfl (hb hby at_130) k) ?_
          have f382 := liI_2
          by_cases c383 : 2 < v322.toInt
          ·
            refine Go.st (fun _ k => XS.icmpNo X377.here hx rfl (hb hby at_131) rfl (tlt (ltI liI_2 rfl c383)).2.2.2 k) ?_
            refine Go.st (fun _ k => XS.aload X377.here hx rfl (hb hby at_134) rfl rfl k) ?_
            refine Go.st (fun _ k => XS.iconst X377.here hx rfl (hb hby at_136) k) ?_
            refine Go.st (fun _ k => XS.iload X377.here hx rfl (hb hby at_137) rfl k) ?_
            show Go p e below s Q 7 28 (T377.setTop (mkF m 139 #[.val (.int xa), .val (.int xb), .val (.int c0), .val (.int c1), .val (.int c2), .val (.int c3), .val (.int (2 : Int32)), .val (.int v322), .val (.int v331), .val (.int v340), .val (.int v349), .val (.int v358), .val (.ref b361), .unset] [(.int v349), (.int (2 : Int32)), (.ref b361)]))
            have r385 : 0 ≤ (2 : Int32).toInt := by omega
            have r386 : (2 : Int32).toInt < v322.toInt := by omega
            obtain ⟨T384, h384, X384, e384, W384, V384, st384⟩ := Vec.istI X377 hx hZ e377 h381 (j := (2 : Int32)) r385 r386 (g := (mkF m 139 #[.val (.int xa), .val (.int xb), .val (.int c0), .val (.int c1), .val (.int c2), .val (.int c3), .val (.int (2 : Int32)), .val (.int v322), .val (.int v331), .val (.int v340), .val (.int v349), .val (.int v358), .val (.ref b361), .unset] [(.int v349), (.int (2 : Int32)), (.ref b361)])) rfl rfl (hb hby at_139)
            have h387 : Exa Z h384 b361 "[I" := h380.wr W384
            have h388 : Vec Z h384 b361 .int v322 (ints (updF (updF (updF (fun _ => (0 : Int32)) 0 v331) 1 v340) 2 v349)) := V384
            have K384 : Keep h0 h384 [] := K377.wr W384 (Or.inr szb361)
            have N384 := Fr.snoc X384 N377 Gb361
            refine Go.st st384 ?_
            show Go p e below s Q 7 28 (T384.setTop (mkF m 140 #[.val (.int xa), .val (.int xb), .val (.int c0), .val (.int c1), .val (.int c2), .val (.int c3), .val (.int (2 : Int32)), .val (.int v322), .val (.int v331), .val (.int v340), .val (.int v349), .val (.int v358), .val (.ref b361), .unset] []))
            refine Go.st (fun _ k => XS.iload X384.here hx rfl (hb hby at_140) rfl k) ?_
            refine Go.st (fun _ k => XS.iconst X384.here hx rfl (hb hby at_142) k) ?_
            have f389 := liI_3
            by_cases c390 : 3 < v322.toInt
            ·
              refine Go.st (fun _ k => XS.icmpNo X384.here hx rfl (hb hby at_143) rfl (tlt (ltI liI_3 rfl c390)).2.2.2 k) ?_
              refine Go.st (fun _ k => XS.aload X384.here hx rfl (hb hby at_146) rfl rfl k) ?_
              refine Go.st (fun _ k => XS.iconst X384.here hx rfl (hb hby at_148) k) ?_
              refine Go.st (fun _ k => XS.iload X384.here hx rfl (hb hby at_149) rfl k) ?_
              show Go p e below s Q 7 28 (T384.setTop (mkF m 151 #[.val (.int xa), .val (.int xb), .val (.int c0), .val (.int c1), .val (.int c2), .val (.int c3), .val (.int (2 : Int32)), .val (.int v322), .val (.int v331), .val (.int v340), .val (.int v349), .val (.int v358), .val (.ref b361), .unset] [(.int v358), (.int (3 : Int32)), (.ref b361)]))
              have r392 : 0 ≤ (3 : Int32).toInt := by omega
              have r393 : (3 : Int32).toInt < v322.toInt := by omega
              obtain ⟨T391, h391, X391, e391, W391, V391, st391⟩ := Vec.istI X384 hx hZ e384 h388 (j := (3 : Int32)) r392 r393 (g := (mkF m 151 #[.val (.int xa), .val (.int xb), .val (.int c0), .val (.int c1), .val (.int c2), .val (.int c3), .val (.int (2 : Int32)), .val (.int v322), .val (.int v331), .val (.int v340), .val (.int v349), .val (.int v358), .val (.ref b361), .unset] [(.int v358), (.int (3 : Int32)), (.ref b361)])) rfl rfl (hb hby at_151)
              have h394 : Exa Z h391 b361 "[I" := h387.wr W391
              have h395 : Vec Z h391 b361 .int v322 (ints (updF (updF (updF (updF (fun _ => (0 : Int32)) 0 v331) 1 v340) 2 v349) 3 v358)) := V391
              have K391 : Keep h0 h391 [] := K384.wr W391 (Or.inr szb361)
              have N391 := Fr.snoc X391 N384 Gb361
              refine Go.st st391 ?_
              show Go p e below s Q 7 28 (T391.setTop (mkF m 152 #[.val (.int xa), .val (.int xb), .val (.int c0), .val (.int c1), .val (.int c2), .val (.int c3), .val (.int (2 : Int32)), .val (.int v322), .val (.int v331), .val (.int v340), .val (.int v349), .val (.int v358), .val (.ref b361), .unset] []))
              have f396 := rng32 xa
              have f397 := rng32 xb
              have f398 := rng32 c0
              have f399 := rng32 c1
              have f400 := rng32 c2
              have f401 := rng32 c3
              have f402 := rng32 v331
              have f403 := rng32 v340
              have f404 := rng32 v349
              exact J367 T391 h391 _ (up X391 (by decide) (by decide)) e391 N391 K391 (updF (updF (updF (updF (fun _ => (0 : Int32)) 0 v331) 1 v340) 2 v349) 3 v358) h394 h395 (by intro h; first | rfl | omega) (by intro h; first | rfl | omega) (by intro h; first | rfl | omega) (by intro h; first | rfl | omega) Gb361
            ·
              refine Go.st (fun _ k => XS.icmpYes X384.here hx rfl (pc0 := 143) (pc' := 152) rfl (hb hby at_143) rfl (flt (nltI liI_3 rfl c390)).2.2.2 (by decide) (by decide) k) ?_
              show Go p e below s Q 7 28 (T384.setTop (mkF m 152 #[.val (.int xa), .val (.int xb), .val (.int c0), .val (.int c1), .val (.int c2), .val (.int c3), .val (.int (2 : Int32)), .val (.int v322), .val (.int v331), .val (.int v340), .val (.int v349), .val (.int v358), .val (.ref b361), .unset] []))
              have f405 := rng32 xa
              have f406 := rng32 xb
              have f407 := rng32 c0
              have f408 := rng32 c1
              have f409 := rng32 c2
              have f410 := rng32 c3
              have f411 := rng32 v331
              have f412 := rng32 v340
              have f413 := rng32 v349
              exact J367 T384 h384 _ (up X384 (by decide) (by decide)) e384 N384 K384 (updF (updF (updF (fun _ => (0 : Int32)) 0 v331) 1 v340) 2 v349) h387 h388 (by intro h; first | rfl | omega) (by intro h; first | rfl | omega) (by intro h; first | rfl | omega) (by intro h; first | rfl | omega) Gb361
          ·
            refine Go.st (fun _ k => XS.icmpYes X377.here hx rfl (pc0 := 131) (pc' := 140) rfl (hb hby at_131) rfl (flt (nltI liI_2 rfl c383)).2.2.2 (by decide) (by decide) k) ?_
            refine Go.st (fun _ k => XS.iload X377.here hx rfl (hb hby at_140) rfl k) ?_
            refine Go.st (fun _ k => XS.iconst X377.here hx rfl (hb hby at_142) k) ?_
            have f414 := liI_3
            have c415 : ¬ (3 < v322.toInt) := by omega
            refine Go.st (fun _ k => XS.icmpYes X377.here hx rfl (pc0 := 143) (pc' := 152) rfl (hb hby at_143) rfl (flt (nltI liI_3 rfl c415)).2.2.2 (by decide) (by decide) k) ?_
            show Go p e below s Q 7 28 (T377.setTop (mkF m 152 #[.val (.int xa), .val (.int xb), .val (.int c0), .val (.int c1), .val (.int c2), .val (.int c3), .val (.int (2 : Int32)), .val (.int v322), .val (.int v331), .val (.int v340), .val (.int v349), .val (.int v358), .val (.ref b361), .unset] []))
            have f416 := rng32 xa
            have f417 := rng32 xb
            have f418 := rng32 c0
            have f419 := rng32 c1
            have f420 := rng32 c2
            have f421 := rng32 c3
            have f422 := rng32 v331
            have f423 := rng32 v340
            have f424 := rng32 v349
            exact J367 T377 h377 _ (up X377 (by decide) (by decide)) e377 N377 K377 (updF (updF (fun _ => (0 : Int32)) 0 v331) 1 v340) h380 h381 (by intro h; first | rfl | omega) (by intro h; first | rfl | omega) (by intro h; first | rfl | omega) (by intro h; first | rfl | omega) Gb361
        ·
          refine Go.st (fun _ k => XS.icmpYes X370.here hx rfl (pc0 := 119) (pc' := 128) rfl (hb hby at_119) rfl (flt (nltI liI_1 rfl c376)).2.2.2 (by decide) (by decide) k) ?_
          refine Go.st (fun _ k => XS.iload X370.here hx rfl (hb hby at_128) rfl k) ?_
          refine Go.st (fun _ k => XS.iconst X370.here hx rfl (hb hby at_130) k) ?_
          have f425 := liI_2
          have c426 : ¬ (2 < v322.toInt) := by omega
          refine Go.st (fun _ k => XS.icmpYes X370.here hx rfl (pc0 := 131) (pc' := 140) rfl (hb hby at_131) rfl (flt (nltI liI_2 rfl c426)).2.2.2 (by decide) (by decide) k) ?_
          show Go p e below s Q 7 28 (T370.setTop (mkF m 140 #[.val (.int xa), .val (.int xb), .val (.int c0), .val (.int c1), .val (.int c2), .val (.int c3), .val (.int (2 : Int32)), .val (.int v322), .val (.int v331), .val (.int v340), .val (.int v349), .val (.int v358), .val (.ref b361), .unset] []))
          refine Go.st (fun _ k => XS.iload X370.here hx rfl (hb hby at_140) rfl k) ?_
          refine Go.st (fun _ k => XS.iconst X370.here hx rfl (hb hby at_142) k) ?_
          have f427 := liI_3
          have c428 : ¬ (3 < v322.toInt) := by omega
          refine Go.st (fun _ k => XS.icmpYes X370.here hx rfl (pc0 := 143) (pc' := 152) rfl (hb hby at_143) rfl (flt (nltI liI_3 rfl c428)).2.2.2 (by decide) (by decide) k) ?_
          show Go p e below s Q 7 28 (T370.setTop (mkF m 152 #[.val (.int xa), .val (.int xb), .val (.int c0), .val (.int c1), .val (.int c2), .val (.int c3), .val (.int (2 : Int32)), .val (.int v322), .val (.int v331), .val (.int v340), .val (.int v349), .val (.int v358), .val (.ref b361), .unset] []))
          have f429 := rng32 xa
          have f430 := rng32 xb
          have f431 := rng32 c0
          have f432 := rng32 c1
          have f433 := rng32 c2
          have f434 := rng32 c3
          have f435 := rng32 v331
          have f436 := rng32 v340
          have f437 := rng32 v349
          exact J367 T370 h370 _ (up X370 (by decide) (by decide)) e370 N370 K370 (updF (fun _ => (0 : Int32)) 0 v331) h373 h374 (by intro h; first | rfl | omega) (by intro h; first | rfl | omega) (by intro h; first | rfl | omega) (by intro h; first | rfl | omega) Gb361
      ·
        refine Go.st (fun _ k => XS.ifYes X361.here hx rfl (pc0 := 107) (pc' := 116) rfl (hb hby at_107) rfl ((if0 _ _).trans (flt (nltI liI_0 rfl c369)).2.2.2) (by decide) (by decide) k) ?_
        refine Go.st (fun _ k => XS.iload X361.here hx rfl (hb hby at_116) rfl k) ?_
        refine Go.st (fun _ k => XS.iconst X361.here hx rfl (hb hby at_118) k) ?_
        have f438 := liI_1
        have c439 : ¬ (1 < v322.toInt) := by omega
        refine Go.st (fun _ k => XS.icmpYes X361.here hx rfl (pc0 := 119) (pc' := 128) rfl (hb hby at_119) rfl (flt (nltI liI_1 rfl c439)).2.2.2 (by decide) (by decide) k) ?_
        refine Go.st (fun _ k => XS.iload X361.here hx rfl (hb hby at_128) rfl k) ?_
        show Go p e below s Q 7 28 (T361.setTop (mkF m 130 #[.val (.int xa), .val (.int xb), .val (.int c0), .val (.int c1), .val (.int c2), .val (.int c3), .val (.int (2 : Int32)), .val (.int v322), .val (.int v331), .val (.int v340), .val (.int v349), .val (.int v358), .val (.ref b361), .unset] [(.int v322)]))
        refine Go.st (fun _ k => XS.iconst X361.here hx rfl (hb hby at_130) k) ?_
        have f440 := liI_2
        have c441 : ¬ (2 < v322.toInt) := by omega
        refine Go.st (fun _ k => XS.icmpYes X361.here hx rfl (pc0 := 131) (pc' := 140) rfl (hb hby at_131) rfl (flt (nltI liI_2 rfl c441)).2.2.2 (by decide) (by decide) k) ?_
        refine Go.st (fun _ k => XS.iload X361.here hx rfl (hb hby at_140) rfl k) ?_
        refine Go.st (fun _ k => XS.iconst X361.here hx rfl (hb hby at_142) k) ?_
        have f442 := liI_3
        have c443 : ¬ (3 < v322.toInt) := by omega
        refine Go.st (fun _ k => XS.icmpYes X361.here hx rfl (pc0 := 143) (pc' := 152) rfl (hb hby at_143) rfl (flt (nltI liI_3 rfl c443)).2.2.2 (by decide) (by decide) k) ?_
        show Go p e below s Q 7 28 (T361.setTop (mkF m 152 #[.val (.int xa), .val (.int xb), .val (.int c0), .val (.int c1), .val (.int c2), .val (.int c3), .val (.int (2 : Int32)), .val (.int v322), .val (.int v331), .val (.int v340), .val (.int v349), .val (.int v358), .val (.ref b361), .unset] []))
        have f444 := rng32 xa
        have f445 := rng32 xb
        have f446 := rng32 c0
        have f447 := rng32 c1
        have f448 := rng32 c2
        have f449 := rng32 c3
        have f450 := rng32 v331
        have f451 := rng32 v340
        have f452 := rng32 v349
        exact J367 T361 h361 _ (up X361 (by decide) (by decide)) e361 N0 K361 (fun _ => (0 : Int32)) B361 h365 (by intro h; first | rfl | omega) (by intro h; first | rfl | omega) (by intro h; first | rfl | omega) (by intro h; first | rfl | omega) Gb361
    intro Tg366 hg366 Lgg366 Xg366 eg366 Ng366 Kg366 KK hfg366_0 hfg366_1 hpg366_0 hpg366_1 hpg366_2 hpg366_3 hpg366_4
    have hk0 : Hid (0 < v322.toInt → (KK 0).toInt = v331.toInt) := fun h => congrArg Int32.toInt (hpg366_0 h)
    have hk1 : Hid (1 < v322.toInt → (KK 1).toInt = v340.toInt) := fun h => congrArg Int32.toInt (hpg366_1 h)
    have hk2 : Hid (2 < v322.toInt → (KK 2).toInt = v349.toInt) := fun h => congrArg Int32.toInt (hpg366_2 h)
    have hk3 : Hid (3 < v322.toInt → (KK 3).toInt = v358.toInt) := fun h => congrArg Int32.toInt (hpg366_3 h)
    refine Go.st (fun _ k => XS.aload Xg366.here hx rfl (hb hby at_152) rfl rfl k) ?_
    refine Go.st (fun _ k => XS.iload Xg366.here hx rfl (hb hby at_154) rfl k) ?_
    have f454 := liI_2
    have p455 : 0 ≤ v322.toInt ∧ v322.toInt ≤ 4 := by omega
    obtain ⟨_, _, ⟨T453, L453, k453, n453⟩, -, X453, ⟨Lc453, hQ453, l453, y453, z453⟩, st453⟩ := Jvm.LawKit.callS Xg366 hx (y := (⟨"com/example/rackwise/rackwise/RackCosts", "clientsOfRacks", "([II)[[I"⟩ : MethodName)) hown (mvT hZ (hw _ (List.mem_of_getElem? (i := 2) rfl))) (mvT hZ (hw _ (List.mem_of_getElem? (i := 3) rfl))) (mvT hZ (hw _ (List.mem_of_getElem? (i := 4) rfl))) (mvT hZ (hw _ (List.mem_of_getElem? (i := 5) rfl))) (by decide) (backOf (W := 0) (rmc2 l Z a0 hw [] b361 v322 KK hg366 n0 (Nat.le_trans Z0 Kg366.1) hfg366_1 p455 (four_rng (by omega) hk0 hk1 hk2 hk3 (by omega) (by omega) (by omega) (by omega))) hZ (hw _ (List.mem_of_getElem? (i := 5) rfl)) (hw _ (List.mem_of_getElem? (i := 4) rfl)) (by decide) (by decide)) (g := (mkF m 156 #[.val (.int xa), .val (.int xb), .val (.int c0), .val (.int c1), .val (.int c2), .val (.int c3), .val (.int (2 : Int32)), .val (.int v322), .val (.int v331), .val (.int v340), .val (.int v349), .val (.int v358), .val (.ref b361), .unset] [(.int (2 : Int32)), (.ref b361)])) rfl (by rw [hml]; rfl) (argsL := [(.ref b361), (.int (2 : Int32))]) (rest := []) (lenOf pd_1 rfl) rfl (by show 2 * 0 + _ ≤ _; exact Nat.le_of_eq rfl) (hb hby at_156) (fun _ _ => ⟨rfl, eg366, (by decide : 1 + 4 ≤ _), (by decide : 4 + 12 ≤ _)⟩)
    dsimp only [Pt.U, Pt.locs, Pt.cells, Pt.slots] at X453 l453 y453 z453 st453 hQ453
    subst l453 y453 z453
    obtain ⟨res_456, w0_457, l0_458, g0_459, w1_460, l1_461, g1_462, rfl, N453q, f463, f464, f465, f466, K453q, h467, h468, h469⟩ := hQ453
    have N453 := Fr.app Ng366 N453q
    have h470 : Exa Z T453.heap b361 "[I" := hfg366_0.keep K453q
    have h471 : Vec Z T453.heap b361 .int v322 (ints KK) := hfg366_1.keep K453q nin0
    have K453 : Keep h0 T453.heap [] := Kg366.trans K453q (fun x hx => (show ∀ x ∈ ([] : List Addr), x ∈ ([] : List Addr) ∨ h0.size ≤ x from all0) x hx)
    refine Go.st st453 ?_
    show Go p e below s Q 7 28 (T453.setTop (mkF m 159 #[.val (.int xa), .val (.int xb), .val (.int c0), .val (.int c1), .val (.int c2), .val (.int c3), .val (.int (2 : Int32)), .val (.int v322), .val (.int v331), .val (.int v340), .val (.int v349), .val (.int v358), .val (.ref b361), .unset] [(.ref res_456)]))
    refine Go.st (fun _ k => XS.astore X453.here hx rfl (hb hby at_159) rfl rfl (l' := #[.val (.int xa), .val (.int xb), .val (.int c0), .val (.int c1), .val (.int c2), .val (.int c3), .val (.int (2 : Int32)), .val (.int v322), .val (.int v331), .val (.int v340), .val (.int v349), .val (.int v358), .val (.ref b361), .val (.ref res_456)]) rfl k) ?_
    refine Go.st (fun _ k => XS.aload X453.here hx rfl (hb hby at_161) rfl rfl k) ?_
    refine Go.st (fun _ k => XS.ifnullNo X453.here hx rfl (hb hby at_163) rfl k) ?_
    refine Go.st (fun _ k => XS.aload X453.here hx rfl (hb hby at_166) rfl rfl k) ?_
    refine Go.st (RV.len X453 hx hZ rfl h467 (g := (mkF m 168 #[.val (.int xa), .val (.int xb), .val (.int c0), .val (.int c1), .val (.int c2), .val (.int c3), .val (.int (2 : Int32)), .val (.int v322), .val (.int v331), .val (.int v340), .val (.int v349), .val (.int v358), .val (.ref b361), .val (.ref res_456)] [(.ref res_456)])) rfl rfl (hb hby at_168)) ?_
    show Go p e below s Q 7 28 (T453.setTop (mkF m 169 #[.val (.int xa), .val (.int xb), .val (.int c0), .val (.int c1), .val (.int c2), .val (.int c3), .val (.int (2 : Int32)), .val (.int v322), .val (.int v331), .val (.int v340), .val (.int v349), .val (.int v358), .val (.ref b361), .val (.ref res_456)] [(.int (2 : Int32))]))
    refine Go.st (fun _ k => XS.iload X453.here hx rfl (hb hby at_169) rfl k) ?_
    refine Go.st (fun _ k => XS.icmpYes X453.here hx rfl (pc0 := 171) (pc' := 176) rfl (hb hby at_171) rfl (teq (eqI liI_2 liI_2 (by decide))).1 (by decide) (by decide) k) ?_
    refine Go.st (fun _ k => XS.iload X453.here hx rfl (hb hby at_176) rfl k) ?_
    refine Go.st (fun _ k => XS.ifNo X453.here hx rfl (hb hby at_178) rfl ((if0 _ _).trans (tlt (ltI liI_0 liI_2 (by decide))).2.2.2) k) ?_
    refine Go.st (fun _ k => XS.aload X453.here hx rfl (hb hby at_181) rfl rfl k) ?_
    refine Go.st (fun _ k => XS.iconst X453.here hx rfl (hb hby at_183) k) ?_
    show Go p e below s Q 7 28 (T453.setTop (mkF m 184 #[.val (.int xa), .val (.int xb), .val (.int c0), .val (.int c1), .val (.int c2), .val (.int c3), .val (.int (2 : Int32)), .val (.int v322), .val (.int v331), .val (.int v340), .val (.int v349), .val (.int v358), .val (.ref b361), .val (.ref res_456)] [(.int (0 : Int32)), (.ref res_456)]))
    refine Go.st (RV.ild X453 hx hZ rfl h467 (j := (0 : Int32)) (by decide) (by decide) (g := (mkF m 184 #[.val (.int xa), .val (.int xb), .val (.int c0), .val (.int c1), .val (.int c2), .val (.int c3), .val (.int (2 : Int32)), .val (.int v322), .val (.int v331), .val (.int v340), .val (.int v349), .val (.int v358), .val (.ref b361), .val (.ref res_456)] [(.int (0 : Int32)), (.ref res_456)])) rfl rfl (hb hby at_184)) ?_
    show Go p e below s Q 7 28 (T453.setTop (mkF m 185 #[.val (.int xa), .val (.int xb), .val (.int c0), .val (.int c1), .val (.int c2), .val (.int c3), .val (.int (2 : Int32)), .val (.int v322), .val (.int v331), .val (.int v340), .val (.int v349), .val (.int v358), .val (.ref b361), .val (.ref res_456)] [(.ref w0_457)]))
    refine Go.st (fun _ k => XS.iconst X453.here hx rfl (hb hby at_185) k) ?_
    refine Go.st (fun _ k => XS.iload X453.here hx rfl (hb hby at_186) rfl k) ?_
    refine Go.st (fun _ k => XS.iload X453.here hx rfl (hb hby at_188) rfl k) ?_
    refine Go.st (fun _ k => XS.iload X453.here hx rfl (hb hby at_190) rfl k) ?_
    refine Go.st (fun _ k => XS.iload X453.here hx rfl (hb hby at_192) rfl k) ?_
    refine Go.st (fun _ k => XS.iload X453.here hx rfl (hb hby at_194) rfl k) ?_
    show Go p e below s Q 7 28 (T453.setTop (mkF m 196 #[.val (.int xa), .val (.int xb), .val (.int c0), .val (.int c1), .val (.int c2), .val (.int c3), .val (.int (2 : Int32)), .val (.int v322), .val (.int v331), .val (.int v340), .val (.int v349), .val (.int v358), .val (.ref b361), .val (.ref res_456)] [(.int v358), (.int v349), (.int v340), (.int v331), (.int v322), (.int (0 : Int32)), (.ref w0_457)]))
    have f475 := rng32 l0_458
    have f476 := liI_0
    have f477 := rng32 v331
    have f478 := rng32 v340
    have f479 := rng32 v349
    have p480 : 0 ≤ v322.toInt ∧ v322.toInt ≤ 4 := by omega
    obtain ⟨_, _, ⟨T474, L474, k474, n474⟩, -, X474, ⟨Lc474, hQ474, l474, y474, z474⟩, st474⟩ := Jvm.LawKit.callS X453 hx (y := (⟨"com/example/rackwise/rackwise/RackCostsClientsOfRacksPinLaw", "rowOk", "([IIIIIII)Z"⟩ : MethodName)) hown (mvT hZ (hw _ (List.mem_of_getElem? (i := 9) rfl))) (mvT hZ (hw _ (List.mem_of_getElem? (i := 10) rfl))) (mvT hZ (hw _ (List.mem_of_getElem? (i := 11) rfl))) (mvT hZ (hw _ (List.mem_of_getElem? (i := 12) rfl))) (by decide) (backOf (W := 0) (rm2 l Z a0 hw [] w0_457 (0 : Int32) v322 v331 v340 v349 v358 l0_458 g0_459 T453.heap n0 (Nat.le_trans Z0 K453.1) h468 p480) hZ (hw _ (List.mem_of_getElem? (i := 12) rfl)) (hw _ (List.mem_of_getElem? (i := 11) rfl)) (by decide) (by decide)) (g := (mkF m 196 #[.val (.int xa), .val (.int xb), .val (.int c0), .val (.int c1), .val (.int c2), .val (.int c3), .val (.int (2 : Int32)), .val (.int v322), .val (.int v331), .val (.int v340), .val (.int v349), .val (.int v358), .val (.ref b361), .val (.ref res_456)] [(.int v358), (.int v349), (.int v340), (.int v331), (.int v322), (.int (0 : Int32)), (.ref w0_457)])) rfl (by rw [hml]; rfl) (argsL := [(.ref w0_457), (.int (0 : Int32)), (.int v322), (.int v331), (.int v340), (.int v349), (.int v358)]) (rest := []) (lenOf pd_2 rfl) rfl (by show 2 * 0 + _ ≤ _; exact Nat.le_of_eq rfl) (hb hby at_196) (fun _ _ => ⟨rfl, rfl, (by decide : 5 + 0 ≤ _), (by decide : 16 + 0 ≤ _)⟩)
    dsimp only [Pt.U, Pt.locs, Pt.cells, Pt.slots] at X474 l474 y474 z474 st474 hQ474
    subst l474 y474 z474
    obtain ⟨rr_481, cc_482, rfl, N474q, f483, f484, e474⟩ := hQ474
    have N474 := Fr.app N453 N474q
    refine Go.st st474 ?_
    show Go p e below s Q 7 28 (T474.setTop (mkF m 199 #[.val (.int xa), .val (.int xb), .val (.int c0), .val (.int c1), .val (.int c2), .val (.int c3), .val (.int (2 : Int32)), .val (.int v322), .val (.int v331), .val (.int v340), .val (.int v349), .val (.int v358), .val (.ref b361), .val (.ref res_456)] [(.int rr_481)]))
    have f485 := rng32 rr_481
    have hrow0 : rr_481.toInt = 1 := by
      obtain ⟨qa, qb, qc, m0, m1, m2, m3⟩ := f483
      have q1 := chain_cnt hk0 hk1 hk2 hk3 (by omega) m0 m1 m2 m3
      have q2 := f463
      have q3 : (0 : Int32).toInt = 0 := by decide
      rw [q3] at q1
      omega
    clear f483 f484
    have c486 : ¬ (rr_481.toInt = 0) := by omega
    refine Go.st (fun _ k => XS.ifYes X474.here hx rfl (pc0 := 199) (pc' := 204) rfl (hb hby at_199) rfl ((if0 _ _).trans (feq (neI rfl liI_0 c486)).2) (by decide) (by decide) k) ?_
    refine Go.st (fun _ k => XS.iload X474.here hx rfl (hb hby at_204) rfl k) ?_
    refine Go.st (fun _ k => XS.iconst X474.here hx rfl (hb hby at_206) k) ?_
    refine Go.st (fun _ k => XS.icmpNo X474.here hx rfl (hb hby at_207) rfl (tlt (ltI liI_1 liI_2 (by decide))).2.2.2 k) ?_
    refine Go.st (fun _ k => XS.aload X474.here hx rfl (hb hby at_210) rfl rfl k) ?_
    refine Go.st (fun _ k => XS.iconst X474.here hx rfl (hb hby at_212) k) ?_
    show Go p e below s Q 7 28 (T474.setTop (mkF m 213 #[.val (.int xa), .val (.int xb), .val (.int c0), .val (.int c1), .val (.int c2), .val (.int c3), .val (.int (2 : Int32)), .val (.int v322), .val (.int v331), .val (.int v340), .val (.int v349), .val (.int v358), .val (.ref b361), .val (.ref res_456)] [(.int (1 : Int32)), (.ref res_456)]))
    refine Go.st (RV.ild X474 hx hZ e474 h467 (j := (1 : Int32)) (by decide) (by decide) (g := (mkF m 213 #[.val (.int xa), .val (.int xb), .val (.int c0), .val (.int c1), .val (.int c2), .val (.int c3), .val (.int (2 : Int32)), .val (.int v322), .val (.int v331), .val (.int v340), .val (.int v349), .val (.int v358), .val (.ref b361), .val (.ref res_456)] [(.int (1 : Int32)), (.ref res_456)])) rfl rfl (hb hby at_213)) ?_
    show Go p e below s Q 7 28 (T474.setTop (mkF m 214 #[.val (.int xa), .val (.int xb), .val (.int c0), .val (.int c1), .val (.int c2), .val (.int c3), .val (.int (2 : Int32)), .val (.int v322), .val (.int v331), .val (.int v340), .val (.int v349), .val (.int v358), .val (.ref b361), .val (.ref res_456)] [(.ref w1_460)]))
    refine Go.st (fun _ k => XS.iconst X474.here hx rfl (hb hby at_214) k) ?_
    refine Go.st (fun _ k => XS.iload X474.here hx rfl (hb hby at_215) rfl k) ?_
    refine Go.st (fun _ k => XS.iload X474.here hx rfl (hb hby at_217) rfl k) ?_
    refine Go.st (fun _ k => XS.iload X474.here hx rfl (hb hby at_219) rfl k) ?_
    refine Go.st (fun _ k => XS.iload X474.here hx rfl (hb hby at_221) rfl k) ?_
    refine Go.st (fun _ k => XS.iload X474.here hx rfl (hb hby at_223) rfl k) ?_
    show Go p e below s Q 7 28 (T474.setTop (mkF m 225 #[.val (.int xa), .val (.int xb), .val (.int c0), .val (.int c1), .val (.int c2), .val (.int c3), .val (.int (2 : Int32)), .val (.int v322), .val (.int v331), .val (.int v340), .val (.int v349), .val (.int v358), .val (.ref b361), .val (.ref res_456)] [(.int v358), (.int v349), (.int v340), (.int v331), (.int v322), (.int (1 : Int32)), (.ref w1_460)]))
    have f489 := rng32 l1_461
    have f490 := liI_1
    have p491 : 0 ≤ v322.toInt ∧ v322.toInt ≤ 4 := by omega
    obtain ⟨_, _, ⟨T488, L488, k488, n488⟩, -, X488, ⟨Lc488, hQ488, l488, y488, z488⟩, st488⟩ := Jvm.LawKit.callS X474 hx (y := (⟨"com/example/rackwise/rackwise/RackCostsClientsOfRacksPinLaw", "rowOk", "([IIIIIII)Z"⟩ : MethodName)) hown (mvT hZ (hw _ (List.mem_of_getElem? (i := 9) rfl))) (mvT hZ (hw _ (List.mem_of_getElem? (i := 10) rfl))) (mvT hZ (hw _ (List.mem_of_getElem? (i := 11) rfl))) (mvT hZ (hw _ (List.mem_of_getElem? (i := 12) rfl))) (by decide) (backOf (W := 0) (rm2 l Z a0 hw [] w1_460 (1 : Int32) v322 v331 v340 v349 v358 l1_461 g1_462 T453.heap n0 (Nat.le_trans Z0 K453.1) h469 p491) hZ (hw _ (List.mem_of_getElem? (i := 12) rfl)) (hw _ (List.mem_of_getElem? (i := 11) rfl)) (by decide) (by decide)) (g := (mkF m 225 #[.val (.int xa), .val (.int xb), .val (.int c0), .val (.int c1), .val (.int c2), .val (.int c3), .val (.int (2 : Int32)), .val (.int v322), .val (.int v331), .val (.int v340), .val (.int v349), .val (.int v358), .val (.ref b361), .val (.ref res_456)] [(.int v358), (.int v349), (.int v340), (.int v331), (.int v322), (.int (1 : Int32)), (.ref w1_460)])) rfl (by rw [hml]; rfl) (argsL := [(.ref w1_460), (.int (1 : Int32)), (.int v322), (.int v331), (.int v340), (.int v349), (.int v358)]) (rest := []) (lenOf pd_2 rfl) rfl (by show 2 * 0 + _ ≤ _; exact Nat.le_of_eq rfl) (hb hby at_225) (fun _ _ => ⟨rfl, e474, (by decide : 5 + 0 ≤ _), (by decide : 16 + 0 ≤ _)⟩)
    dsimp only [Pt.U, Pt.locs, Pt.cells, Pt.slots] at X488 l488 y488 z488 st488 hQ488
    subst l488 y488 z488
    obtain ⟨rr_492, cc_493, rfl, N488q, f494, f495, e488⟩ := hQ488
    have N488 := Fr.app N474 N488q
    refine Go.st st488 ?_
    show Go p e below s Q 7 28 (T488.setTop (mkF m 228 #[.val (.int xa), .val (.int xb), .val (.int c0), .val (.int c1), .val (.int c2), .val (.int c3), .val (.int (2 : Int32)), .val (.int v322), .val (.int v331), .val (.int v340), .val (.int v349), .val (.int v358), .val (.ref b361), .val (.ref res_456)] [(.int rr_492)]))
    have f496 := rng32 rr_492
    have hrow1 : rr_492.toInt = 1 := by
      obtain ⟨qa, qb, qc, m0, m1, m2, m3⟩ := f494
      have q1 := chain_cnt hk0 hk1 hk2 hk3 (by omega) m0 m1 m2 m3
      have q2 := f464
      have q3 : (1 : Int32).toInt = 1 := by decide
      rw [q3] at q1
      omega
    clear f494 f495
    have c497 : ¬ (rr_492.toInt = 0) := by omega
    refine Go.st (fun _ k => XS.ifYes X488.here hx rfl (pc0 := 228) (pc' := 233) rfl (hb hby at_228) rfl ((if0 _ _).trans (feq (neI rfl liI_0 c497)).2) (by decide) (by decide) k) ?_
    refine Go.st (fun _ k => XS.iload X488.here hx rfl (hb hby at_233) rfl k) ?_
    refine Go.st (fun _ k => XS.iconst X488.here hx rfl (hb hby at_235) k) ?_
    refine Go.st (fun _ k => XS.icmpYes X488.here hx rfl (pc0 := 236) (pc' := 262) rfl (hb hby at_236) rfl (flt (nltI liI_2 liI_2 (by decide))).2.2.2 (by decide) (by decide) k) ?_
    refine Go.st (fun _ k => XS.iload X488.here hx rfl (hb hby at_262) rfl k) ?_
    refine Go.st (fun _ k => XS.iconst X488.here hx rfl (hb hby at_264) k) ?_
    show Go p e below s Q 7 28 (T488.setTop (mkF m 265 #[.val (.int xa), .val (.int xb), .val (.int c0), .val (.int c1), .val (.int c2), .val (.int c3), .val (.int (2 : Int32)), .val (.int v322), .val (.int v331), .val (.int v340), .val (.int v349), .val (.int v358), .val (.ref b361), .val (.ref res_456)] [(.int (3 : Int32)), (.int (2 : Int32))]))
    refine Go.st (fun _ k => XS.icmpYes X488.here hx rfl (pc0 := 265) (pc' := 291) rfl (hb hby at_265) rfl (flt (nltI liI_3 liI_2 (by decide))).2.2.2 (by decide) (by decide) k) ?_
    show Go p e below s Q 7 28 (T488.setTop (mkF m 291 #[.val (.int xa), .val (.int xb), .val (.int c0), .val (.int c1), .val (.int c2), .val (.int c3), .val (.int (2 : Int32)), .val (.int v322), .val (.int v331), .val (.int v340), .val (.int v349), .val (.int v358), .val (.ref b361), .val (.ref res_456)] []))
    suffices J499 : ∀ (Tg498 : State) (hg498 : Heap) (Lgg498 : List Loc) (Xg498 : Stand p l e room_1 s m #[(.int xa), (.int xb), (.int c0), (.int c1), (.int c2), (.int c3)] below meth c Tg498 Lgg498 5 16) (eg498 : Tg498.heap = hg498) (Ng498 : Fr n0 Lgg498) (Kg498 : Keep h0 hg498 []) (hfg498_0 : Exa Z hg498 b361 "[I") (hfg498_1 : Vec Z hg498 b361 .int v322 (ints KK)) (hfg498_2 : RV Z hg498 res_456 (2 : Int32) [(.ref w0_457), (.ref w1_460)]) (hfg498_3 : Vec Z hg498 w0_457 .int l0_458 (ints g0_459)) (hfg498_4 : Vec Z hg498 w1_460 .int l1_461 (ints g1_462)), Go p e below s Q 7 28 (Tg498.setTop (mkF m 310 #[.val (.int xa), .val (.int xb), .val (.int c0), .val (.int c1), .val (.int c2), .val (.int c3), .val (.int (2 : Int32)), .val (.int v322), .val (.int v331), .val (.int v340), .val (.int v349), .val (.int v358), .val (.ref b361), .val (.ref res_456)] [])) by
      refine Go.st (fun _ k => XS.iload X488.here hx rfl (hb hby at_291) rfl k) ?_
      by_cases c500 : 0 < v322.toInt
      ·
        refine Go.st (fun _ k => XS.ifNo X488.here hx rfl (hb hby at_293) rfl ((if0 _ _).trans (tlt (ltI liI_0 rfl c500)).2.2.2) k) ?_
        refine Go.st (fun _ k => XS.aload X488.here hx rfl (hb hby at_296) rfl rfl k) ?_
        refine Go.st (fun _ k => XS.iconst X488.here hx rfl (hb hby at_298) k) ?_
        refine Go.st (fun _ k => XS.iload X488.here hx rfl (hb hby at_299) rfl k) ?_
        refine Go.st (fun _ k => XS.iconst X488.here hx rfl (hb hby at_301) k) ?_
        show Go p e below s Q 7 28 (T488.setTop (mkF m 302 #[.val (.int xa), .val (.int xb), .val (.int c0), .val (.int c1), .val (.int c2), .val (.int c3), .val (.int (2 : Int32)), .val (.int v322), .val (.int v331), .val (.int v340), .val (.int v349), .val (.int v358), .val (.ref b361), .val (.ref res_456)] [(.int (0 : Int32)), (.int v331), (.int (0 : Int32)), (.ref res_456)]))
        have hra0 : (0 : Int32).toInt = cnt KK 0 v331.toInt := by
          have e0 : cnt KK 0 v331.toInt = 0 := rfl
          omega
        have hrb0 := cnt_rng KK 0 v331.toInt
        have p502 : 0 ≤ v331.toInt ∧ v331.toInt < 2 ∧ 0 ≤ (0 : Int32).toInt := by omega
        obtain ⟨_, _, ⟨T501, L501, k501, n501⟩, -, X501, ⟨Lc501, hQ501, l501, y501, z501⟩, st501⟩ := Jvm.LawKit.callS X488 hx (y := (⟨"com/example/rackwise/rackwise/RackCostsClientsOfRacksPinLaw", "placed", "([[IIII)Z"⟩ : MethodName)) hown (mvT hZ (hw _ (List.mem_of_getElem? (i := 16) rfl))) (mvT hZ (hw _ (List.mem_of_getElem? (i := 17) rfl))) (mvT hZ (hw _ (List.mem_of_getElem? (i := 11) rfl))) (mvT hZ (hw _ (List.mem_of_getElem? (i := 18) rfl))) (by decide) (backOf (W := 0) (rmp2 l Z a0 hw [] res_456 (0 : Int32) v331 (0 : Int32) w0_457 l0_458 g0_459 w1_460 l1_461 g1_462 T453.heap n0 (Nat.le_trans Z0 K453.1) h467 h468 h469 p502) hZ (hw _ (List.mem_of_getElem? (i := 18) rfl)) (hw _ (List.mem_of_getElem? (i := 11) rfl)) (by decide) (by decide)) (g := (mkF m 302 #[.val (.int xa), .val (.int xb), .val (.int c0), .val (.int c1), .val (.int c2), .val (.int c3), .val (.int (2 : Int32)), .val (.int v322), .val (.int v331), .val (.int v340), .val (.int v349), .val (.int v358), .val (.ref b361), .val (.ref res_456)] [(.int (0 : Int32)), (.int v331), (.int (0 : Int32)), (.ref res_456)])) rfl (by rw [hml]; rfl) (argsL := [(.ref res_456), (.int (0 : Int32)), (.int v331), (.int (0 : Int32))]) (rest := []) (lenOf pd_3 rfl) rfl (by show 2 * 0 + _ ≤ _; exact Nat.le_of_eq rfl) (hb hby at_302) (fun _ _ => ⟨rfl, e488, (by decide : 5 + 0 ≤ _), (by decide : 16 + 0 ≤ _)⟩)
        dsimp only [Pt.U, Pt.locs, Pt.cells, Pt.slots] at X501 l501 y501 z501 st501 hQ501
        subst l501 y501 z501
        obtain ⟨rr_503, rfl, N501q, f504, f505, e501⟩ := hQ501
        have N501 := Fr.app N488 N501q
        refine Go.st st501 ?_
        show Go p e below s Q 7 28 (T501.setTop (mkF m 305 #[.val (.int xa), .val (.int xb), .val (.int c0), .val (.int c1), .val (.int c2), .val (.int c3), .val (.int (2 : Int32)), .val (.int v322), .val (.int v331), .val (.int v340), .val (.int v349), .val (.int v358), .val (.ref b361), .val (.ref res_456)] [(.int rr_503)]))
        have f506 := rng32 rr_503
        have hone0 : rr_503.toInt = 1 := by
          rcases (by omega : v331.toInt = 0 ∨ v331.toInt = 1) with q1 | q1
          · exact placed_ok (i := 0) f463 f465 (by omega) (by rw [hk0 (by omega)]; exact q1) (by rw [← q1]; exact hra0) (by decide) (f504 q1)
          · exact placed_ok (i := 0) f464 f466 (by omega) (by rw [hk0 (by omega)]; exact q1) (by rw [← q1]; exact hra0) (by decide) (f505 q1)
        clear f504 f505
        have c507 : ¬ (rr_503.toInt = 0) := by omega
        refine Go.st (fun _ k => XS.ifYes X501.here hx rfl (pc0 := 305) (pc' := 310) rfl (hb hby at_305) rfl ((if0 _ _).trans (feq (neI rfl liI_0 c507)).2) (by decide) (by decide) k) ?_
        show Go p e below s Q 7 28 (T501.setTop (mkF m 310 #[.val (.int xa), .val (.int xb), .val (.int c0), .val (.int c1), .val (.int c2), .val (.int c3), .val (.int (2 : Int32)), .val (.int v322), .val (.int v331), .val (.int v340), .val (.int v349), .val (.int v358), .val (.ref b361), .val (.ref res_456)] []))
        have f508 := rng32 xa
        have f509 := rng32 xb
        have f510 := rng32 c0
        have f511 := rng32 c1
        have f512 := rng32 c2
        have f513 := rng32 c3
        exact J499 T501 T453.heap _ (up X501 (by decide) (by decide)) e501 N501 K453 h470 h471 h467 h468 h469
      ·
        refine Go.st (fun _ k => XS.ifYes X488.here hx rfl (pc0 := 293) (pc' := 310) rfl (hb hby at_293) rfl ((if0 _ _).trans (flt (nltI liI_0 rfl c500)).2.2.2) (by decide) (by decide) k) ?_
        show Go p e below s Q 7 28 (T488.setTop (mkF m 310 #[.val (.int xa), .val (.int xb), .val (.int c0), .val (.int c1), .val (.int c2), .val (.int c3), .val (.int (2 : Int32)), .val (.int v322), .val (.int v331), .val (.int v340), .val (.int v349), .val (.int v358), .val (.ref b361), .val (.ref res_456)] []))
        have f514 := rng32 xa
        have f515 := rng32 xb
        have f516 := rng32 c0
        have f517 := rng32 c1
        have f518 := rng32 c2
        have f519 := rng32 c3
        exact J499 T488 T453.heap _ (up X488 (by decide) (by decide)) e488 N488 K453 h470 h471 h467 h468 h469
    intro Tg498 hg498 Lgg498 Xg498 eg498 Ng498 Kg498 hfg498_0 hfg498_1 hfg498_2 hfg498_3 hfg498_4
    suffices J521 : ∀ (Tg520 : State) (hg520 : Heap) (Lgg520 : List Loc) (Xg520 : Stand p l e room_1 s m #[(.int xa), (.int xb), (.int c0), (.int c1), (.int c2), (.int c3)] below meth c Tg520 Lgg520 5 16) (eg520 : Tg520.heap = hg520) (Ng520 : Fr n0 Lgg520) (Kg520 : Keep h0 hg520 []) (hfg520_0 : Exa Z hg520 b361 "[I") (hfg520_1 : Vec Z hg520 b361 .int v322 (ints KK)) (hfg520_2 : RV Z hg520 res_456 (2 : Int32) [(.ref w0_457), (.ref w1_460)]) (hfg520_3 : Vec Z hg520 w0_457 .int l0_458 (ints g0_459)) (hfg520_4 : Vec Z hg520 w1_460 .int l1_461 (ints g1_462)), Go p e below s Q 7 28 (Tg520.setTop (mkF m 336 #[.val (.int xa), .val (.int xb), .val (.int c0), .val (.int c1), .val (.int c2), .val (.int c3), .val (.int (2 : Int32)), .val (.int v322), .val (.int v331), .val (.int v340), .val (.int v349), .val (.int v358), .val (.ref b361), .val (.ref res_456)] [])) by
      refine Go.st (fun _ k => XS.iload Xg498.here hx rfl (hb hby at_310) rfl k) ?_
      refine Go.st (fun _ k => XS.iconst Xg498.here hx rfl (hb hby at_312) k) ?_
      by_cases c522 : 1 < v322.toInt
      ·
        refine Go.st (fun _ k => XS.icmpNo Xg498.here hx rfl (hb hby at_313) rfl (tlt (ltI liI_1 rfl c522)).2.2.2 k) ?_
        refine Go.st (fun _ k => XS.aload Xg498.here hx rfl (hb hby at_316) rfl rfl k) ?_
        refine Go.st (fun _ k => XS.iconst Xg498.here hx rfl (hb hby at_318) k) ?_
        refine Go.st (fun _ k => XS.iload Xg498.here hx rfl (hb hby at_319) rfl k) ?_
        show Go p e below s Q 7 28 (Tg498.setTop (mkF m 321 #[.val (.int xa), .val (.int xb), .val (.int c0), .val (.int c1), .val (.int c2), .val (.int c3), .val (.int (2 : Int32)), .val (.int v322), .val (.int v331), .val (.int v340), .val (.int v349), .val (.int v358), .val (.ref b361), .val (.ref res_456)] [(.int v340), (.int (1 : Int32)), (.ref res_456)]))
        refine Go.st (fun _ k => XS.iload Xg498.here hx rfl (hb hby at_321) rfl k) ?_
        refine Go.st (fun _ k => XS.iload Xg498.here hx rfl (hb hby at_323) rfl k) ?_
        obtain ⟨_, _, ⟨T523, L523, k523, n523⟩, -, X523, ⟨Lc523, hQ523, l523, y523, z523⟩, st523⟩ := Jvm.LawKit.callS Xg498 hx (y := (⟨"com/example/rackwise/rackwise/RackCostsClientsOfRacksPinLaw", "same", "(II)I"⟩ : MethodName)) hown (mvT hZ (hw _ (List.mem_of_getElem? (i := 19) rfl))) (mvT hZ (hw _ (List.mem_of_getElem? (i := 20) rfl))) (mvT hZ (hw _ (List.mem_of_getElem? (i := 11) rfl))) (mvT hZ (hw _ (List.mem_of_getElem? (i := 21) rfl))) (by decide) (backOf (W := 3) (rm5 l Z a0 hw [] v331 v340 hg498 n0 (Nat.le_trans Z0 Kg498.1) ) hZ (hw _ (List.mem_of_getElem? (i := 21) rfl)) (hw _ (List.mem_of_getElem? (i := 11) rfl)) (by decide) (by decide)) (g := (mkF m 325 #[.val (.int xa), .val (.int xb), .val (.int c0), .val (.int c1), .val (.int c2), .val (.int c3), .val (.int (2 : Int32)), .val (.int v322), .val (.int v331), .val (.int v340), .val (.int v349), .val (.int v358), .val (.ref b361), .val (.ref res_456)] [(.int v340), (.int v331), (.int v340), (.int (1 : Int32)), (.ref res_456)])) rfl (by rw [hml]; rfl) (argsL := [(.int v331), (.int v340)]) (rest := [(.int v340), (.int (1 : Int32)), (.ref res_456)]) (lenOf pd_4 rfl) rfl (by show 2 * 0 + _ ≤ _; exact Nat.le_of_eq rfl) (hb hby at_325) (fun _ _ => ⟨rfl, eg498, (by decide : 5 + 0 ≤ _), (by decide : 16 + 0 ≤ _)⟩)
        dsimp only [Pt.U, Pt.locs, Pt.cells, Pt.slots] at X523 l523 y523 z523 st523 hQ523
        subst l523 y523 z523
        obtain ⟨rr_524, rfl, N523q, f525, e523⟩ := hQ523
        have N523 := Fr.app Ng498 N523q
        refine Go.st st523 ?_
        show Go p e below s Q 7 28 (T523.setTop (mkF m 328 #[.val (.int xa), .val (.int xb), .val (.int c0), .val (.int c1), .val (.int c2), .val (.int c3), .val (.int (2 : Int32)), .val (.int v322), .val (.int v331), .val (.int v340), .val (.int v349), .val (.int v358), .val (.ref b361), .val (.ref res_456)] [(.int rr_524), (.int v340), (.int (1 : Int32)), (.ref res_456)]))
        have f526 := rng32 rr_524
        have hra1 : rr_524.toInt = cnt KK 1 v340.toInt := by
          have i0 := ind_c (KK 0).toInt v340.toInt
          have j0 := hk0 (by omega)
          have e0 : cnt KK 0 v340.toInt = 0 := rfl
          have e1 : cnt KK 1 v340.toInt = cnt KK 0 v340.toInt + ind (KK 0).toInt v340.toInt := rfl
          omega
        have hrb1 := cnt_rng KK 1 v340.toInt
        have p528 : 0 ≤ v340.toInt ∧ v340.toInt < 2 ∧ 0 ≤ rr_524.toInt := by omega
        obtain ⟨_, _, ⟨T527, L527, k527, n527⟩, -, X527, ⟨Lc527, hQ527, l527, y527, z527⟩, st527⟩ := Jvm.LawKit.callS X523 hx (y := (⟨"com/example/rackwise/rackwise/RackCostsClientsOfRacksPinLaw", "placed", "([[IIII)Z"⟩ : MethodName)) hown (mvT hZ (hw _ (List.mem_of_getElem? (i := 16) rfl))) (mvT hZ (hw _ (List.mem_of_getElem? (i := 17) rfl))) (mvT hZ (hw _ (List.mem_of_getElem? (i := 11) rfl))) (mvT hZ (hw _ (List.mem_of_getElem? (i := 18) rfl))) (by decide) (backOf (W := 0) (rmp2 l Z a0 hw [] res_456 (1 : Int32) v340 rr_524 w0_457 l0_458 g0_459 w1_460 l1_461 g1_462 hg498 n0 (Nat.le_trans Z0 Kg498.1) hfg498_2 hfg498_3 hfg498_4 p528) hZ (hw _ (List.mem_of_getElem? (i := 18) rfl)) (hw _ (List.mem_of_getElem? (i := 11) rfl)) (by decide) (by decide)) (g := (mkF m 328 #[.val (.int xa), .val (.int xb), .val (.int c0), .val (.int c1), .val (.int c2), .val (.int c3), .val (.int (2 : Int32)), .val (.int v322), .val (.int v331), .val (.int v340), .val (.int v349), .val (.int v358), .val (.ref b361), .val (.ref res_456)] [(.int rr_524), (.int v340), (.int (1 : Int32)), (.ref res_456)])) rfl (by rw [hml]; rfl) (argsL := [(.ref res_456), (.int (1 : Int32)), (.int v340), (.int rr_524)]) (rest := []) (lenOf pd_3 rfl) rfl (by show 2 * 0 + _ ≤ _; exact Nat.le_of_eq rfl) (hb hby at_328) (fun _ _ => ⟨rfl, e523, (by decide : 5 + 0 ≤ _), (by decide : 16 + 0 ≤ _)⟩)
        dsimp only [Pt.U, Pt.locs, Pt.cells, Pt.slots] at X527 l527 y527 z527 st527 hQ527
        subst l527 y527 z527
        obtain ⟨rr_529, rfl, N527q, f530, f531, e527⟩ := hQ527
        have N527 := Fr.app N523 N527q
        refine Go.st st527 ?_
        show Go p e below s Q 7 28 (T527.setTop (mkF m 331 #[.val (.int xa), .val (.int xb), .val (.int c0), .val (.int c1), .val (.int c2), .val (.int c3), .val (.int (2 : Int32)), .val (.int v322), .val (.int v331), .val (.int v340), .val (.int v349), .val (.int v358), .val (.ref b361), .val (.ref res_456)] [(.int rr_529)]))
        have f532 := rng32 rr_529
        have hone1 : rr_529.toInt = 1 := by
          rcases (by omega : v340.toInt = 0 ∨ v340.toInt = 1) with q1 | q1
          · exact placed_ok (i := 1) f463 f465 (by omega) (by rw [hk1 (by omega)]; exact q1) (by rw [← q1]; exact hra1) (by decide) (f530 q1)
          · exact placed_ok (i := 1) f464 f466 (by omega) (by rw [hk1 (by omega)]; exact q1) (by rw [← q1]; exact hra1) (by decide) (f531 q1)
        clear f530 f531
        have c533 : ¬ (rr_529.toInt = 0) := by omega
        refine Go.st (fun _ k => XS.ifYes X527.here hx rfl (pc0 := 331) (pc' := 336) rfl (hb hby at_331) rfl ((if0 _ _).trans (feq (neI rfl liI_0 c533)).2) (by decide) (by decide) k) ?_
        show Go p e below s Q 7 28 (T527.setTop (mkF m 336 #[.val (.int xa), .val (.int xb), .val (.int c0), .val (.int c1), .val (.int c2), .val (.int c3), .val (.int (2 : Int32)), .val (.int v322), .val (.int v331), .val (.int v340), .val (.int v349), .val (.int v358), .val (.ref b361), .val (.ref res_456)] []))
        have f534 := rng32 xa
        have f535 := rng32 xb
        have f536 := rng32 c0
        have f537 := rng32 c1
        have f538 := rng32 c2
        have f539 := rng32 c3
        exact J521 T527 hg498 _ (up X527 (by decide) (by decide)) e527 N527 Kg498 hfg498_0 hfg498_1 hfg498_2 hfg498_3 hfg498_4
      ·
        refine Go.st (fun _ k => XS.icmpYes Xg498.here hx rfl (pc0 := 313) (pc' := 336) rfl (hb hby at_313) rfl (flt (nltI liI_1 rfl c522)).2.2.2 (by decide) (by decide) k) ?_
        show Go p e below s Q 7 28 (Tg498.setTop (mkF m 336 #[.val (.int xa), .val (.int xb), .val (.int c0), .val (.int c1), .val (.int c2), .val (.int c3), .val (.int (2 : Int32)), .val (.int v322), .val (.int v331), .val (.int v340), .val (.int v349), .val (.int v358), .val (.ref b361), .val (.ref res_456)] []))
        have f540 := rng32 xa
        have f541 := rng32 xb
        have f542 := rng32 c0
        have f543 := rng32 c1
        have f544 := rng32 c2
        have f545 := rng32 c3
        exact J521 Tg498 hg498 _ (up Xg498 (by decide) (by decide)) eg498 Ng498 Kg498 hfg498_0 hfg498_1 hfg498_2 hfg498_3 hfg498_4
    intro Tg520 hg520 Lgg520 Xg520 eg520 Ng520 Kg520 hfg520_0 hfg520_1 hfg520_2 hfg520_3 hfg520_4
    suffices J547 : ∀ (Tg546 : State) (hg546 : Heap) (Lgg546 : List Loc) (Xg546 : Stand p l e room_1 s m #[(.int xa), (.int xb), (.int c0), (.int c1), (.int c2), (.int c3)] below meth c Tg546 Lgg546 5 16) (eg546 : Tg546.heap = hg546) (Ng546 : Fr n0 Lgg546) (Kg546 : Keep h0 hg546 []) (hfg546_0 : Exa Z hg546 b361 "[I") (hfg546_1 : Vec Z hg546 b361 .int v322 (ints KK)) (hfg546_2 : RV Z hg546 res_456 (2 : Int32) [(.ref w0_457), (.ref w1_460)]) (hfg546_3 : Vec Z hg546 w0_457 .int l0_458 (ints g0_459)) (hfg546_4 : Vec Z hg546 w1_460 .int l1_461 (ints g1_462)), Go p e below s Q 7 28 (Tg546.setTop (mkF m 370 #[.val (.int xa), .val (.int xb), .val (.int c0), .val (.int c1), .val (.int c2), .val (.int c3), .val (.int (2 : Int32)), .val (.int v322), .val (.int v331), .val (.int v340), .val (.int v349), .val (.int v358), .val (.ref b361), .val (.ref res_456)] [])) by
      refine Go.st (fun _ k => XS.iload Xg520.here hx rfl (hb hby at_336) rfl k) ?_
      refine Go.st (fun _ k => XS.iconst Xg520.here hx rfl (hb hby at_338) k) ?_
      by_cases c548 : 2 < v322.toInt
      ·
        refine Go.st (fun _ k => XS.icmpNo Xg520.here hx rfl (hb hby at_339) rfl (tlt (ltI liI_2 rfl c548)).2.2.2 k) ?_
        refine Go.st (fun _ k => XS.aload Xg520.here hx rfl (hb hby at_342) rfl rfl k) ?_
        refine Go.st (fun _ k => XS.iconst Xg520.here hx rfl (hb hby at_344) k) ?_
        refine Go.st (fun _ k => XS.iload Xg520.here hx rfl (hb hby at_345) rfl k) ?_
        show Go p e below s Q 7 28 (Tg520.setTop (mkF m 347 #[.val (.int xa), .val (.int xb), .val (.int c0), .val (.int c1), .val (.int c2), .val (.int c3), .val (.int (2 : Int32)), .val (.int v322), .val (.int v331), .val (.int v340), .val (.int v349), .val (.int v358), .val (.ref b361), .val (.ref res_456)] [(.int v349), (.int (2 : Int32)), (.ref res_456)]))
        refine Go.st (fun _ k => XS.iload Xg520.here hx rfl (hb hby at_347) rfl k) ?_
        refine Go.st (fun _ k => XS.iload Xg520.here hx rfl (hb hby at_349) rfl k) ?_
        obtain ⟨_, _, ⟨T549, L549, k549, n549⟩, -, X549, ⟨Lc549, hQ549, l549, y549, z549⟩, st549⟩ := Jvm.LawKit.callS Xg520 hx (y := (⟨"com/example/rackwise/rackwise/RackCostsClientsOfRacksPinLaw", "same", "(II)I"⟩ : MethodName)) hown (mvT hZ (hw _ (List.mem_of_getElem? (i := 19) rfl))) (mvT hZ (hw _ (List.mem_of_getElem? (i := 20) rfl))) (mvT hZ (hw _ (List.mem_of_getElem? (i := 11) rfl))) (mvT hZ (hw _ (List.mem_of_getElem? (i := 21) rfl))) (by decide) (backOf (W := 3) (rm5 l Z a0 hw [] v331 v349 hg520 n0 (Nat.le_trans Z0 Kg520.1) ) hZ (hw _ (List.mem_of_getElem? (i := 21) rfl)) (hw _ (List.mem_of_getElem? (i := 11) rfl)) (by decide) (by decide)) (g := (mkF m 351 #[.val (.int xa), .val (.int xb), .val (.int c0), .val (.int c1), .val (.int c2), .val (.int c3), .val (.int (2 : Int32)), .val (.int v322), .val (.int v331), .val (.int v340), .val (.int v349), .val (.int v358), .val (.ref b361), .val (.ref res_456)] [(.int v349), (.int v331), (.int v349), (.int (2 : Int32)), (.ref res_456)])) rfl (by rw [hml]; rfl) (argsL := [(.int v331), (.int v349)]) (rest := [(.int v349), (.int (2 : Int32)), (.ref res_456)]) (lenOf pd_4 rfl) rfl (by show 2 * 0 + _ ≤ _; exact Nat.le_of_eq rfl) (hb hby at_351) (fun _ _ => ⟨rfl, eg520, (by decide : 5 + 0 ≤ _), (by decide : 16 + 0 ≤ _)⟩)
        dsimp only [Pt.U, Pt.locs, Pt.cells, Pt.slots] at X549 l549 y549 z549 st549 hQ549
        subst l549 y549 z549
        obtain ⟨rr_550, rfl, N549q, f551, e549⟩ := hQ549
        have N549 := Fr.app Ng520 N549q
        refine Go.st st549 ?_
        show Go p e below s Q 7 28 (T549.setTop (mkF m 354 #[.val (.int xa), .val (.int xb), .val (.int c0), .val (.int c1), .val (.int c2), .val (.int c3), .val (.int (2 : Int32)), .val (.int v322), .val (.int v331), .val (.int v340), .val (.int v349), .val (.int v358), .val (.ref b361), .val (.ref res_456)] [(.int rr_550), (.int v349), (.int (2 : Int32)), (.ref res_456)]))
        have f552 := rng32 rr_550
        refine Go.st (fun _ k => XS.iload X549.here hx rfl (hb hby at_354) rfl k) ?_
        refine Go.st (fun _ k => XS.iload X549.here hx rfl (hb hby at_356) rfl k) ?_
        obtain ⟨_, _, ⟨T553, L553, k553, n553⟩, -, X553, ⟨Lc553, hQ553, l553, y553, z553⟩, st553⟩ := Jvm.LawKit.callS X549 hx (y := (⟨"com/example/rackwise/rackwise/RackCostsClientsOfRacksPinLaw", "same", "(II)I"⟩ : MethodName)) hown (mvT hZ (hw _ (List.mem_of_getElem? (i := 19) rfl))) (mvT hZ (hw _ (List.mem_of_getElem? (i := 20) rfl))) (mvT hZ (hw _ (List.mem_of_getElem? (i := 11) rfl))) (mvT hZ (hw _ (List.mem_of_getElem? (i := 21) rfl))) (by decide) (backOf (W := 4) (rm5 l Z a0 hw [] v340 v349 hg520 n0 (Nat.le_trans Z0 Kg520.1) ) hZ (hw _ (List.mem_of_getElem? (i := 21) rfl)) (hw _ (List.mem_of_getElem? (i := 11) rfl)) (by decide) (by decide)) (g := (mkF m 358 #[.val (.int xa), .val (.int xb), .val (.int c0), .val (.int c1), .val (.int c2), .val (.int c3), .val (.int (2 : Int32)), .val (.int v322), .val (.int v331), .val (.int v340), .val (.int v349), .val (.int v358), .val (.ref b361), .val (.ref res_456)] [(.int v349), (.int v340), (.int rr_550), (.int v349), (.int (2 : Int32)), (.ref res_456)])) rfl (by rw [hml]; rfl) (argsL := [(.int v340), (.int v349)]) (rest := [(.int rr_550), (.int v349), (.int (2 : Int32)), (.ref res_456)]) (lenOf pd_4 rfl) rfl (by show 2 * 0 + _ ≤ _; exact Nat.le_of_eq rfl) (hb hby at_358) (fun _ _ => ⟨rfl, e549, (by decide : 5 + 0 ≤ _), (by decide : 16 + 0 ≤ _)⟩)
        dsimp only [Pt.U, Pt.locs, Pt.cells, Pt.slots] at X553 l553 y553 z553 st553 hQ553
        subst l553 y553 z553
        obtain ⟨rr_554, rfl, N553q, f555, e553⟩ := hQ553
        have N553 := Fr.app N549 N553q
        refine Go.st st553 ?_
        show Go p e below s Q 7 28 (T553.setTop (mkF m 361 #[.val (.int xa), .val (.int xb), .val (.int c0), .val (.int c1), .val (.int c2), .val (.int c3), .val (.int (2 : Int32)), .val (.int v322), .val (.int v331), .val (.int v340), .val (.int v349), .val (.int v358), .val (.ref b361), .val (.ref res_456)] [(.int rr_554), (.int rr_550), (.int v349), (.int (2 : Int32)), (.ref res_456)]))
        have f556 := rng32 rr_554
        refine Go.st (fun _ k => XS.iadd X553.here hx rfl (hb hby at_361) rfl k) ?_
        show Go p e below s Q 7 28 (T553.setTop (mkF m 362 #[.val (.int xa), .val (.int xb), .val (.int c0), .val (.int c1), .val (.int c2), .val (.int c3), .val (.int (2 : Int32)), .val (.int v322), .val (.int v331), .val (.int v340), .val (.int v349), .val (.int v358), .val (.ref b361), .val (.ref res_456)] [(.int (rr_550 + rr_554)), (.int v349), (.int (2 : Int32)), (.ref res_456)]))
        have f557 := c_iadd rr_550 rr_554
        have f558 := rng32 (rr_550 + rr_554)
        have hra2 : (rr_550 + rr_554).toInt = cnt KK 2 v349.toInt := by
          have i0 := ind_c (KK 0).toInt v349.toInt
          have j0 := hk0 (by omega)
          have i1 := ind_c (KK 1).toInt v349.toInt
          have j1 := hk1 (by omega)
          have e0 : cnt KK 0 v349.toInt = 0 := rfl
          have e1 : cnt KK 1 v349.toInt = cnt KK 0 v349.toInt + ind (KK 0).toInt v349.toInt := rfl
          have e2 : cnt KK 2 v349.toInt = cnt KK 1 v349.toInt + ind (KK 1).toInt v349.toInt := rfl
          omega
        have hrb2 := cnt_rng KK 2 v349.toInt
        have p560 : 0 ≤ v349.toInt ∧ v349.toInt < 2 ∧ 0 ≤ (rr_550 + rr_554).toInt := by omega
        obtain ⟨_, _, ⟨T559, L559, k559, n559⟩, -, X559, ⟨Lc559, hQ559, l559, y559, z559⟩, st559⟩ := Jvm.LawKit.callS X553 hx (y := (⟨"com/example/rackwise/rackwise/RackCostsClientsOfRacksPinLaw", "placed", "([[IIII)Z"⟩ : MethodName)) hown (mvT hZ (hw _ (List.mem_of_getElem? (i := 16) rfl))) (mvT hZ (hw _ (List.mem_of_getElem? (i := 17) rfl))) (mvT hZ (hw _ (List.mem_of_getElem? (i := 11) rfl))) (mvT hZ (hw _ (List.mem_of_getElem? (i := 18) rfl))) (by decide) (backOf (W := 0) (rmp2 l Z a0 hw [] res_456 (2 : Int32) v349 (rr_550 + rr_554) w0_457 l0_458 g0_459 w1_460 l1_461 g1_462 hg520 n0 (Nat.le_trans Z0 Kg520.1) hfg520_2 hfg520_3 hfg520_4 p560) hZ (hw _ (List.mem_of_getElem? (i := 18) rfl)) (hw _ (List.mem_of_getElem? (i := 11) rfl)) (by decide) (by decide)) (g := (mkF m 362 #[.val (.int xa), .val (.int xb), .val (.int c0), .val (.int c1), .val (.int c2), .val (.int c3), .val (.int (2 : Int32)), .val (.int v322), .val (.int v331), .val (.int v340), .val (.int v349), .val (.int v358), .val (.ref b361), .val (.ref res_456)] [(.int (rr_550 + rr_554)), (.int v349), (.int (2 : Int32)), (.ref res_456)])) rfl (by rw [hml]; rfl) (argsL := [(.ref res_456), (.int (2 : Int32)), (.int v349), (.int (rr_550 + rr_554))]) (rest := []) (lenOf pd_3 rfl) rfl (by show 2 * 0 + _ ≤ _; exact Nat.le_of_eq rfl) (hb hby at_362) (fun _ _ => ⟨rfl, e553, (by decide : 5 + 0 ≤ _), (by decide : 16 + 0 ≤ _)⟩)
        dsimp only [Pt.U, Pt.locs, Pt.cells, Pt.slots] at X559 l559 y559 z559 st559 hQ559
        subst l559 y559 z559
        obtain ⟨rr_561, rfl, N559q, f562, f563, e559⟩ := hQ559
        have N559 := Fr.app N553 N559q
        refine Go.st st559 ?_
        show Go p e below s Q 7 28 (T559.setTop (mkF m 365 #[.val (.int xa), .val (.int xb), .val (.int c0), .val (.int c1), .val (.int c2), .val (.int c3), .val (.int (2 : Int32)), .val (.int v322), .val (.int v331), .val (.int v340), .val (.int v349), .val (.int v358), .val (.ref b361), .val (.ref res_456)] [(.int rr_561)]))
        have f564 := rng32 rr_561
        have hone2 : rr_561.toInt = 1 := by
          rcases (by omega : v349.toInt = 0 ∨ v349.toInt = 1) with q1 | q1
          · exact placed_ok (i := 2) f463 f465 (by omega) (by rw [hk2 (by omega)]; exact q1) (by rw [← q1]; exact hra2) (by decide) (f562 q1)
          · exact placed_ok (i := 2) f464 f466 (by omega) (by rw [hk2 (by omega)]; exact q1) (by rw [← q1]; exact hra2) (by decide) (f563 q1)
        clear f562 f563
        have c565 : ¬ (rr_561.toInt = 0) := by omega
        refine Go.st (fun _ k => XS.ifYes X559.here hx rfl (pc0 := 365) (pc' := 370) rfl (hb hby at_365) rfl ((if0 _ _).trans (feq (neI rfl liI_0 c565)).2) (by decide) (by decide) k) ?_
        show Go p e below s Q 7 28 (T559.setTop (mkF m 370 #[.val (.int xa), .val (.int xb), .val (.int c0), .val (.int c1), .val (.int c2), .val (.int c3), .val (.int (2 : Int32)), .val (.int v322), .val (.int v331), .val (.int v340), .val (.int v349), .val (.int v358), .val (.ref b361), .val (.ref res_456)] []))
        have f566 := rng32 xa
        have f567 := rng32 xb
        have f568 := rng32 c0
        have f569 := rng32 c1
        have f570 := rng32 c2
        have f571 := rng32 c3
        exact J547 T559 hg520 _ (up X559 (by decide) (by decide)) e559 N559 Kg520 hfg520_0 hfg520_1 hfg520_2 hfg520_3 hfg520_4
      ·
        refine Go.st (fun _ k => XS.icmpYes Xg520.here hx rfl (pc0 := 339) (pc' := 370) rfl (hb hby at_339) rfl (flt (nltI liI_2 rfl c548)).2.2.2 (by decide) (by decide) k) ?_
        show Go p e below s Q 7 28 (Tg520.setTop (mkF m 370 #[.val (.int xa), .val (.int xb), .val (.int c0), .val (.int c1), .val (.int c2), .val (.int c3), .val (.int (2 : Int32)), .val (.int v322), .val (.int v331), .val (.int v340), .val (.int v349), .val (.int v358), .val (.ref b361), .val (.ref res_456)] []))
        have f572 := rng32 xa
        have f573 := rng32 xb
        have f574 := rng32 c0
        have f575 := rng32 c1
        have f576 := rng32 c2
        have f577 := rng32 c3
        exact J547 Tg520 hg520 _ (up Xg520 (by decide) (by decide)) eg520 Ng520 Kg520 hfg520_0 hfg520_1 hfg520_2 hfg520_3 hfg520_4
    intro Tg546 hg546 Lgg546 Xg546 eg546 Ng546 Kg546 hfg546_0 hfg546_1 hfg546_2 hfg546_3 hfg546_4
    suffices J579 : ∀ (Tg578 : State) (hg578 : Heap) (Lgg578 : List Loc) (Xg578 : Stand p l e room_1 s m #[(.int xa), (.int xb), (.int c0), (.int c1), (.int c2), (.int c3)] below meth c Tg578 Lgg578 5 16) (eg578 : Tg578.heap = hg578) (Ng578 : Fr n0 Lgg578) (Kg578 : Keep h0 hg578 []) (hfg578_0 : Exa Z hg578 b361 "[I") (hfg578_1 : Vec Z hg578 b361 .int v322 (ints KK)) (hfg578_2 : RV Z hg578 res_456 (2 : Int32) [(.ref w0_457), (.ref w1_460)]) (hfg578_3 : Vec Z hg578 w0_457 .int l0_458 (ints g0_459)) (hfg578_4 : Vec Z hg578 w1_460 .int l1_461 (ints g1_462)), Go p e below s Q 7 28 (Tg578.setTop (mkF m 412 #[.val (.int xa), .val (.int xb), .val (.int c0), .val (.int c1), .val (.int c2), .val (.int c3), .val (.int (2 : Int32)), .val (.int v322), .val (.int v331), .val (.int v340), .val (.int v349), .val (.int v358), .val (.ref b361), .val (.ref res_456)] [])) by
      refine Go.st (fun _ k => XS.iload Xg546.here hx rfl (hb hby at_370) rfl k) ?_
      refine Go.st (fun _ k => XS.iconst Xg546.here hx rfl (hb hby at_372) k) ?_
      have f580 := liI_3
      by_cases c581 : 3 < v322.toInt
      ·
        refine Go.st (fun _ k => XS.icmpNo Xg546.here hx rfl (hb hby at_373) rfl (tlt (ltI liI_3 rfl c581)).2.2.2 k) ?_
        refine Go.st (fun _ k => XS.aload Xg546.here hx rfl (hb hby at_376) rfl rfl k) ?_
        refine Go.st (fun _ k => XS.iconst Xg546.here hx rfl (hb hby at_378) k) ?_
        refine Go.st (fun _ k => XS.iload Xg546.here hx rfl (hb hby at_379) rfl k) ?_
        show Go p e below s Q 7 28 (Tg546.setTop (mkF m 381 #[.val (.int xa), .val (.int xb), .val (.int c0), .val (.int c1), .val (.int c2), .val (.int c3), .val (.int (2 : Int32)), .val (.int v322), .val (.int v331), .val (.int v340), .val (.int v349), .val (.int v358), .val (.ref b361), .val (.ref res_456)] [(.int v358), (.int (3 : Int32)), (.ref res_456)]))
        refine Go.st (fun _ k => XS.iload Xg546.here hx rfl (hb hby at_381) rfl k) ?_
        refine Go.st (fun _ k => XS.iload Xg546.here hx rfl (hb hby at_383) rfl k) ?_
        obtain ⟨_, _, ⟨T582, L582, k582, n582⟩, -, X582, ⟨Lc582, hQ582, l582, y582, z582⟩, st582⟩ := Jvm.LawKit.callS Xg546 hx (y := (⟨"com/example/rackwise/rackwise/RackCostsClientsOfRacksPinLaw", "same", "(II)I"⟩ : MethodName)) hown (mvT hZ (hw _ (List.mem_of_getElem? (i := 19) rfl))) (mvT hZ (hw _ (List.mem_of_getElem? (i := 20) rfl))) (mvT hZ (hw _ (List.mem_of_getElem? (i := 11) rfl))) (mvT hZ (hw _ (List.mem_of_getElem? (i := 21) rfl))) (by decide) (backOf (W := 3) (rm5 l Z a0 hw [] v331 v358 hg546 n0 (Nat.le_trans Z0 Kg546.1) ) hZ (hw _ (List.mem_of_getElem? (i := 21) rfl)) (hw _ (List.mem_of_getElem? (i := 11) rfl)) (by decide) (by decide)) (g := (mkF m 385 #[.val (.int xa), .val (.int xb), .val (.int c0), .val (.int c1), .val (.int c2), .val (.int c3), .val (.int (2 : Int32)), .val (.int v322), .val (.int v331), .val (.int v340), .val (.int v349), .val (.int v358), .val (.ref b361), .val (.ref res_456)] [(.int v358), (.int v331), (.int v358), (.int (3 : Int32)), (.ref res_456)])) rfl (by rw [hml]; rfl) (argsL := [(.int v331), (.int v358)]) (rest := [(.int v358), (.int (3 : Int32)), (.ref res_456)]) (lenOf pd_4 rfl) rfl (by show 2 * 0 + _ ≤ _; exact Nat.le_of_eq rfl) (hb hby at_385) (fun _ _ => ⟨rfl, eg546, (by decide : 5 + 0 ≤ _), (by decide : 16 + 0 ≤ _)⟩)
        dsimp only [Pt.U, Pt.locs, Pt.cells, Pt.slots] at X582 l582 y582 z582 st582 hQ582
        subst l582 y582 z582
        obtain ⟨rr_583, rfl, N582q, f584, e582⟩ := hQ582
        have N582 := Fr.app Ng546 N582q
        refine Go.st st582 ?_
        show Go p e below s Q 7 28 (T582.setTop (mkF m 388 #[.val (.int xa), .val (.int xb), .val (.int c0), .val (.int c1), .val (.int c2), .val (.int c3), .val (.int (2 : Int32)), .val (.int v322), .val (.int v331), .val (.int v340), .val (.int v349), .val (.int v358), .val (.ref b361), .val (.ref res_456)] [(.int rr_583), (.int v358), (.int (3 : Int32)), (.ref res_456)]))
        have f585 := rng32 rr_583
        refine Go.st (fun _ k => XS.iload X582.here hx rfl (hb hby at_388) rfl k) ?_
        refine Go.st (fun _ k => XS.iload X582.here hx rfl (hb hby at_390) rfl k) ?_
        obtain ⟨_, _, ⟨T586, L586, k586, n586⟩, -, X586, ⟨Lc586, hQ586, l586, y586, z586⟩, st586⟩ := Jvm.LawKit.callS X582 hx (y := (⟨"com/example/rackwise/rackwise/RackCostsClientsOfRacksPinLaw", "same", "(II)I"⟩ : MethodName)) hown (mvT hZ (hw _ (List.mem_of_getElem? (i := 19) rfl))) (mvT hZ (hw _ (List.mem_of_getElem? (i := 20) rfl))) (mvT hZ (hw _ (List.mem_of_getElem? (i := 11) rfl))) (mvT hZ (hw _ (List.mem_of_getElem? (i := 21) rfl))) (by decide) (backOf (W := 4) (rm5 l Z a0 hw [] v340 v358 hg546 n0 (Nat.le_trans Z0 Kg546.1) ) hZ (hw _ (List.mem_of_getElem? (i := 21) rfl)) (hw _ (List.mem_of_getElem? (i := 11) rfl)) (by decide) (by decide)) (g := (mkF m 392 #[.val (.int xa), .val (.int xb), .val (.int c0), .val (.int c1), .val (.int c2), .val (.int c3), .val (.int (2 : Int32)), .val (.int v322), .val (.int v331), .val (.int v340), .val (.int v349), .val (.int v358), .val (.ref b361), .val (.ref res_456)] [(.int v358), (.int v340), (.int rr_583), (.int v358), (.int (3 : Int32)), (.ref res_456)])) rfl (by rw [hml]; rfl) (argsL := [(.int v340), (.int v358)]) (rest := [(.int rr_583), (.int v358), (.int (3 : Int32)), (.ref res_456)]) (lenOf pd_4 rfl) rfl (by show 2 * 0 + _ ≤ _; exact Nat.le_of_eq rfl) (hb hby at_392) (fun _ _ => ⟨rfl, e582, (by decide : 5 + 0 ≤ _), (by decide : 16 + 0 ≤ _)⟩)
        dsimp only [Pt.U, Pt.locs, Pt.cells, Pt.slots] at X586 l586 y586 z586 st586 hQ586
        subst l586 y586 z586
        obtain ⟨rr_587, rfl, N586q, f588, e586⟩ := hQ586
        have N586 := Fr.app N582 N586q
        refine Go.st st586 ?_
        show Go p e below s Q 7 28 (T586.setTop (mkF m 395 #[.val (.int xa), .val (.int xb), .val (.int c0), .val (.int c1), .val (.int c2), .val (.int c3), .val (.int (2 : Int32)), .val (.int v322), .val (.int v331), .val (.int v340), .val (.int v349), .val (.int v358), .val (.ref b361), .val (.ref res_456)] [(.int rr_587), (.int rr_583), (.int v358), (.int (3 : Int32)), (.ref res_456)]))
        have f589 := rng32 rr_587
        refine Go.st (fun _ k => XS.iadd X586.here hx rfl (hb hby at_395) rfl k) ?_
        refine Go.st (fun _ k => XS.iload X586.here hx rfl (hb hby at_396) rfl k) ?_
        refine Go.st (fun _ k => XS.iload X586.here hx rfl (hb hby at_398) rfl k) ?_
        obtain ⟨_, _, ⟨T590, L590, k590, n590⟩, -, X590, ⟨Lc590, hQ590, l590, y590, z590⟩, st590⟩ := Jvm.LawKit.callS X586 hx (y := (⟨"com/example/rackwise/rackwise/RackCostsClientsOfRacksPinLaw", "same", "(II)I"⟩ : MethodName)) hown (mvT hZ (hw _ (List.mem_of_getElem? (i := 19) rfl))) (mvT hZ (hw _ (List.mem_of_getElem? (i := 20) rfl))) (mvT hZ (hw _ (List.mem_of_getElem? (i := 11) rfl))) (mvT hZ (hw _ (List.mem_of_getElem? (i := 21) rfl))) (by decide) (backOf (W := 4) (rm5 l Z a0 hw [] v349 v358 hg546 n0 (Nat.le_trans Z0 Kg546.1) ) hZ (hw _ (List.mem_of_getElem? (i := 21) rfl)) (hw _ (List.mem_of_getElem? (i := 11) rfl)) (by decide) (by decide)) (g := (mkF m 400 #[.val (.int xa), .val (.int xb), .val (.int c0), .val (.int c1), .val (.int c2), .val (.int c3), .val (.int (2 : Int32)), .val (.int v322), .val (.int v331), .val (.int v340), .val (.int v349), .val (.int v358), .val (.ref b361), .val (.ref res_456)] [(.int v358), (.int v349), (.int (rr_583 + rr_587)), (.int v358), (.int (3 : Int32)), (.ref res_456)])) rfl (by rw [hml]; rfl) (argsL := [(.int v349), (.int v358)]) (rest := [(.int (rr_583 + rr_587)), (.int v358), (.int (3 : Int32)), (.ref res_456)]) (lenOf pd_4 rfl) rfl (by show 2 * 0 + _ ≤ _; exact Nat.le_of_eq rfl) (hb hby at_400) (fun _ _ => ⟨rfl, e586, (by decide : 5 + 0 ≤ _), (by decide : 16 + 0 ≤ _)⟩)
        dsimp only [Pt.U, Pt.locs, Pt.cells, Pt.slots] at X590 l590 y590 z590 st590 hQ590
        subst l590 y590 z590
        obtain ⟨rr_591, rfl, N590q, f592, e590⟩ := hQ590
        have N590 := Fr.app N586 N590q
        refine Go.st st590 ?_
        show Go p e below s Q 7 28 (T590.setTop (mkF m 403 #[.val (.int xa), .val (.int xb), .val (.int c0), .val (.int c1), .val (.int c2), .val (.int c3), .val (.int (2 : Int32)), .val (.int v322), .val (.int v331), .val (.int v340), .val (.int v349), .val (.int v358), .val (.ref b361), .val (.ref res_456)] [(.int rr_591), (.int (rr_583 + rr_587)), (.int v358), (.int (3 : Int32)), (.ref res_456)]))
        have f593 := rng32 rr_591
        refine Go.st (fun _ k => XS.iadd X590.here hx rfl (hb hby at_403) rfl k) ?_
        show Go p e below s Q 7 28 (T590.setTop (mkF m 404 #[.val (.int xa), .val (.int xb), .val (.int c0), .val (.int c1), .val (.int c2), .val (.int c3), .val (.int (2 : Int32)), .val (.int v322), .val (.int v331), .val (.int v340), .val (.int v349), .val (.int v358), .val (.ref b361), .val (.ref res_456)] [(.int ((rr_583 + rr_587) + rr_591)), (.int v358), (.int (3 : Int32)), (.ref res_456)]))
        have f594 := c_iadd rr_583 rr_587
        have f595 := rng32 (rr_583 + rr_587)
        have f596 := c_iadd (rr_583 + rr_587) rr_591
        have f597 := rng32 ((rr_583 + rr_587) + rr_591)
        have hra3 : ((rr_583 + rr_587) + rr_591).toInt = cnt KK 3 v358.toInt := by
          have i0 := ind_c (KK 0).toInt v358.toInt
          have j0 := hk0 (by omega)
          have i1 := ind_c (KK 1).toInt v358.toInt
          have j1 := hk1 (by omega)
          have i2 := ind_c (KK 2).toInt v358.toInt
          have j2 := hk2 (by omega)
          have e0 : cnt KK 0 v358.toInt = 0 := rfl
          have e1 : cnt KK 1 v358.toInt = cnt KK 0 v358.toInt + ind (KK 0).toInt v358.toInt := rfl
          have e2 : cnt KK 2 v358.toInt = cnt KK 1 v358.toInt + ind (KK 1).toInt v358.toInt := rfl
          have e3 : cnt KK 3 v358.toInt = cnt KK 2 v358.toInt + ind (KK 2).toInt v358.toInt := rfl
          omega
        have hrb3 := cnt_rng KK 3 v358.toInt
        have p599 : 0 ≤ v358.toInt ∧ v358.toInt < 2 ∧ 0 ≤ ((rr_583 + rr_587) + rr_591).toInt := by omega
        obtain ⟨_, _, ⟨T598, L598, k598, n598⟩, -, X598, ⟨Lc598, hQ598, l598, y598, z598⟩, st598⟩ := Jvm.LawKit.callS X590 hx (y := (⟨"com/example/rackwise/rackwise/RackCostsClientsOfRacksPinLaw", "placed", "([[IIII)Z"⟩ : MethodName)) hown (mvT hZ (hw _ (List.mem_of_getElem? (i := 16) rfl))) (mvT hZ (hw _ (List.mem_of_getElem? (i := 17) rfl))) (mvT hZ (hw _ (List.mem_of_getElem? (i := 11) rfl))) (mvT hZ (hw _ (List.mem_of_getElem? (i := 18) rfl))) (by decide) (backOf (W := 0) (rmp2 l Z a0 hw [] res_456 (3 : Int32) v358 ((rr_583 + rr_587) + rr_591) w0_457 l0_458 g0_459 w1_460 l1_461 g1_462 hg546 n0 (Nat.le_trans Z0 Kg546.1) hfg546_2 hfg546_3 hfg546_4 p599) hZ (hw _ (List.mem_of_getElem? (i := 18) rfl)) (hw _ (List.mem_of_getElem? (i := 11) rfl)) (by decide) (by decide)) (g := (mkF m 404 #[.val (.int xa), .val (.int xb), .val (.int c0), .val (.int c1), .val (.int c2), .val (.int c3), .val (.int (2 : Int32)), .val (.int v322), .val (.int v331), .val (.int v340), .val (.int v349), .val (.int v358), .val (.ref b361), .val (.ref res_456)] [(.int ((rr_583 + rr_587) + rr_591)), (.int v358), (.int (3 : Int32)), (.ref res_456)])) rfl (by rw [hml]; rfl) (argsL := [(.ref res_456), (.int (3 : Int32)), (.int v358), (.int ((rr_583 + rr_587) + rr_591))]) (rest := []) (lenOf pd_3 rfl) rfl (by show 2 * 0 + _ ≤ _; exact Nat.le_of_eq rfl) (hb hby at_404) (fun _ _ => ⟨rfl, e590, (by decide : 5 + 0 ≤ _), (by decide : 16 + 0 ≤ _)⟩)
        dsimp only [Pt.U, Pt.locs, Pt.cells, Pt.slots] at X598 l598 y598 z598 st598 hQ598
        subst l598 y598 z598
        obtain ⟨rr_600, rfl, N598q, f601, f602, e598⟩ := hQ598
        have N598 := Fr.app N590 N598q
        refine Go.st st598 ?_
        show Go p e below s Q 7 28 (T598.setTop (mkF m 407 #[.val (.int xa), .val (.int xb), .val (.int c0), .val (.int c1), .val (.int c2), .val (.int c3), .val (.int (2 : Int32)), .val (.int v322), .val (.int v331), .val (.int v340), .val (.int v349), .val (.int v358), .val (.ref b361), .val (.ref res_456)] [(.int rr_600)]))
        have f603 := rng32 rr_600
        have hone3 : rr_600.toInt = 1 := by
          rcases (by omega : v358.toInt = 0 ∨ v358.toInt = 1) with q1 | q1
          · exact placed_ok (i := 3) f463 f465 (by omega) (by rw [hk3 (by omega)]; exact q1) (by rw [← q1]; exact hra3) (by decide) (f601 q1)
          · exact placed_ok (i := 3) f464 f466 (by omega) (by rw [hk3 (by omega)]; exact q1) (by rw [← q1]; exact hra3) (by decide) (f602 q1)
        clear f601 f602
        have c604 : ¬ (rr_600.toInt = 0) := by omega
        refine Go.st (fun _ k => XS.ifYes X598.here hx rfl (pc0 := 407) (pc' := 412) rfl (hb hby at_407) rfl ((if0 _ _).trans (feq (neI rfl liI_0 c604)).2) (by decide) (by decide) k) ?_
        show Go p e below s Q 7 28 (T598.setTop (mkF m 412 #[.val (.int xa), .val (.int xb), .val (.int c0), .val (.int c1), .val (.int c2), .val (.int c3), .val (.int (2 : Int32)), .val (.int v322), .val (.int v331), .val (.int v340), .val (.int v349), .val (.int v358), .val (.ref b361), .val (.ref res_456)] []))
        have f605 := rng32 xa
        have f606 := rng32 xb
        have f607 := rng32 c0
        have f608 := rng32 c1
        have f609 := rng32 c2
        have f610 := rng32 c3
        exact J579 T598 hg546 _ (up X598 (by decide) (by decide)) e598 N598 Kg546 hfg546_0 hfg546_1 hfg546_2 hfg546_3 hfg546_4
      ·
        refine Go.st (fun _ k => XS.icmpYes Xg546.here hx rfl (pc0 := 373) (pc' := 412) rfl (hb hby at_373) rfl (flt (nltI liI_3 rfl c581)).2.2.2 (by decide) (by decide) k) ?_
        show Go p e below s Q 7 28 (Tg546.setTop (mkF m 412 #[.val (.int xa), .val (.int xb), .val (.int c0), .val (.int c1), .val (.int c2), .val (.int c3), .val (.int (2 : Int32)), .val (.int v322), .val (.int v331), .val (.int v340), .val (.int v349), .val (.int v358), .val (.ref b361), .val (.ref res_456)] []))
        have f611 := rng32 xa
        have f612 := rng32 xb
        have f613 := rng32 c0
        have f614 := rng32 c1
        have f615 := rng32 c2
        have f616 := rng32 c3
        exact J579 Tg546 hg546 _ (up Xg546 (by decide) (by decide)) eg546 Ng546 Kg546 hfg546_0 hfg546_1 hfg546_2 hfg546_3 hfg546_4
    intro Tg578 hg578 Lgg578 Xg578 eg578 Ng578 Kg578 hfg578_0 hfg578_1 hfg578_2 hfg578_3 hfg578_4
    refine Go.st (fun _ k => XS.iconst Xg578.here hx rfl (hb hby at_412) k) ?_
    show Go p e below s Q 7 28 (Tg578.setTop (mkF m 413 #[.val (.int xa), .val (.int xb), .val (.int c0), .val (.int c1), .val (.int c2), .val (.int c3), .val (.int (2 : Int32)), .val (.int v322), .val (.int v331), .val (.int v340), .val (.int v349), .val (.int v358), .val (.ref b361), .val (.ref res_456)] [(.int (1 : Int32))]))
    exact Go.retN Xg578 hx hlk (by simp) Bd.returns (hb hby at_413) (z' := (1 : Int32)) (by decide) (by rw [← hQ, eg578]; exact ⟨rfl, Ng578, Kg578⟩) (by decide) (by decide)
  ·
    have cs17' : v12 = (3 : Int32) := eqI cs17 liI_3 rfl
    subst cs17'
    have f617 := liI_3
    show Go p e below s Q 7 28 (s₁.setTop (mkF m 8 #[.val (.int xa), .val (.int xb), .val (.int c0), .val (.int c1), .val (.int c2), .val (.int c3), .val (.int (3 : Int32)), .unset, .unset, .unset, .unset, .unset, .unset, .unset] []))
    clear f1 f2 f3 f4 f5 f6 f7 f8 f9 f10 f11 f617
    refine Go.st (fun _ k => XS.iload X0.here hx rfl (hb hby at_8) rfl k) ?_
    refine Go.st (fun _ k => XS.ifYes X0.here hx rfl (pc0 := 10) (pc' := 17) rfl (hb hby at_10) rfl ((if0 _ _).trans (feq (neI liI_3 liI_0 (by decide))).2) (by decide) (by decide) k) ?_
    refine Go.st (fun _ k => XS.iloadN X0.here hx rfl (hb hby at_17) rfl k) ?_
    refine Go.st (X0.ldcInt hx hown (mvT hZ (hw _ (List.mem_of_getElem? (i := 0) rfl))) (g := (mkF m 18 #[.val (.int xa), .val (.int xb), .val (.int c0), .val (.int c1), .val (.int c2), .val (.int c3), .val (.int (3 : Int32)), .unset, .unset, .unset, .unset, .unset, .unset, .unset] [(.int xa)])) rfl (hb hby at_18)) ?_
    show Go p e below s Q 7 28 (s₁.setTop (mkF m 20 #[.val (.int xa), .val (.int xb), .val (.int c0), .val (.int c1), .val (.int c2), .val (.int c3), .val (.int (3 : Int32)), .unset, .unset, .unset, .unset, .unset, .unset, .unset] [(.int (2147483647 : Int32)), (.int xa)]))
    refine Go.st (fun _ k => XS.iand X0.here hx rfl (hb hby at_20) rfl k) ?_
    refine Go.st (fun _ k => XS.iconst X0.here hx rfl (hb hby at_21) k) ?_
    refine Go.st (fun _ k => iremM X0 hx rfl (hb hby at_22) rfl (by decide) k) ?_
    refine Go.st (fun _ k => XS.istore X0.here hx rfl (hb hby at_23) rfl (l' := #[.val (.int xa), .val (.int xb), .val (.int c0), .val (.int c1), .val (.int c2), .val (.int c3), .val (.int (3 : Int32)), .val (.int ((xa &&& (2147483647 : Int32)) % (5 : Int32))), .unset, .unset, .unset, .unset, .unset, .unset]) rfl k) ?_
    show Go p e below s Q 7 28 (s₁.setTop (mkF m 25 #[.val (.int xa), .val (.int xb), .val (.int c0), .val (.int c1), .val (.int c2), .val (.int c3), .val (.int (3 : Int32)), .val (.int ((xa &&& (2147483647 : Int32)) % (5 : Int32))), .unset, .unset, .unset, .unset, .unset, .unset] []))
    have f618 := rng32 xa
    have f619 := liI_2147483647
    have f620 : (xa &&& (2147483647 : Int32)).toInt = xa.toInt % 2147483648 := c_mask xa (2147483647 : Int32) 31 (by decide) (by decide)
    have f621 := liI_5
    have f622 := c_irem (xa &&& (2147483647 : Int32)) (5 : Int32) 5 (by decide)
    have f623 := rng32 ((xa &&& (2147483647 : Int32)) % (5 : Int32))
    generalize hv_v624 : ((xa &&& (2147483647 : Int32)) % (5 : Int32)) = v624 at f622 f623 ⊢
    have f625 : 0 ≤ v624.toInt ∧ v624.toInt < 5 := by omega
    clear f618 f619 f620 f621 f622 f623
    have f626 := rng32 v624
    refine Go.st (fun _ k => XS.iload X0.here hx rfl (hb hby at_25) rfl k) ?_
    refine Go.st (fun _ k => XS.ifYes X0.here hx rfl (pc0 := 27) (pc' := 34) rfl (hb hby at_27) rfl ((if0 _ _).trans (feq (neI liI_3 liI_0 (by decide))).2) (by decide) (by decide) k) ?_
    refine Go.st (fun _ k => XS.iloadN X0.here hx rfl (hb hby at_34) rfl k) ?_
    refine Go.st (X0.ldcInt hx hown (mvT hZ (hw _ (List.mem_of_getElem? (i := 0) rfl))) (g := (mkF m 35 #[.val (.int xa), .val (.int xb), .val (.int c0), .val (.int c1), .val (.int c2), .val (.int c3), .val (.int (3 : Int32)), .val (.int v624), .unset, .unset, .unset, .unset, .unset, .unset] [(.int c0)])) rfl (hb hby at_35)) ?_
    show Go p e below s Q 7 28 (s₁.setTop (mkF m 37 #[.val (.int xa), .val (.int xb), .val (.int c0), .val (.int c1), .val (.int c2), .val (.int c3), .val (.int (3 : Int32)), .val (.int v624), .unset, .unset, .unset, .unset, .unset, .unset] [(.int (2147483647 : Int32)), (.int c0)]))
    refine Go.st (fun _ k => XS.iand X0.here hx rfl (hb hby at_37) rfl k) ?_
    refine Go.st (fun _ k => XS.iload X0.here hx rfl (hb hby at_38) rfl k) ?_
    refine Go.st (fun _ k => iremM X0 hx rfl (hb hby at_40) rfl (by decide) k) ?_
    refine Go.st (fun _ k => XS.istore X0.here hx rfl (hb hby at_41) rfl (l' := #[.val (.int xa), .val (.int xb), .val (.int c0), .val (.int c1), .val (.int c2), .val (.int c3), .val (.int (3 : Int32)), .val (.int v624), .val (.int ((c0 &&& (2147483647 : Int32)) % (3 : Int32))), .unset, .unset, .unset, .unset, .unset]) rfl k) ?_
    show Go p e below s Q 7 28 (s₁.setTop (mkF m 43 #[.val (.int xa), .val (.int xb), .val (.int c0), .val (.int c1), .val (.int c2), .val (.int c3), .val (.int (3 : Int32)), .val (.int v624), .val (.int ((c0 &&& (2147483647 : Int32)) % (3 : Int32))), .unset, .unset, .unset, .unset, .unset] []))
    have f627 := rng32 c0
    have f628 := liI_2147483647
    have f629 : (c0 &&& (2147483647 : Int32)).toInt = c0.toInt % 2147483648 := c_mask c0 (2147483647 : Int32) 31 (by decide) (by decide)
    have f630 := liI_3
    have f631 := c_irem (c0 &&& (2147483647 : Int32)) (3 : Int32) 3 (by decide)
    have f632 := rng32 ((c0 &&& (2147483647 : Int32)) % (3 : Int32))
    generalize hv_v633 : ((c0 &&& (2147483647 : Int32)) % (3 : Int32)) = v633 at f631 f632 ⊢
    have f634 : 0 ≤ v633.toInt ∧ v633.toInt < 3 := by omega
    clear f626 f627 f628 f629 f630 f631 f632
    have f635 := rng32 v633
    refine Go.st (fun _ k => XS.iload X0.here hx rfl (hb hby at_43) rfl k) ?_
    refine Go.st (fun _ k => XS.ifYes X0.here hx rfl (pc0 := 45) (pc' := 52) rfl (hb hby at_45) rfl ((if0 _ _).trans (feq (neI liI_3 liI_0 (by decide))).2) (by decide) (by decide) k) ?_
    refine Go.st (fun _ k => XS.iloadN X0.here hx rfl (hb hby at_52) rfl k) ?_
    refine Go.st (X0.ldcInt hx hown (mvT hZ (hw _ (List.mem_of_getElem? (i := 0) rfl))) (g := (mkF m 53 #[.val (.int xa), .val (.int xb), .val (.int c0), .val (.int c1), .val (.int c2), .val (.int c3), .val (.int (3 : Int32)), .val (.int v624), .val (.int v633), .unset, .unset, .unset, .unset, .unset] [(.int c1)])) rfl (hb hby at_53)) ?_
    show Go p e below s Q 7 28 (s₁.setTop (mkF m 55 #[.val (.int xa), .val (.int xb), .val (.int c0), .val (.int c1), .val (.int c2), .val (.int c3), .val (.int (3 : Int32)), .val (.int v624), .val (.int v633), .unset, .unset, .unset, .unset, .unset] [(.int (2147483647 : Int32)), (.int c1)]))
    refine Go.st (fun _ k => XS.iand X0.here hx rfl (hb hby at_55) rfl k) ?_
    refine Go.st (fun _ k => XS.iload X0.here hx rfl (hb hby at_56) rfl k) ?_
    refine Go.st (fun _ k => iremM X0 hx rfl (hb hby at_58) rfl (by decide) k) ?_
    refine Go.st (fun _ k => XS.istore X0.here hx rfl (hb hby at_59) rfl (l' := #[.val (.int xa), .val (.int xb), .val (.int c0), .val (.int c1), .val (.int c2), .val (.int c3), .val (.int (3 : Int32)), .val (.int v624), .val (.int v633), .val (.int ((c1 &&& (2147483647 : Int32)) % (3 : Int32))), .unset, .unset, .unset, .unset]) rfl k) ?_
    show Go p e below s Q 7 28 (s₁.setTop (mkF m 61 #[.val (.int xa), .val (.int xb), .val (.int c0), .val (.int c1), .val (.int c2), .val (.int c3), .val (.int (3 : Int32)), .val (.int v624), .val (.int v633), .val (.int ((c1 &&& (2147483647 : Int32)) % (3 : Int32))), .unset, .unset, .unset, .unset] []))
    have f636 := rng32 c1
    have f637 := liI_2147483647
    have f638 : (c1 &&& (2147483647 : Int32)).toInt = c1.toInt % 2147483648 := c_mask c1 (2147483647 : Int32) 31 (by decide) (by decide)
    have f639 := liI_3
    have f640 := c_irem (c1 &&& (2147483647 : Int32)) (3 : Int32) 3 (by decide)
    have f641 := rng32 ((c1 &&& (2147483647 : Int32)) % (3 : Int32))
    generalize hv_v642 : ((c1 &&& (2147483647 : Int32)) % (3 : Int32)) = v642 at f640 f641 ⊢
    have f643 : 0 ≤ v642.toInt ∧ v642.toInt < 3 := by omega
    clear f635 f636 f637 f638 f639 f640 f641
    have f644 := rng32 v642
    refine Go.st (fun _ k => XS.iload X0.here hx rfl (hb hby at_61) rfl k) ?_
    refine Go.st (fun _ k => XS.ifYes X0.here hx rfl (pc0 := 63) (pc' := 70) rfl (hb hby at_63) rfl ((if0 _ _).trans (feq (neI liI_3 liI_0 (by decide))).2) (by decide) (by decide) k) ?_
    refine Go.st (fun _ k => XS.iload X0.here hx rfl (hb hby at_70) rfl k) ?_
    refine Go.st (X0.ldcInt hx hown (mvT hZ (hw _ (List.mem_of_getElem? (i := 0) rfl))) (g := (mkF m 72 #[.val (.int xa), .val (.int xb), .val (.int c0), .val (.int c1), .val (.int c2), .val (.int c3), .val (.int (3 : Int32)), .val (.int v624), .val (.int v633), .val (.int v642), .unset, .unset, .unset, .unset] [(.int c2)])) rfl (hb hby at_72)) ?_
    show Go p e below s Q 7 28 (s₁.setTop (mkF m 74 #[.val (.int xa), .val (.int xb), .val (.int c0), .val (.int c1), .val (.int c2), .val (.int c3), .val (.int (3 : Int32)), .val (.int v624), .val (.int v633), .val (.int v642), .unset, .unset, .unset, .unset] [(.int (2147483647 : Int32)), (.int c2)]))
    refine Go.st (fun _ k => XS.iand X0.here hx rfl (hb hby at_74) rfl k) ?_
    refine Go.st (fun _ k => XS.iload X0.here hx rfl (hb hby at_75) rfl k) ?_
    refine Go.st (fun _ k => iremM X0 hx rfl (hb hby at_77) rfl (by decide) k) ?_
    refine Go.st (fun _ k => XS.istore X0.here hx rfl (hb hby at_78) rfl (l' := #[.val (.int xa), .val (.int xb), .val (.int c0), .val (.int c1), .val (.int c2), .val (.int c3), .val (.int (3 : Int32)), .val (.int v624), .val (.int v633), .val (.int v642), .val (.int ((c2 &&& (2147483647 : Int32)) % (3 : Int32))), .unset, .unset, .unset]) rfl k) ?_
    show Go p e below s Q 7 28 (s₁.setTop (mkF m 80 #[.val (.int xa), .val (.int xb), .val (.int c0), .val (.int c1), .val (.int c2), .val (.int c3), .val (.int (3 : Int32)), .val (.int v624), .val (.int v633), .val (.int v642), .val (.int ((c2 &&& (2147483647 : Int32)) % (3 : Int32))), .unset, .unset, .unset] []))
    have f645 := rng32 c2
    have f646 := liI_2147483647
    have f647 : (c2 &&& (2147483647 : Int32)).toInt = c2.toInt % 2147483648 := c_mask c2 (2147483647 : Int32) 31 (by decide) (by decide)
    have f648 := liI_3
    have f649 := c_irem (c2 &&& (2147483647 : Int32)) (3 : Int32) 3 (by decide)
    have f650 := rng32 ((c2 &&& (2147483647 : Int32)) % (3 : Int32))
    generalize hv_v651 : ((c2 &&& (2147483647 : Int32)) % (3 : Int32)) = v651 at f649 f650 ⊢
    have f652 : 0 ≤ v651.toInt ∧ v651.toInt < 3 := by omega
    clear f644 f645 f646 f647 f648 f649 f650
    have f653 := rng32 v651
    refine Go.st (fun _ k => XS.iload X0.here hx rfl (hb hby at_80) rfl k) ?_
    refine Go.st (fun _ k => XS.ifYes X0.here hx rfl (pc0 := 82) (pc' := 89) rfl (hb hby at_82) rfl ((if0 _ _).trans (feq (neI liI_3 liI_0 (by decide))).2) (by decide) (by decide) k) ?_
    refine Go.st (fun _ k => XS.iload X0.here hx rfl (hb hby at_89) rfl k) ?_
    refine Go.st (X0.ldcInt hx hown (mvT hZ (hw _ (List.mem_of_getElem? (i := 0) rfl))) (g := (mkF m 91 #[.val (.int xa), .val (.int xb), .val (.int c0), .val (.int c1), .val (.int c2), .val (.int c3), .val (.int (3 : Int32)), .val (.int v624), .val (.int v633), .val (.int v642), .val (.int v651), .unset, .unset, .unset] [(.int c3)])) rfl (hb hby at_91)) ?_
    show Go p e below s Q 7 28 (s₁.setTop (mkF m 93 #[.val (.int xa), .val (.int xb), .val (.int c0), .val (.int c1), .val (.int c2), .val (.int c3), .val (.int (3 : Int32)), .val (.int v624), .val (.int v633), .val (.int v642), .val (.int v651), .unset, .unset, .unset] [(.int (2147483647 : Int32)), (.int c3)]))
    refine Go.st (fun _ k => XS.iand X0.here hx rfl (hb hby at_93) rfl k) ?_
    refine Go.st (fun _ k => XS.iload X0.here hx rfl (hb hby at_94) rfl k) ?_
    refine Go.st (fun _ k => iremM X0 hx rfl (hb hby at_96) rfl (by decide) k) ?_
    refine Go.st (fun _ k => XS.istore X0.here hx rfl (hb hby at_97) rfl (l' := #[.val (.int xa), .val (.int xb), .val (.int c0), .val (.int c1), .val (.int c2), .val (.int c3), .val (.int (3 : Int32)), .val (.int v624), .val (.int v633), .val (.int v642), .val (.int v651), .val (.int ((c3 &&& (2147483647 : Int32)) % (3 : Int32))), .unset, .unset]) rfl k) ?_
    show Go p e below s Q 7 28 (s₁.setTop (mkF m 99 #[.val (.int xa), .val (.int xb), .val (.int c0), .val (.int c1), .val (.int c2), .val (.int c3), .val (.int (3 : Int32)), .val (.int v624), .val (.int v633), .val (.int v642), .val (.int v651), .val (.int ((c3 &&& (2147483647 : Int32)) % (3 : Int32))), .unset, .unset] []))
    have f654 := rng32 c3
    have f655 := liI_2147483647
    have f656 : (c3 &&& (2147483647 : Int32)).toInt = c3.toInt % 2147483648 := c_mask c3 (2147483647 : Int32) 31 (by decide) (by decide)
    have f657 := liI_3
    have f658 := c_irem (c3 &&& (2147483647 : Int32)) (3 : Int32) 3 (by decide)
    have f659 := rng32 ((c3 &&& (2147483647 : Int32)) % (3 : Int32))
    generalize hv_v660 : ((c3 &&& (2147483647 : Int32)) % (3 : Int32)) = v660 at f658 f659 ⊢
    have f661 : 0 ≤ v660.toInt ∧ v660.toInt < 3 := by omega
    clear f653 f654 f655 f656 f657 f658 f659
    have f662 := rng32 v660
    refine Go.st (fun _ k => XS.iload X0.here hx rfl (hb hby at_99) rfl k) ?_
    have f664 := rng32 v624
    have r665 : 0 ≤ v624.toInt := by omega
    have r666 : v624.toNatClampNeg ≤ 4 := by rw [nat_cl]; omega
    obtain ⟨T663, h663, k663, X663, e663, E663, A663, B663, st663⟩ := newPE X0 hx hZ (hw _ (List.mem_of_getElem? (i := 1) rfl)) e0 (g := (mkF m 101 #[.val (.int xa), .val (.int xb), .val (.int c0), .val (.int c1), .val (.int c2), .val (.int c3), .val (.int (3 : Int32)), .val (.int v624), .val (.int v633), .val (.int v642), .val (.int v651), .val (.int v660), .unset, .unset] [(.int v624)])) rfl (hb hby at_101) rfl (not_neg r665) (cap := 4) r666 (by decide) (by decide) (by decide) (ad := "[I") (by decide)
    obtain ⟨b663, g663⟩ : ∃ z, z = h0.size := ⟨_, rfl⟩
    rw [← g663] at A663 B663 st663
    have Gb663 : Hid (n0 ≤ b663) := Nat.le_trans (Nat.le_trans Z0 K0.1) (Nat.le_of_eq g663.symm)
    have szb663 : Hid (h0.size ≤ b663) := Nat.le_trans K0.1 (Nat.le_of_eq g663.symm)
    have K663 : Keep h0 h663 [] := K0.ext E663
    have h667 : Vec Z h663 b663 .int v624 (ints (fun _ => (0 : Int32))) := Vec.new A663 r665
    refine Go.st st663 ?_
    show Go p e below s Q 7 28 (T663.setTop (mkF m 103 #[.val (.int xa), .val (.int xb), .val (.int c0), .val (.int c1), .val (.int c2), .val (.int c3), .val (.int (3 : Int32)), .val (.int v624), .val (.int v633), .val (.int v642), .val (.int v651), .val (.int v660), .unset, .unset] [(.ref b663)]))
    refine Go.st (fun _ k => XS.astore X663.here hx rfl (hb hby at_103) rfl rfl (l' := #[.val (.int xa), .val (.int xb), .val (.int c0), .val (.int c1), .val (.int c2), .val (.int c3), .val (.int (3 : Int32)), .val (.int v624), .val (.int v633), .val (.int v642), .val (.int v651), .val (.int v660), .val (.ref b663), .unset]) rfl k) ?_
    show Go p e below s Q 7 28 (T663.setTop (mkF m 105 #[.val (.int xa), .val (.int xb), .val (.int c0), .val (.int c1), .val (.int c2), .val (.int c3), .val (.int (3 : Int32)), .val (.int v624), .val (.int v633), .val (.int v642), .val (.int v651), .val (.int v660), .val (.ref b663), .unset] []))
    suffices J669 : ∀ (Tg668 : State) (hg668 : Heap) (Lgg668 : List Loc) (Xg668 : Stand p l e room_1 s m #[(.int xa), (.int xb), (.int c0), (.int c1), (.int c2), (.int c3)] below meth c Tg668 Lgg668 1 4) (eg668 : Tg668.heap = hg668) (Ng668 : Fr n0 Lgg668) (Kg668 : Keep h0 hg668 []) (KK : Nat → Int32) (hfg668_0 : Exa Z hg668 b663 "[I") (hfg668_1 : Vec Z hg668 b663 .int v624 (ints KK)) (hpg668_0 : 0 < v624.toInt → KK 0 = v633) (hpg668_1 : 1 < v624.toInt → KK 1 = v642) (hpg668_2 : 2 < v624.toInt → KK 2 = v651) (hpg668_3 : 3 < v624.toInt → KK 3 = v660) (hpg668_4 : n0 ≤ b663), Go p e below s Q 7 28 (Tg668.setTop (mkF m 152 #[.val (.int xa), .val (.int xb), .val (.int c0), .val (.int c1), .val (.int c2), .val (.int c3), .val (.int (3 : Int32)), .val (.int v624), .val (.int v633), .val (.int v642), .val (.int v651), .val (.int v660), .val (.ref b663), .unset] [])) by
      refine Go.st (fun _ k => XS.iload X663.here hx rfl (hb hby at_105) rfl k) ?_
      have f670 := liI_0
      by_cases c671 : 0 < v624.toInt
      ·
        refine Go.st (fun _ k => XS.ifNo X663.here hx rfl (hb hby at_107) rfl ((if0 _ _).trans (tlt (ltI liI_0 rfl c671)).2.2.2) k) ?_
        refine Go.st (fun _ k => XS.aload X663.here hx rfl (hb hby at_110) rfl rfl k) ?_
        refine Go.st (fun _ k => XS.iconst X663.here hx rfl (hb hby at_112) k) ?_
        refine Go.st (fun _ k => XS.iload X663.here hx rfl (hb hby at_113) rfl k) ?_
        have r673 : 0 ≤ (0 : Int32).toInt := by omega
        have r674 : (0 : Int32).toInt < v624.toInt := by omega
        obtain ⟨T672, h672, X672, e672, W672, V672, st672⟩ := Vec.istI X663 hx hZ e663 h667 (j := (0 : Int32)) r673 r674 (g := (mkF m 115 #[.val (.int xa), .val (.int xb), .val (.int c0), .val (.int c1), .val (.int c2), .val (.int c3), .val (.int (3 : Int32)), .val (.int v624), .val (.int v633), .val (.int v642), .val (.int v651), .val (.int v660), .val (.ref b663), .unset] [(.int v633), (.int (0 : Int32)), (.ref b663)])) rfl rfl (hb hby at_115)
        have h675 : Exa Z h672 b663 "[I" := B663.wr W672
        have h676 : Vec Z h672 b663 .int v624 (ints (updF (fun _ => (0 : Int32)) 0 v633)) := V672
        have K672 : Keep h0 h672 [] := K663.wr W672 (Or.inr szb663)
        have N672 := Fr.snoc X672 N0 Gb663
        refine Go.st st672 ?_
        show Go p e below s Q 7 28 (T672.setTop (mkF m 116 #[.val (.int xa), .val (.int xb), .val (.int c0), .val (.int c1), .val (.int c2), .val (.int c3), .val (.int (3 : Int32)), .val (.int v624), .val (.int v633), .val (.int v642), .val (.int v651), .val (.int v660), .val (.ref b663), .unset] []))
        refine Go.st (fun _ k => XS.iload X672.here hx rfl (hb hby at_116) rfl k) ?_
        refine Go.st (fun _ k => XS.iconst X672.here hx rfl (hb hby at_118) k) ?_
        have f677 := liI_1
        by_cases c678 : 1 < v624.toInt
        ·
          refine Go.st (fun _ k => XS.icmpNo X672.here hx rfl (hb hby at_119) rfl (tlt (ltI liI_1 rfl c678)).2.2.2 k) ?_
          refine Go.st (fun _ k => XS.aload X672.here hx rfl (hb hby at_122) rfl rfl k) ?_
          refine Go.st (fun _ k => XS.iconst X672.here hx rfl (hb hby at_124) k) ?_
          refine Go.st (fun _ k => XS.iload X672.here hx rfl (hb hby at_125) rfl k) ?_
          show Go p e below s Q 7 28 (T672.setTop (mkF m 127 #[.val (.int xa), .val (.int xb), .val (.int c0), .val (.int c1), .val (.int c2), .val (.int c3), .val (.int (3 : Int32)), .val (.int v624), .val (.int v633), .val (.int v642), .val (.int v651), .val (.int v660), .val (.ref b663), .unset] [(.int v642), (.int (1 : Int32)), (.ref b663)]))
          have r680 : 0 ≤ (1 : Int32).toInt := by omega
          have r681 : (1 : Int32).toInt < v624.toInt := by omega
          obtain ⟨T679, h679, X679, e679, W679, V679, st679⟩ := Vec.istI X672 hx hZ e672 h676 (j := (1 : Int32)) r680 r681 (g := (mkF m 127 #[.val (.int xa), .val (.int xb), .val (.int c0), .val (.int c1), .val (.int c2), .val (.int c3), .val (.int (3 : Int32)), .val (.int v624), .val (.int v633), .val (.int v642), .val (.int v651), .val (.int v660), .val (.ref b663), .unset] [(.int v642), (.int (1 : Int32)), (.ref b663)])) rfl rfl (hb hby at_127)
          have h682 : Exa Z h679 b663 "[I" := h675.wr W679
          have h683 : Vec Z h679 b663 .int v624 (ints (updF (updF (fun _ => (0 : Int32)) 0 v633) 1 v642)) := V679
          have K679 : Keep h0 h679 [] := K672.wr W679 (Or.inr szb663)
          have N679 := Fr.snoc X679 N672 Gb663
          refine Go.st st679 ?_
          show Go p e below s Q 7 28 (T679.setTop (mkF m 128 #[.val (.int xa), .val (.int xb), .val (.int c0), .val (.int c1), .val (.int c2), .val (.int c3), .val (.int (3 : Int32)), .val (.int v624), .val (.int v633), .val (.int v642), .val (.int v651), .val (.int v660), .val (.ref b663), .unset] []))
          refine Go.st (fun _ k => XS.iload X679.here hx rfl (hb hby at_128) rfl k) ?_
          refine Go.st (fun _ k => XS.iconst X679.here hx rfl (hb hby at_130) k) ?_
          have f684 := liI_2
          by_cases c685 : 2 < v624.toInt
          ·
            refine Go.st (fun _ k => XS.icmpNo X679.here hx rfl (hb hby at_131) rfl (tlt (ltI liI_2 rfl c685)).2.2.2 k) ?_
            refine Go.st (fun _ k => XS.aload X679.here hx rfl (hb hby at_134) rfl rfl k) ?_
            refine Go.st (fun _ k => XS.iconst X679.here hx rfl (hb hby at_136) k) ?_
            refine Go.st (fun _ k => XS.iload X679.here hx rfl (hb hby at_137) rfl k) ?_
            show Go p e below s Q 7 28 (T679.setTop (mkF m 139 #[.val (.int xa), .val (.int xb), .val (.int c0), .val (.int c1), .val (.int c2), .val (.int c3), .val (.int (3 : Int32)), .val (.int v624), .val (.int v633), .val (.int v642), .val (.int v651), .val (.int v660), .val (.ref b663), .unset] [(.int v651), (.int (2 : Int32)), (.ref b663)]))
            have r687 : 0 ≤ (2 : Int32).toInt := by omega
            have r688 : (2 : Int32).toInt < v624.toInt := by omega
            obtain ⟨T686, h686, X686, e686, W686, V686, st686⟩ := Vec.istI X679 hx hZ e679 h683 (j := (2 : Int32)) r687 r688 (g := (mkF m 139 #[.val (.int xa), .val (.int xb), .val (.int c0), .val (.int c1), .val (.int c2), .val (.int c3), .val (.int (3 : Int32)), .val (.int v624), .val (.int v633), .val (.int v642), .val (.int v651), .val (.int v660), .val (.ref b663), .unset] [(.int v651), (.int (2 : Int32)), (.ref b663)])) rfl rfl (hb hby at_139)
            have h689 : Exa Z h686 b663 "[I" := h682.wr W686
            have h690 : Vec Z h686 b663 .int v624 (ints (updF (updF (updF (fun _ => (0 : Int32)) 0 v633) 1 v642) 2 v651)) := V686
            have K686 : Keep h0 h686 [] := K679.wr W686 (Or.inr szb663)
            have N686 := Fr.snoc X686 N679 Gb663
            refine Go.st st686 ?_
            show Go p e below s Q 7 28 (T686.setTop (mkF m 140 #[.val (.int xa), .val (.int xb), .val (.int c0), .val (.int c1), .val (.int c2), .val (.int c3), .val (.int (3 : Int32)), .val (.int v624), .val (.int v633), .val (.int v642), .val (.int v651), .val (.int v660), .val (.ref b663), .unset] []))
            refine Go.st (fun _ k => XS.iload X686.here hx rfl (hb hby at_140) rfl k) ?_
            refine Go.st (fun _ k => XS.iconst X686.here hx rfl (hb hby at_142) k) ?_
            have f691 := liI_3
            by_cases c692 : 3 < v624.toInt
            ·
              refine Go.st (fun _ k => XS.icmpNo X686.here hx rfl (hb hby at_143) rfl (tlt (ltI liI_3 rfl c692)).2.2.2 k) ?_
              refine Go.st (fun _ k => XS.aload X686.here hx rfl (hb hby at_146) rfl rfl k) ?_
              refine Go.st (fun _ k => XS.iconst X686.here hx rfl (hb hby at_148) k) ?_
              refine Go.st (fun _ k => XS.iload X686.here hx rfl (hb hby at_149) rfl k) ?_
              show Go p e below s Q 7 28 (T686.setTop (mkF m 151 #[.val (.int xa), .val (.int xb), .val (.int c0), .val (.int c1), .val (.int c2), .val (.int c3), .val (.int (3 : Int32)), .val (.int v624), .val (.int v633), .val (.int v642), .val (.int v651), .val (.int v660), .val (.ref b663), .unset] [(.int v660), (.int (3 : Int32)), (.ref b663)]))
              have r694 : 0 ≤ (3 : Int32).toInt := by omega
              have r695 : (3 : Int32).toInt < v624.toInt := by omega
              obtain ⟨T693, h693, X693, e693, W693, V693, st693⟩ := Vec.istI X686 hx hZ e686 h690 (j := (3 : Int32)) r694 r695 (g := (mkF m 151 #[.val (.int xa), .val (.int xb), .val (.int c0), .val (.int c1), .val (.int c2), .val (.int c3), .val (.int (3 : Int32)), .val (.int v624), .val (.int v633), .val (.int v642), .val (.int v651), .val (.int v660), .val (.ref b663), .unset] [(.int v660), (.int (3 : Int32)), (.ref b663)])) rfl rfl (hb hby at_151)
              have h696 : Exa Z h693 b663 "[I" := h689.wr W693
              have h697 : Vec Z h693 b663 .int v624 (ints (updF (updF (updF (updF (fun _ => (0 : Int32)) 0 v633) 1 v642) 2 v651) 3 v660)) := V693
              have K693 : Keep h0 h693 [] := K686.wr W693 (Or.inr szb663)
              have N693 := Fr.snoc X693 N686 Gb663
              refine Go.st st693 ?_
              show Go p e below s Q 7 28 (T693.setTop (mkF m 152 #[.val (.int xa), .val (.int xb), .val (.int c0), .val (.int c1), .val (.int c2), .val (.int c3), .val (.int (3 : Int32)), .val (.int v624), .val (.int v633), .val (.int v642), .val (.int v651), .val (.int v660), .val (.ref b663), .unset] []))
              have f698 := rng32 xa
              have f699 := rng32 xb
              have f700 := rng32 c0
              have f701 := rng32 c1
              have f702 := rng32 c2
              have f703 := rng32 c3
              have f704 := rng32 v633
              have f705 := rng32 v642
              have f706 := rng32 v651
              exact J669 T693 h693 _ (up X693 (by decide) (by decide)) e693 N693 K693 (updF (updF (updF (updF (fun _ => (0 : Int32)) 0 v633) 1 v642) 2 v651) 3 v660) h696 h697 (by intro h; first | rfl | omega) (by intro h; first | rfl | omega) (by intro h; first | rfl | omega) (by intro h; first | rfl | omega) Gb663
            ·
              refine Go.st (fun _ k => XS.icmpYes X686.here hx rfl (pc0 := 143) (pc' := 152) rfl (hb hby at_143) rfl (flt (nltI liI_3 rfl c692)).2.2.2 (by decide) (by decide) k) ?_
              show Go p e below s Q 7 28 (T686.setTop (mkF m 152 #[.val (.int xa), .val (.int xb), .val (.int c0), .val (.int c1), .val (.int c2), .val (.int c3), .val (.int (3 : Int32)), .val (.int v624), .val (.int v633), .val (.int v642), .val (.int v651), .val (.int v660), .val (.ref b663), .unset] []))
              have f707 := rng32 xa
              have f708 := rng32 xb
              have f709 := rng32 c0
              have f710 := rng32 c1
              have f711 := rng32 c2
              have f712 := rng32 c3
              have f713 := rng32 v633
              have f714 := rng32 v642
              have f715 := rng32 v651
              exact J669 T686 h686 _ (up X686 (by decide) (by decide)) e686 N686 K686 (updF (updF (updF (fun _ => (0 : Int32)) 0 v633) 1 v642) 2 v651) h689 h690 (by intro h; first | rfl | omega) (by intro h; first | rfl | omega) (by intro h; first | rfl | omega) (by intro h; first | rfl | omega) Gb663
          ·
            refine Go.st (fun _ k => XS.icmpYes X679.here hx rfl (pc0 := 131) (pc' := 140) rfl (hb hby at_131) rfl (flt (nltI liI_2 rfl c685)).2.2.2 (by decide) (by decide) k) ?_
            refine Go.st (fun _ k => XS.iload X679.here hx rfl (hb hby at_140) rfl k) ?_
            refine Go.st (fun _ k => XS.iconst X679.here hx rfl (hb hby at_142) k) ?_
            have f716 := liI_3
            have c717 : ¬ (3 < v624.toInt) := by omega
            refine Go.st (fun _ k => XS.icmpYes X679.here hx rfl (pc0 := 143) (pc' := 152) rfl (hb hby at_143) rfl (flt (nltI liI_3 rfl c717)).2.2.2 (by decide) (by decide) k) ?_
            show Go p e below s Q 7 28 (T679.setTop (mkF m 152 #[.val (.int xa), .val (.int xb), .val (.int c0), .val (.int c1), .val (.int c2), .val (.int c3), .val (.int (3 : Int32)), .val (.int v624), .val (.int v633), .val (.int v642), .val (.int v651), .val (.int v660), .val (.ref b663), .unset] []))
            have f718 := rng32 xa
            have f719 := rng32 xb
            have f720 := rng32 c0
            have f721 := rng32 c1
            have f722 := rng32 c2
            have f723 := rng32 c3
            have f724 := rng32 v633
            have f725 := rng32 v642
            have f726 := rng32 v651
            exact J669 T679 h679 _ (up X679 (by decide) (by decide)) e679 N679 K679 (updF (updF (fun _ => (0 : Int32)) 0 v633) 1 v642) h682 h683 (by intro h; first | rfl | omega) (by intro h; first | rfl | omega) (by intro h; first | rfl | omega) (by intro h; first | rfl | omega) Gb663
        ·
          refine Go.st (fun _ k => XS.icmpYes X672.here hx rfl (pc0 := 119) (pc' := 128) rfl (hb hby at_119) rfl (flt (nltI liI_1 rfl c678)).2.2.2 (by decide) (by decide) k) ?_
          refine Go.st (fun _ k => XS.iload X672.here hx rfl (hb hby at_128) rfl k) ?_
          refine Go.st (fun _ k => XS.iconst X672.here hx rfl (hb hby at_130) k) ?_
          have f727 := liI_2
          have c728 : ¬ (2 < v624.toInt) := by omega
          refine Go.st (fun _ k => XS.icmpYes X672.here hx rfl (pc0 := 131) (pc' := 140) rfl (hb hby at_131) rfl (flt (nltI liI_2 rfl c728)).2.2.2 (by decide) (by decide) k) ?_
          show Go p e below s Q 7 28 (T672.setTop (mkF m 140 #[.val (.int xa), .val (.int xb), .val (.int c0), .val (.int c1), .val (.int c2), .val (.int c3), .val (.int (3 : Int32)), .val (.int v624), .val (.int v633), .val (.int v642), .val (.int v651), .val (.int v660), .val (.ref b663), .unset] []))
          refine Go.st (fun _ k => XS.iload X672.here hx rfl (hb hby at_140) rfl k) ?_
          refine Go.st (fun _ k => XS.iconst X672.here hx rfl (hb hby at_142) k) ?_
          have f729 := liI_3
          have c730 : ¬ (3 < v624.toInt) := by omega
          refine Go.st (fun _ k => XS.icmpYes X672.here hx rfl (pc0 := 143) (pc' := 152) rfl (hb hby at_143) rfl (flt (nltI liI_3 rfl c730)).2.2.2 (by decide) (by decide) k) ?_
          show Go p e below s Q 7 28 (T672.setTop (mkF m 152 #[.val (.int xa), .val (.int xb), .val (.int c0), .val (.int c1), .val (.int c2), .val (.int c3), .val (.int (3 : Int32)), .val (.int v624), .val (.int v633), .val (.int v642), .val (.int v651), .val (.int v660), .val (.ref b663), .unset] []))
          have f731 := rng32 xa
          have f732 := rng32 xb
          have f733 := rng32 c0
          have f734 := rng32 c1
          have f735 := rng32 c2
          have f736 := rng32 c3
          have f737 := rng32 v633
          have f738 := rng32 v642
          have f739 := rng32 v651
          exact J669 T672 h672 _ (up X672 (by decide) (by decide)) e672 N672 K672 (updF (fun _ => (0 : Int32)) 0 v633) h675 h676 (by intro h; first | rfl | omega) (by intro h; first | rfl | omega) (by intro h; first | rfl | omega) (by intro h; first | rfl | omega) Gb663
      ·
        refine Go.st (fun _ k => XS.ifYes X663.here hx rfl (pc0 := 107) (pc' := 116) rfl (hb hby at_107) rfl ((if0 _ _).trans (flt (nltI liI_0 rfl c671)).2.2.2) (by decide) (by decide) k) ?_
        refine Go.st (fun _ k => XS.iload X663.here hx rfl (hb hby at_116) rfl k) ?_
        refine Go.st (fun _ k => XS.iconst X663.here hx rfl (hb hby at_118) k) ?_
        have f740 := liI_1
        have c741 : ¬ (1 < v624.toInt) := by omega
        refine Go.st (fun _ k => XS.icmpYes X663.here hx rfl (pc0 := 119) (pc' := 128) rfl (hb hby at_119) rfl (flt (nltI liI_1 rfl c741)).2.2.2 (by decide) (by decide) k) ?_
        refine Go.st (fun _ k => XS.iload X663.here hx rfl (hb hby at_128) rfl k) ?_
        show Go p e below s Q 7 28 (T663.setTop (mkF m 130 #[.val (.int xa), .val (.int xb), .val (.int c0), .val (.int c1), .val (.int c2), .val (.int c3), .val (.int (3 : Int32)), .val (.int v624), .val (.int v633), .val (.int v642), .val (.int v651), .val (.int v660), .val (.ref b663), .unset] [(.int v624)]))
        refine Go.st (fun _ k => XS.iconst X663.here hx rfl (hb hby at_130) k) ?_
        have f742 := liI_2
        have c743 : ¬ (2 < v624.toInt) := by omega
        refine Go.st (fun _ k => XS.icmpYes X663.here hx rfl (pc0 := 131) (pc' := 140) rfl (hb hby at_131) rfl (flt (nltI liI_2 rfl c743)).2.2.2 (by decide) (by decide) k) ?_
        refine Go.st (fun _ k => XS.iload X663.here hx rfl (hb hby at_140) rfl k) ?_
        refine Go.st (fun _ k => XS.iconst X663.here hx rfl (hb hby at_142) k) ?_
        have f744 := liI_3
        have c745 : ¬ (3 < v624.toInt) := by omega
        refine Go.st (fun _ k => XS.icmpYes X663.here hx rfl (pc0 := 143) (pc' := 152) rfl (hb hby at_143) rfl (flt (nltI liI_3 rfl c745)).2.2.2 (by decide) (by decide) k) ?_
        show Go p e below s Q 7 28 (T663.setTop (mkF m 152 #[.val (.int xa), .val (.int xb), .val (.int c0), .val (.int c1), .val (.int c2), .val (.int c3), .val (.int (3 : Int32)), .val (.int v624), .val (.int v633), .val (.int v642), .val (.int v651), .val (.int v660), .val (.ref b663), .unset] []))
        have f746 := rng32 xa
        have f747 := rng32 xb
        have f748 := rng32 c0
        have f749 := rng32 c1
        have f750 := rng32 c2
        have f751 := rng32 c3
        have f752 := rng32 v633
        have f753 := rng32 v642
        have f754 := rng32 v651
        exact J669 T663 h663 _ (up X663 (by decide) (by decide)) e663 N0 K663 (fun _ => (0 : Int32)) B663 h667 (by intro h; first | rfl | omega) (by intro h; first | rfl | omega) (by intro h; first | rfl | omega) (by intro h; first | rfl | omega) Gb663
    intro Tg668 hg668 Lgg668 Xg668 eg668 Ng668 Kg668 KK hfg668_0 hfg668_1 hpg668_0 hpg668_1 hpg668_2 hpg668_3 hpg668_4
    have hk0 : Hid (0 < v624.toInt → (KK 0).toInt = v633.toInt) := fun h => congrArg Int32.toInt (hpg668_0 h)
    have hk1 : Hid (1 < v624.toInt → (KK 1).toInt = v642.toInt) := fun h => congrArg Int32.toInt (hpg668_1 h)
    have hk2 : Hid (2 < v624.toInt → (KK 2).toInt = v651.toInt) := fun h => congrArg Int32.toInt (hpg668_2 h)
    have hk3 : Hid (3 < v624.toInt → (KK 3).toInt = v660.toInt) := fun h => congrArg Int32.toInt (hpg668_3 h)
    refine Go.st (fun _ k => XS.aload Xg668.here hx rfl (hb hby at_152) rfl rfl k) ?_
    refine Go.st (fun _ k => XS.iload Xg668.here hx rfl (hb hby at_154) rfl k) ?_
    have f756 := liI_3
    have p757 : 0 ≤ v624.toInt ∧ v624.toInt ≤ 4 := by omega
    obtain ⟨_, _, ⟨T755, L755, k755, n755⟩, -, X755, ⟨Lc755, hQ755, l755, y755, z755⟩, st755⟩ := Jvm.LawKit.callS Xg668 hx (y := (⟨"com/example/rackwise/rackwise/RackCosts", "clientsOfRacks", "([II)[[I"⟩ : MethodName)) hown (mvT hZ (hw _ (List.mem_of_getElem? (i := 2) rfl))) (mvT hZ (hw _ (List.mem_of_getElem? (i := 3) rfl))) (mvT hZ (hw _ (List.mem_of_getElem? (i := 4) rfl))) (mvT hZ (hw _ (List.mem_of_getElem? (i := 5) rfl))) (by decide) (backOf (W := 0) (rmc3 l Z a0 hw [] b663 v624 KK hg668 n0 (Nat.le_trans Z0 Kg668.1) hfg668_1 p757 (four_rng (by omega) hk0 hk1 hk2 hk3 (by omega) (by omega) (by omega) (by omega))) hZ (hw _ (List.mem_of_getElem? (i := 5) rfl)) (hw _ (List.mem_of_getElem? (i := 4) rfl)) (by decide) (by decide)) (g := (mkF m 156 #[.val (.int xa), .val (.int xb), .val (.int c0), .val (.int c1), .val (.int c2), .val (.int c3), .val (.int (3 : Int32)), .val (.int v624), .val (.int v633), .val (.int v642), .val (.int v651), .val (.int v660), .val (.ref b663), .unset] [(.int (3 : Int32)), (.ref b663)])) rfl (by rw [hml]; rfl) (argsL := [(.ref b663), (.int (3 : Int32))]) (rest := []) (lenOf pd_1 rfl) rfl (by show 2 * 0 + _ ≤ _; exact Nat.le_of_eq rfl) (hb hby at_156) (fun _ _ => ⟨rfl, eg668, (by decide : 1 + 5 ≤ _), (by decide : 4 + 18 ≤ _)⟩)
    dsimp only [Pt.U, Pt.locs, Pt.cells, Pt.slots] at X755 l755 y755 z755 st755 hQ755
    subst l755 y755 z755
    obtain ⟨res_758, w0_759, l0_760, g0_761, w1_762, l1_763, g1_764, w2_765, l2_766, g2_767, rfl, N755q, f768, f769, f770, f771, f772, f773, K755q, h774, h775, h776, h777⟩ := hQ755
    have N755 := Fr.app Ng668 N755q
    have h778 : Exa Z T755.heap b663 "[I" := hfg668_0.keep K755q
    have h779 : Vec Z T755.heap b663 .int v624 (ints KK) := hfg668_1.keep K755q nin0
    have K755 : Keep h0 T755.heap [] := Kg668.trans K755q (fun x hx => (show ∀ x ∈ ([] : List Addr), x ∈ ([] : List Addr) ∨ h0.size ≤ x from all0) x hx)
    refine Go.st st755 ?_
    show Go p e below s Q 7 28 (T755.setTop (mkF m 159 #[.val (.int xa), .val (.int xb), .val (.int c0), .val (.int c1), .val (.int c2), .val (.int c3), .val (.int (3 : Int32)), .val (.int v624), .val (.int v633), .val (.int v642), .val (.int v651), .val (.int v660), .val (.ref b663), .unset] [(.ref res_758)]))
    refine Go.st (fun _ k => XS.astore X755.here hx rfl (hb hby at_159) rfl rfl (l' := #[.val (.int xa), .val (.int xb), .val (.int c0), .val (.int c1), .val (.int c2), .val (.int c3), .val (.int (3 : Int32)), .val (.int v624), .val (.int v633), .val (.int v642), .val (.int v651), .val (.int v660), .val (.ref b663), .val (.ref res_758)]) rfl k) ?_
    refine Go.st (fun _ k => XS.aload X755.here hx rfl (hb hby at_161) rfl rfl k) ?_
    refine Go.st (fun _ k => XS.ifnullNo X755.here hx rfl (hb hby at_163) rfl k) ?_
    refine Go.st (fun _ k => XS.aload X755.here hx rfl (hb hby at_166) rfl rfl k) ?_
    refine Go.st (RV.len X755 hx hZ rfl h774 (g := (mkF m 168 #[.val (.int xa), .val (.int xb), .val (.int c0), .val (.int c1), .val (.int c2), .val (.int c3), .val (.int (3 : Int32)), .val (.int v624), .val (.int v633), .val (.int v642), .val (.int v651), .val (.int v660), .val (.ref b663), .val (.ref res_758)] [(.ref res_758)])) rfl rfl (hb hby at_168)) ?_
    show Go p e below s Q 7 28 (T755.setTop (mkF m 169 #[.val (.int xa), .val (.int xb), .val (.int c0), .val (.int c1), .val (.int c2), .val (.int c3), .val (.int (3 : Int32)), .val (.int v624), .val (.int v633), .val (.int v642), .val (.int v651), .val (.int v660), .val (.ref b663), .val (.ref res_758)] [(.int (3 : Int32))]))
    refine Go.st (fun _ k => XS.iload X755.here hx rfl (hb hby at_169) rfl k) ?_
    refine Go.st (fun _ k => XS.icmpYes X755.here hx rfl (pc0 := 171) (pc' := 176) rfl (hb hby at_171) rfl (teq (eqI liI_3 liI_3 (by decide))).1 (by decide) (by decide) k) ?_
    refine Go.st (fun _ k => XS.iload X755.here hx rfl (hb hby at_176) rfl k) ?_
    refine Go.st (fun _ k => XS.ifNo X755.here hx rfl (hb hby at_178) rfl ((if0 _ _).trans (tlt (ltI liI_0 liI_3 (by decide))).2.2.2) k) ?_
    refine Go.st (fun _ k => XS.aload X755.here hx rfl (hb hby at_181) rfl rfl k) ?_
    refine Go.st (fun _ k => XS.iconst X755.here hx rfl (hb hby at_183) k) ?_
    show Go p e below s Q 7 28 (T755.setTop (mkF m 184 #[.val (.int xa), .val (.int xb), .val (.int c0), .val (.int c1), .val (.int c2), .val (.int c3), .val (.int (3 : Int32)), .val (.int v624), .val (.int v633), .val (.int v642), .val (.int v651), .val (.int v660), .val (.ref b663), .val (.ref res_758)] [(.int (0 : Int32)), (.ref res_758)]))
    refine Go.st (RV.ild X755 hx hZ rfl h774 (j := (0 : Int32)) (by decide) (by decide) (g := (mkF m 184 #[.val (.int xa), .val (.int xb), .val (.int c0), .val (.int c1), .val (.int c2), .val (.int c3), .val (.int (3 : Int32)), .val (.int v624), .val (.int v633), .val (.int v642), .val (.int v651), .val (.int v660), .val (.ref b663), .val (.ref res_758)] [(.int (0 : Int32)), (.ref res_758)])) rfl rfl (hb hby at_184)) ?_
    show Go p e below s Q 7 28 (T755.setTop (mkF m 185 #[.val (.int xa), .val (.int xb), .val (.int c0), .val (.int c1), .val (.int c2), .val (.int c3), .val (.int (3 : Int32)), .val (.int v624), .val (.int v633), .val (.int v642), .val (.int v651), .val (.int v660), .val (.ref b663), .val (.ref res_758)] [(.ref w0_759)]))
    refine Go.st (fun _ k => XS.iconst X755.here hx rfl (hb hby at_185) k) ?_
    refine Go.st (fun _ k => XS.iload X755.here hx rfl (hb hby at_186) rfl k) ?_
    refine Go.st (fun _ k => XS.iload X755.here hx rfl (hb hby at_188) rfl k) ?_
    refine Go.st (fun _ k => XS.iload X755.here hx rfl (hb hby at_190) rfl k) ?_
    refine Go.st (fun _ k => XS.iload X755.here hx rfl (hb hby at_192) rfl k) ?_
    refine Go.st (fun _ k => XS.iload X755.here hx rfl (hb hby at_194) rfl k) ?_
    show Go p e below s Q 7 28 (T755.setTop (mkF m 196 #[.val (.int xa), .val (.int xb), .val (.int c0), .val (.int c1), .val (.int c2), .val (.int c3), .val (.int (3 : Int32)), .val (.int v624), .val (.int v633), .val (.int v642), .val (.int v651), .val (.int v660), .val (.ref b663), .val (.ref res_758)] [(.int v660), (.int v651), (.int v642), (.int v633), (.int v624), (.int (0 : Int32)), (.ref w0_759)]))
    have f783 := rng32 l0_760
    have f784 := liI_0
    have f785 := rng32 v633
    have f786 := rng32 v642
    have f787 := rng32 v651
    have p788 : 0 ≤ v624.toInt ∧ v624.toInt ≤ 4 := by omega
    obtain ⟨_, _, ⟨T782, L782, k782, n782⟩, -, X782, ⟨Lc782, hQ782, l782, y782, z782⟩, st782⟩ := Jvm.LawKit.callS X755 hx (y := (⟨"com/example/rackwise/rackwise/RackCostsClientsOfRacksPinLaw", "rowOk", "([IIIIIII)Z"⟩ : MethodName)) hown (mvT hZ (hw _ (List.mem_of_getElem? (i := 9) rfl))) (mvT hZ (hw _ (List.mem_of_getElem? (i := 10) rfl))) (mvT hZ (hw _ (List.mem_of_getElem? (i := 11) rfl))) (mvT hZ (hw _ (List.mem_of_getElem? (i := 12) rfl))) (by decide) (backOf (W := 0) (rm2 l Z a0 hw [] w0_759 (0 : Int32) v624 v633 v642 v651 v660 l0_760 g0_761 T755.heap n0 (Nat.le_trans Z0 K755.1) h775 p788) hZ (hw _ (List.mem_of_getElem? (i := 12) rfl)) (hw _ (List.mem_of_getElem? (i := 11) rfl)) (by decide) (by decide)) (g := (mkF m 196 #[.val (.int xa), .val (.int xb), .val (.int c0), .val (.int c1), .val (.int c2), .val (.int c3), .val (.int (3 : Int32)), .val (.int v624), .val (.int v633), .val (.int v642), .val (.int v651), .val (.int v660), .val (.ref b663), .val (.ref res_758)] [(.int v660), (.int v651), (.int v642), (.int v633), (.int v624), (.int (0 : Int32)), (.ref w0_759)])) rfl (by rw [hml]; rfl) (argsL := [(.ref w0_759), (.int (0 : Int32)), (.int v624), (.int v633), (.int v642), (.int v651), (.int v660)]) (rest := []) (lenOf pd_2 rfl) rfl (by show 2 * 0 + _ ≤ _; exact Nat.le_of_eq rfl) (hb hby at_196) (fun _ _ => ⟨rfl, rfl, (by decide : 6 + 0 ≤ _), (by decide : 22 + 0 ≤ _)⟩)
    dsimp only [Pt.U, Pt.locs, Pt.cells, Pt.slots] at X782 l782 y782 z782 st782 hQ782
    subst l782 y782 z782
    obtain ⟨rr_789, cc_790, rfl, N782q, f791, f792, e782⟩ := hQ782
    have N782 := Fr.app N755 N782q
    refine Go.st st782 ?_
    show Go p e below s Q 7 28 (T782.setTop (mkF m 199 #[.val (.int xa), .val (.int xb), .val (.int c0), .val (.int c1), .val (.int c2), .val (.int c3), .val (.int (3 : Int32)), .val (.int v624), .val (.int v633), .val (.int v642), .val (.int v651), .val (.int v660), .val (.ref b663), .val (.ref res_758)] [(.int rr_789)]))
    have f793 := rng32 rr_789
    have hrow0 : rr_789.toInt = 1 := by
      obtain ⟨qa, qb, qc, m0, m1, m2, m3⟩ := f791
      have q1 := chain_cnt hk0 hk1 hk2 hk3 (by omega) m0 m1 m2 m3
      have q2 := f768
      have q3 : (0 : Int32).toInt = 0 := by decide
      rw [q3] at q1
      omega
    clear f791 f792
    have c794 : ¬ (rr_789.toInt = 0) := by omega
    refine Go.st (fun _ k => XS.ifYes X782.here hx rfl (pc0 := 199) (pc' := 204) rfl (hb hby at_199) rfl ((if0 _ _).trans (feq (neI rfl liI_0 c794)).2) (by decide) (by decide) k) ?_
    refine Go.st (fun _ k => XS.iload X782.here hx rfl (hb hby at_204) rfl k) ?_
    refine Go.st (fun _ k => XS.iconst X782.here hx rfl (hb hby at_206) k) ?_
    refine Go.st (fun _ k => XS.icmpNo X782.here hx rfl (hb hby at_207) rfl (tlt (ltI liI_1 liI_3 (by decide))).2.2.2 k) ?_
    refine Go.st (fun _ k => XS.aload X782.here hx rfl (hb hby at_210) rfl rfl k) ?_
    refine Go.st (fun _ k => XS.iconst X782.here hx rfl (hb hby at_212) k) ?_
    show Go p e below s Q 7 28 (T782.setTop (mkF m 213 #[.val (.int xa), .val (.int xb), .val (.int c0), .val (.int c1), .val (.int c2), .val (.int c3), .val (.int (3 : Int32)), .val (.int v624), .val (.int v633), .val (.int v642), .val (.int v651), .val (.int v660), .val (.ref b663), .val (.ref res_758)] [(.int (1 : Int32)), (.ref res_758)]))
    refine Go.st (RV.ild X782 hx hZ e782 h774 (j := (1 : Int32)) (by decide) (by decide) (g := (mkF m 213 #[.val (.int xa), .val (.int xb), .val (.int c0), .val (.int c1), .val (.int c2), .val (.int c3), .val (.int (3 : Int32)), .val (.int v624), .val (.int v633), .val (.int v642), .val (.int v651), .val (.int v660), .val (.ref b663), .val (.ref res_758)] [(.int (1 : Int32)), (.ref res_758)])) rfl rfl (hb hby at_213)) ?_
    show Go p e below s Q 7 28 (T782.setTop (mkF m 214 #[.val (.int xa), .val (.int xb), .val (.int c0), .val (.int c1), .val (.int c2), .val (.int c3), .val (.int (3 : Int32)), .val (.int v624), .val (.int v633), .val (.int v642), .val (.int v651), .val (.int v660), .val (.ref b663), .val (.ref res_758)] [(.ref w1_762)]))
    refine Go.st (fun _ k => XS.iconst X782.here hx rfl (hb hby at_214) k) ?_
    refine Go.st (fun _ k => XS.iload X782.here hx rfl (hb hby at_215) rfl k) ?_
    refine Go.st (fun _ k => XS.iload X782.here hx rfl (hb hby at_217) rfl k) ?_
    refine Go.st (fun _ k => XS.iload X782.here hx rfl (hb hby at_219) rfl k) ?_
    refine Go.st (fun _ k => XS.iload X782.here hx rfl (hb hby at_221) rfl k) ?_
    refine Go.st (fun _ k => XS.iload X782.here hx rfl (hb hby at_223) rfl k) ?_
    show Go p e below s Q 7 28 (T782.setTop (mkF m 225 #[.val (.int xa), .val (.int xb), .val (.int c0), .val (.int c1), .val (.int c2), .val (.int c3), .val (.int (3 : Int32)), .val (.int v624), .val (.int v633), .val (.int v642), .val (.int v651), .val (.int v660), .val (.ref b663), .val (.ref res_758)] [(.int v660), (.int v651), (.int v642), (.int v633), (.int v624), (.int (1 : Int32)), (.ref w1_762)]))
    have f797 := rng32 l1_763
    have f798 := liI_1
    have p799 : 0 ≤ v624.toInt ∧ v624.toInt ≤ 4 := by omega
    obtain ⟨_, _, ⟨T796, L796, k796, n796⟩, -, X796, ⟨Lc796, hQ796, l796, y796, z796⟩, st796⟩ := Jvm.LawKit.callS X782 hx (y := (⟨"com/example/rackwise/rackwise/RackCostsClientsOfRacksPinLaw", "rowOk", "([IIIIIII)Z"⟩ : MethodName)) hown (mvT hZ (hw _ (List.mem_of_getElem? (i := 9) rfl))) (mvT hZ (hw _ (List.mem_of_getElem? (i := 10) rfl))) (mvT hZ (hw _ (List.mem_of_getElem? (i := 11) rfl))) (mvT hZ (hw _ (List.mem_of_getElem? (i := 12) rfl))) (by decide) (backOf (W := 0) (rm2 l Z a0 hw [] w1_762 (1 : Int32) v624 v633 v642 v651 v660 l1_763 g1_764 T755.heap n0 (Nat.le_trans Z0 K755.1) h776 p799) hZ (hw _ (List.mem_of_getElem? (i := 12) rfl)) (hw _ (List.mem_of_getElem? (i := 11) rfl)) (by decide) (by decide)) (g := (mkF m 225 #[.val (.int xa), .val (.int xb), .val (.int c0), .val (.int c1), .val (.int c2), .val (.int c3), .val (.int (3 : Int32)), .val (.int v624), .val (.int v633), .val (.int v642), .val (.int v651), .val (.int v660), .val (.ref b663), .val (.ref res_758)] [(.int v660), (.int v651), (.int v642), (.int v633), (.int v624), (.int (1 : Int32)), (.ref w1_762)])) rfl (by rw [hml]; rfl) (argsL := [(.ref w1_762), (.int (1 : Int32)), (.int v624), (.int v633), (.int v642), (.int v651), (.int v660)]) (rest := []) (lenOf pd_2 rfl) rfl (by show 2 * 0 + _ ≤ _; exact Nat.le_of_eq rfl) (hb hby at_225) (fun _ _ => ⟨rfl, e782, (by decide : 6 + 0 ≤ _), (by decide : 22 + 0 ≤ _)⟩)
    dsimp only [Pt.U, Pt.locs, Pt.cells, Pt.slots] at X796 l796 y796 z796 st796 hQ796
    subst l796 y796 z796
    obtain ⟨rr_800, cc_801, rfl, N796q, f802, f803, e796⟩ := hQ796
    have N796 := Fr.app N782 N796q
    refine Go.st st796 ?_
    show Go p e below s Q 7 28 (T796.setTop (mkF m 228 #[.val (.int xa), .val (.int xb), .val (.int c0), .val (.int c1), .val (.int c2), .val (.int c3), .val (.int (3 : Int32)), .val (.int v624), .val (.int v633), .val (.int v642), .val (.int v651), .val (.int v660), .val (.ref b663), .val (.ref res_758)] [(.int rr_800)]))
    have f804 := rng32 rr_800
    have hrow1 : rr_800.toInt = 1 := by
      obtain ⟨qa, qb, qc, m0, m1, m2, m3⟩ := f802
      have q1 := chain_cnt hk0 hk1 hk2 hk3 (by omega) m0 m1 m2 m3
      have q2 := f769
      have q3 : (1 : Int32).toInt = 1 := by decide
      rw [q3] at q1
      omega
    clear f802 f803
    have c805 : ¬ (rr_800.toInt = 0) := by omega
    refine Go.st (fun _ k => XS.ifYes X796.here hx rfl (pc0 := 228) (pc' := 233) rfl (hb hby at_228) rfl ((if0 _ _).trans (feq (neI rfl liI_0 c805)).2) (by decide) (by decide) k) ?_
    refine Go.st (fun _ k => XS.iload X796.here hx rfl (hb hby at_233) rfl k) ?_
    refine Go.st (fun _ k => XS.iconst X796.here hx rfl (hb hby at_235) k) ?_
    refine Go.st (fun _ k => XS.icmpNo X796.here hx rfl (hb hby at_236) rfl (tlt (ltI liI_2 liI_3 (by decide))).2.2.2 k) ?_
    refine Go.st (fun _ k => XS.aload X796.here hx rfl (hb hby at_239) rfl rfl k) ?_
    refine Go.st (fun _ k => XS.iconst X796.here hx rfl (hb hby at_241) k) ?_
    show Go p e below s Q 7 28 (T796.setTop (mkF m 242 #[.val (.int xa), .val (.int xb), .val (.int c0), .val (.int c1), .val (.int c2), .val (.int c3), .val (.int (3 : Int32)), .val (.int v624), .val (.int v633), .val (.int v642), .val (.int v651), .val (.int v660), .val (.ref b663), .val (.ref res_758)] [(.int (2 : Int32)), (.ref res_758)]))
    refine Go.st (RV.ild X796 hx hZ e796 h774 (j := (2 : Int32)) (by decide) (by decide) (g := (mkF m 242 #[.val (.int xa), .val (.int xb), .val (.int c0), .val (.int c1), .val (.int c2), .val (.int c3), .val (.int (3 : Int32)), .val (.int v624), .val (.int v633), .val (.int v642), .val (.int v651), .val (.int v660), .val (.ref b663), .val (.ref res_758)] [(.int (2 : Int32)), (.ref res_758)])) rfl rfl (hb hby at_242)) ?_
    show Go p e below s Q 7 28 (T796.setTop (mkF m 243 #[.val (.int xa), .val (.int xb), .val (.int c0), .val (.int c1), .val (.int c2), .val (.int c3), .val (.int (3 : Int32)), .val (.int v624), .val (.int v633), .val (.int v642), .val (.int v651), .val (.int v660), .val (.ref b663), .val (.ref res_758)] [(.ref w2_765)]))
    refine Go.st (fun _ k => XS.iconst X796.here hx rfl (hb hby at_243) k) ?_
    refine Go.st (fun _ k => XS.iload X796.here hx rfl (hb hby at_244) rfl k) ?_
    refine Go.st (fun _ k => XS.iload X796.here hx rfl (hb hby at_246) rfl k) ?_
    refine Go.st (fun _ k => XS.iload X796.here hx rfl (hb hby at_248) rfl k) ?_
    refine Go.st (fun _ k => XS.iload X796.here hx rfl (hb hby at_250) rfl k) ?_
    refine Go.st (fun _ k => XS.iload X796.here hx rfl (hb hby at_252) rfl k) ?_
    show Go p e below s Q 7 28 (T796.setTop (mkF m 254 #[.val (.int xa), .val (.int xb), .val (.int c0), .val (.int c1), .val (.int c2), .val (.int c3), .val (.int (3 : Int32)), .val (.int v624), .val (.int v633), .val (.int v642), .val (.int v651), .val (.int v660), .val (.ref b663), .val (.ref res_758)] [(.int v660), (.int v651), (.int v642), (.int v633), (.int v624), (.int (2 : Int32)), (.ref w2_765)]))
    have f808 := rng32 l2_766
    have f809 := liI_2
    have p810 : 0 ≤ v624.toInt ∧ v624.toInt ≤ 4 := by omega
    obtain ⟨_, _, ⟨T807, L807, k807, n807⟩, -, X807, ⟨Lc807, hQ807, l807, y807, z807⟩, st807⟩ := Jvm.LawKit.callS X796 hx (y := (⟨"com/example/rackwise/rackwise/RackCostsClientsOfRacksPinLaw", "rowOk", "([IIIIIII)Z"⟩ : MethodName)) hown (mvT hZ (hw _ (List.mem_of_getElem? (i := 9) rfl))) (mvT hZ (hw _ (List.mem_of_getElem? (i := 10) rfl))) (mvT hZ (hw _ (List.mem_of_getElem? (i := 11) rfl))) (mvT hZ (hw _ (List.mem_of_getElem? (i := 12) rfl))) (by decide) (backOf (W := 0) (rm2 l Z a0 hw [] w2_765 (2 : Int32) v624 v633 v642 v651 v660 l2_766 g2_767 T755.heap n0 (Nat.le_trans Z0 K755.1) h777 p810) hZ (hw _ (List.mem_of_getElem? (i := 12) rfl)) (hw _ (List.mem_of_getElem? (i := 11) rfl)) (by decide) (by decide)) (g := (mkF m 254 #[.val (.int xa), .val (.int xb), .val (.int c0), .val (.int c1), .val (.int c2), .val (.int c3), .val (.int (3 : Int32)), .val (.int v624), .val (.int v633), .val (.int v642), .val (.int v651), .val (.int v660), .val (.ref b663), .val (.ref res_758)] [(.int v660), (.int v651), (.int v642), (.int v633), (.int v624), (.int (2 : Int32)), (.ref w2_765)])) rfl (by rw [hml]; rfl) (argsL := [(.ref w2_765), (.int (2 : Int32)), (.int v624), (.int v633), (.int v642), (.int v651), (.int v660)]) (rest := []) (lenOf pd_2 rfl) rfl (by show 2 * 0 + _ ≤ _; exact Nat.le_of_eq rfl) (hb hby at_254) (fun _ _ => ⟨rfl, e796, (by decide : 6 + 0 ≤ _), (by decide : 22 + 0 ≤ _)⟩)
    dsimp only [Pt.U, Pt.locs, Pt.cells, Pt.slots] at X807 l807 y807 z807 st807 hQ807
    subst l807 y807 z807
    obtain ⟨rr_811, cc_812, rfl, N807q, f813, f814, e807⟩ := hQ807
    have N807 := Fr.app N796 N807q
    refine Go.st st807 ?_
    show Go p e below s Q 7 28 (T807.setTop (mkF m 257 #[.val (.int xa), .val (.int xb), .val (.int c0), .val (.int c1), .val (.int c2), .val (.int c3), .val (.int (3 : Int32)), .val (.int v624), .val (.int v633), .val (.int v642), .val (.int v651), .val (.int v660), .val (.ref b663), .val (.ref res_758)] [(.int rr_811)]))
    have f815 := rng32 rr_811
    have hrow2 : rr_811.toInt = 1 := by
      obtain ⟨qa, qb, qc, m0, m1, m2, m3⟩ := f813
      have q1 := chain_cnt hk0 hk1 hk2 hk3 (by omega) m0 m1 m2 m3
      have q2 := f770
      have q3 : (2 : Int32).toInt = 2 := by decide
      rw [q3] at q1
      omega
    clear f813 f814
    have c816 : ¬ (rr_811.toInt = 0) := by omega
    refine Go.st (fun _ k => XS.ifYes X807.here hx rfl (pc0 := 257) (pc' := 262) rfl (hb hby at_257) rfl ((if0 _ _).trans (feq (neI rfl liI_0 c816)).2) (by decide) (by decide) k) ?_
    refine Go.st (fun _ k => XS.iload X807.here hx rfl (hb hby at_262) rfl k) ?_
    refine Go.st (fun _ k => XS.iconst X807.here hx rfl (hb hby at_264) k) ?_
    refine Go.st (fun _ k => XS.icmpYes X807.here hx rfl (pc0 := 265) (pc' := 291) rfl (hb hby at_265) rfl (flt (nltI liI_3 liI_3 (by decide))).2.2.2 (by decide) (by decide) k) ?_
    show Go p e below s Q 7 28 (T807.setTop (mkF m 291 #[.val (.int xa), .val (.int xb), .val (.int c0), .val (.int c1), .val (.int c2), .val (.int c3), .val (.int (3 : Int32)), .val (.int v624), .val (.int v633), .val (.int v642), .val (.int v651), .val (.int v660), .val (.ref b663), .val (.ref res_758)] []))
    suffices J818 : ∀ (Tg817 : State) (hg817 : Heap) (Lgg817 : List Loc) (Xg817 : Stand p l e room_1 s m #[(.int xa), (.int xb), (.int c0), (.int c1), (.int c2), (.int c3)] below meth c Tg817 Lgg817 6 22) (eg817 : Tg817.heap = hg817) (Ng817 : Fr n0 Lgg817) (Kg817 : Keep h0 hg817 []) (hfg817_0 : Exa Z hg817 b663 "[I") (hfg817_1 : Vec Z hg817 b663 .int v624 (ints KK)) (hfg817_2 : RV Z hg817 res_758 (3 : Int32) [(.ref w0_759), (.ref w1_762), (.ref w2_765)]) (hfg817_3 : Vec Z hg817 w0_759 .int l0_760 (ints g0_761)) (hfg817_4 : Vec Z hg817 w1_762 .int l1_763 (ints g1_764)) (hfg817_5 : Vec Z hg817 w2_765 .int l2_766 (ints g2_767)), Go p e below s Q 7 28 (Tg817.setTop (mkF m 310 #[.val (.int xa), .val (.int xb), .val (.int c0), .val (.int c1), .val (.int c2), .val (.int c3), .val (.int (3 : Int32)), .val (.int v624), .val (.int v633), .val (.int v642), .val (.int v651), .val (.int v660), .val (.ref b663), .val (.ref res_758)] [])) by
      refine Go.st (fun _ k => XS.iload X807.here hx rfl (hb hby at_291) rfl k) ?_
      by_cases c819 : 0 < v624.toInt
      ·
        refine Go.st (fun _ k => XS.ifNo X807.here hx rfl (hb hby at_293) rfl ((if0 _ _).trans (tlt (ltI liI_0 rfl c819)).2.2.2) k) ?_
        refine Go.st (fun _ k => XS.aload X807.here hx rfl (hb hby at_296) rfl rfl k) ?_
        refine Go.st (fun _ k => XS.iconst X807.here hx rfl (hb hby at_298) k) ?_
        refine Go.st (fun _ k => XS.iload X807.here hx rfl (hb hby at_299) rfl k) ?_
        refine Go.st (fun _ k => XS.iconst X807.here hx rfl (hb hby at_301) k) ?_
        show Go p e below s Q 7 28 (T807.setTop (mkF m 302 #[.val (.int xa), .val (.int xb), .val (.int c0), .val (.int c1), .val (.int c2), .val (.int c3), .val (.int (3 : Int32)), .val (.int v624), .val (.int v633), .val (.int v642), .val (.int v651), .val (.int v660), .val (.ref b663), .val (.ref res_758)] [(.int (0 : Int32)), (.int v633), (.int (0 : Int32)), (.ref res_758)]))
        have hra0 : (0 : Int32).toInt = cnt KK 0 v633.toInt := by
          have e0 : cnt KK 0 v633.toInt = 0 := rfl
          omega
        have hrb0 := cnt_rng KK 0 v633.toInt
        have p821 : 0 ≤ v633.toInt ∧ v633.toInt < 3 ∧ 0 ≤ (0 : Int32).toInt := by omega
        obtain ⟨_, _, ⟨T820, L820, k820, n820⟩, -, X820, ⟨Lc820, hQ820, l820, y820, z820⟩, st820⟩ := Jvm.LawKit.callS X807 hx (y := (⟨"com/example/rackwise/rackwise/RackCostsClientsOfRacksPinLaw", "placed", "([[IIII)Z"⟩ : MethodName)) hown (mvT hZ (hw _ (List.mem_of_getElem? (i := 16) rfl))) (mvT hZ (hw _ (List.mem_of_getElem? (i := 17) rfl))) (mvT hZ (hw _ (List.mem_of_getElem? (i := 11) rfl))) (mvT hZ (hw _ (List.mem_of_getElem? (i := 18) rfl))) (by decide) (backOf (W := 0) (rmp3 l Z a0 hw [] res_758 (0 : Int32) v633 (0 : Int32) w0_759 l0_760 g0_761 w1_762 l1_763 g1_764 w2_765 l2_766 g2_767 T755.heap n0 (Nat.le_trans Z0 K755.1) h774 h775 h776 h777 p821) hZ (hw _ (List.mem_of_getElem? (i := 18) rfl)) (hw _ (List.mem_of_getElem? (i := 11) rfl)) (by decide) (by decide)) (g := (mkF m 302 #[.val (.int xa), .val (.int xb), .val (.int c0), .val (.int c1), .val (.int c2), .val (.int c3), .val (.int (3 : Int32)), .val (.int v624), .val (.int v633), .val (.int v642), .val (.int v651), .val (.int v660), .val (.ref b663), .val (.ref res_758)] [(.int (0 : Int32)), (.int v633), (.int (0 : Int32)), (.ref res_758)])) rfl (by rw [hml]; rfl) (argsL := [(.ref res_758), (.int (0 : Int32)), (.int v633), (.int (0 : Int32))]) (rest := []) (lenOf pd_3 rfl) rfl (by show 2 * 0 + _ ≤ _; exact Nat.le_of_eq rfl) (hb hby at_302) (fun _ _ => ⟨rfl, e807, (by decide : 6 + 0 ≤ _), (by decide : 22 + 0 ≤ _)⟩)
        dsimp only [Pt.U, Pt.locs, Pt.cells, Pt.slots] at X820 l820 y820 z820 st820 hQ820
        subst l820 y820 z820
        obtain ⟨rr_822, rfl, N820q, f823, f824, f825, e820⟩ := hQ820
        have N820 := Fr.app N807 N820q
        refine Go.st st820 ?_
        show Go p e below s Q 7 28 (T820.setTop (mkF m 305 #[.val (.int xa), .val (.int xb), .val (.int c0), .val (.int c1), .val (.int c2), .val (.int c3), .val (.int (3 : Int32)), .val (.int v624), .val (.int v633), .val (.int v642), .val (.int v651), .val (.int v660), .val (.ref b663), .val (.ref res_758)] [(.int rr_822)]))
        have f826 := rng32 rr_822
        have hone0 : rr_822.toInt = 1 := by
          rcases (by omega : v633.toInt = 0 ∨ v633.toInt = 1 ∨ v633.toInt = 2) with q1 | q1 | q1
          · exact placed_ok (i := 0) f768 f771 (by omega) (by rw [hk0 (by omega)]; exact q1) (by rw [← q1]; exact hra0) (by decide) (f823 q1)
          · exact placed_ok (i := 0) f769 f772 (by omega) (by rw [hk0 (by omega)]; exact q1) (by rw [← q1]; exact hra0) (by decide) (f824 q1)
          · exact placed_ok (i := 0) f770 f773 (by omega) (by rw [hk0 (by omega)]; exact q1) (by rw [← q1]; exact hra0) (by decide) (f825 q1)
        clear f823 f824 f825
        have c827 : ¬ (rr_822.toInt = 0) := by omega
        refine Go.st (fun _ k => XS.ifYes X820.here hx rfl (pc0 := 305) (pc' := 310) rfl (hb hby at_305) rfl ((if0 _ _).trans (feq (neI rfl liI_0 c827)).2) (by decide) (by decide) k) ?_
        show Go p e below s Q 7 28 (T820.setTop (mkF m 310 #[.val (.int xa), .val (.int xb), .val (.int c0), .val (.int c1), .val (.int c2), .val (.int c3), .val (.int (3 : Int32)), .val (.int v624), .val (.int v633), .val (.int v642), .val (.int v651), .val (.int v660), .val (.ref b663), .val (.ref res_758)] []))
        have f828 := rng32 xa
        have f829 := rng32 xb
        have f830 := rng32 c0
        have f831 := rng32 c1
        have f832 := rng32 c2
        have f833 := rng32 c3
        exact J818 T820 T755.heap _ (up X820 (by decide) (by decide)) e820 N820 K755 h778 h779 h774 h775 h776 h777
      ·
        refine Go.st (fun _ k => XS.ifYes X807.here hx rfl (pc0 := 293) (pc' := 310) rfl (hb hby at_293) rfl ((if0 _ _).trans (flt (nltI liI_0 rfl c819)).2.2.2) (by decide) (by decide) k) ?_
        show Go p e below s Q 7 28 (T807.setTop (mkF m 310 #[.val (.int xa), .val (.int xb), .val (.int c0), .val (.int c1), .val (.int c2), .val (.int c3), .val (.int (3 : Int32)), .val (.int v624), .val (.int v633), .val (.int v642), .val (.int v651), .val (.int v660), .val (.ref b663), .val (.ref res_758)] []))
        have f834 := rng32 xa
        have f835 := rng32 xb
        have f836 := rng32 c0
        have f837 := rng32 c1
        have f838 := rng32 c2
        have f839 := rng32 c3
        exact J818 T807 T755.heap _ (up X807 (by decide) (by decide)) e807 N807 K755 h778 h779 h774 h775 h776 h777
    intro Tg817 hg817 Lgg817 Xg817 eg817 Ng817 Kg817 hfg817_0 hfg817_1 hfg817_2 hfg817_3 hfg817_4 hfg817_5
    suffices J841 : ∀ (Tg840 : State) (hg840 : Heap) (Lgg840 : List Loc) (Xg840 : Stand p l e room_1 s m #[(.int xa), (.int xb), (.int c0), (.int c1), (.int c2), (.int c3)] below meth c Tg840 Lgg840 6 22) (eg840 : Tg840.heap = hg840) (Ng840 : Fr n0 Lgg840) (Kg840 : Keep h0 hg840 []) (hfg840_0 : Exa Z hg840 b663 "[I") (hfg840_1 : Vec Z hg840 b663 .int v624 (ints KK)) (hfg840_2 : RV Z hg840 res_758 (3 : Int32) [(.ref w0_759), (.ref w1_762), (.ref w2_765)]) (hfg840_3 : Vec Z hg840 w0_759 .int l0_760 (ints g0_761)) (hfg840_4 : Vec Z hg840 w1_762 .int l1_763 (ints g1_764)) (hfg840_5 : Vec Z hg840 w2_765 .int l2_766 (ints g2_767)), Go p e below s Q 7 28 (Tg840.setTop (mkF m 336 #[.val (.int xa), .val (.int xb), .val (.int c0), .val (.int c1), .val (.int c2), .val (.int c3), .val (.int (3 : Int32)), .val (.int v624), .val (.int v633), .val (.int v642), .val (.int v651), .val (.int v660), .val (.ref b663), .val (.ref res_758)] [])) by
      refine Go.st (fun _ k => XS.iload Xg817.here hx rfl (hb hby at_310) rfl k) ?_
      refine Go.st (fun _ k => XS.iconst Xg817.here hx rfl (hb hby at_312) k) ?_
      by_cases c842 : 1 < v624.toInt
      ·
        refine Go.st (fun _ k => XS.icmpNo Xg817.here hx rfl (hb hby at_313) rfl (tlt (ltI liI_1 rfl c842)).2.2.2 k) ?_
        refine Go.st (fun _ k => XS.aload Xg817.here hx rfl (hb hby at_316) rfl rfl k) ?_
        refine Go.st (fun _ k => XS.iconst Xg817.here hx rfl (hb hby at_318) k) ?_
        refine Go.st (fun _ k => XS.iload Xg817.here hx rfl (hb hby at_319) rfl k) ?_
        show Go p e below s Q 7 28 (Tg817.setTop (mkF m 321 #[.val (.int xa), .val (.int xb), .val (.int c0), .val (.int c1), .val (.int c2), .val (.int c3), .val (.int (3 : Int32)), .val (.int v624), .val (.int v633), .val (.int v642), .val (.int v651), .val (.int v660), .val (.ref b663), .val (.ref res_758)] [(.int v642), (.int (1 : Int32)), (.ref res_758)]))
        refine Go.st (fun _ k => XS.iload Xg817.here hx rfl (hb hby at_321) rfl k) ?_
        refine Go.st (fun _ k => XS.iload Xg817.here hx rfl (hb hby at_323) rfl k) ?_
        obtain ⟨_, _, ⟨T843, L843, k843, n843⟩, -, X843, ⟨Lc843, hQ843, l843, y843, z843⟩, st843⟩ := Jvm.LawKit.callS Xg817 hx (y := (⟨"com/example/rackwise/rackwise/RackCostsClientsOfRacksPinLaw", "same", "(II)I"⟩ : MethodName)) hown (mvT hZ (hw _ (List.mem_of_getElem? (i := 19) rfl))) (mvT hZ (hw _ (List.mem_of_getElem? (i := 20) rfl))) (mvT hZ (hw _ (List.mem_of_getElem? (i := 11) rfl))) (mvT hZ (hw _ (List.mem_of_getElem? (i := 21) rfl))) (by decide) (backOf (W := 3) (rm5 l Z a0 hw [] v633 v642 hg817 n0 (Nat.le_trans Z0 Kg817.1) ) hZ (hw _ (List.mem_of_getElem? (i := 21) rfl)) (hw _ (List.mem_of_getElem? (i := 11) rfl)) (by decide) (by decide)) (g := (mkF m 325 #[.val (.int xa), .val (.int xb), .val (.int c0), .val (.int c1), .val (.int c2), .val (.int c3), .val (.int (3 : Int32)), .val (.int v624), .val (.int v633), .val (.int v642), .val (.int v651), .val (.int v660), .val (.ref b663), .val (.ref res_758)] [(.int v642), (.int v633), (.int v642), (.int (1 : Int32)), (.ref res_758)])) rfl (by rw [hml]; rfl) (argsL := [(.int v633), (.int v642)]) (rest := [(.int v642), (.int (1 : Int32)), (.ref res_758)]) (lenOf pd_4 rfl) rfl (by show 2 * 0 + _ ≤ _; exact Nat.le_of_eq rfl) (hb hby at_325) (fun _ _ => ⟨rfl, eg817, (by decide : 6 + 0 ≤ _), (by decide : 22 + 0 ≤ _)⟩)
        dsimp only [Pt.U, Pt.locs, Pt.cells, Pt.slots] at X843 l843 y843 z843 st843 hQ843
        subst l843 y843 z843
        obtain ⟨rr_844, rfl, N843q, f845, e843⟩ := hQ843
        have N843 := Fr.app Ng817 N843q
        refine Go.st st843 ?_
        show Go p e below s Q 7 28 (T843.setTop (mkF m 328 #[.val (.int xa), .val (.int xb), .val (.int c0), .val (.int c1), .val (.int c2), .val (.int c3), .val (.int (3 : Int32)), .val (.int v624), .val (.int v633), .val (.int v642), .val (.int v651), .val (.int v660), .val (.ref b663), .val (.ref res_758)] [(.int rr_844), (.int v642), (.int (1 : Int32)), (.ref res_758)]))
        have f846 := rng32 rr_844
        have hra1 : rr_844.toInt = cnt KK 1 v642.toInt := by
          have i0 := ind_c (KK 0).toInt v642.toInt
          have j0 := hk0 (by omega)
          have e0 : cnt KK 0 v642.toInt = 0 := rfl
          have e1 : cnt KK 1 v642.toInt = cnt KK 0 v642.toInt + ind (KK 0).toInt v642.toInt := rfl
          omega
        have hrb1 := cnt_rng KK 1 v642.toInt
        have p848 : 0 ≤ v642.toInt ∧ v642.toInt < 3 ∧ 0 ≤ rr_844.toInt := by omega
        obtain ⟨_, _, ⟨T847, L847, k847, n847⟩, -, X847, ⟨Lc847, hQ847, l847, y847, z847⟩, st847⟩ := Jvm.LawKit.callS X843 hx (y := (⟨"com/example/rackwise/rackwise/RackCostsClientsOfRacksPinLaw", "placed", "([[IIII)Z"⟩ : MethodName)) hown (mvT hZ (hw _ (List.mem_of_getElem? (i := 16) rfl))) (mvT hZ (hw _ (List.mem_of_getElem? (i := 17) rfl))) (mvT hZ (hw _ (List.mem_of_getElem? (i := 11) rfl))) (mvT hZ (hw _ (List.mem_of_getElem? (i := 18) rfl))) (by decide) (backOf (W := 0) (rmp3 l Z a0 hw [] res_758 (1 : Int32) v642 rr_844 w0_759 l0_760 g0_761 w1_762 l1_763 g1_764 w2_765 l2_766 g2_767 hg817 n0 (Nat.le_trans Z0 Kg817.1) hfg817_2 hfg817_3 hfg817_4 hfg817_5 p848) hZ (hw _ (List.mem_of_getElem? (i := 18) rfl)) (hw _ (List.mem_of_getElem? (i := 11) rfl)) (by decide) (by decide)) (g := (mkF m 328 #[.val (.int xa), .val (.int xb), .val (.int c0), .val (.int c1), .val (.int c2), .val (.int c3), .val (.int (3 : Int32)), .val (.int v624), .val (.int v633), .val (.int v642), .val (.int v651), .val (.int v660), .val (.ref b663), .val (.ref res_758)] [(.int rr_844), (.int v642), (.int (1 : Int32)), (.ref res_758)])) rfl (by rw [hml]; rfl) (argsL := [(.ref res_758), (.int (1 : Int32)), (.int v642), (.int rr_844)]) (rest := []) (lenOf pd_3 rfl) rfl (by show 2 * 0 + _ ≤ _; exact Nat.le_of_eq rfl) (hb hby at_328) (fun _ _ => ⟨rfl, e843, (by decide : 6 + 0 ≤ _), (by decide : 22 + 0 ≤ _)⟩)
        dsimp only [Pt.U, Pt.locs, Pt.cells, Pt.slots] at X847 l847 y847 z847 st847 hQ847
        subst l847 y847 z847
        obtain ⟨rr_849, rfl, N847q, f850, f851, f852, e847⟩ := hQ847
        have N847 := Fr.app N843 N847q
        refine Go.st st847 ?_
        show Go p e below s Q 7 28 (T847.setTop (mkF m 331 #[.val (.int xa), .val (.int xb), .val (.int c0), .val (.int c1), .val (.int c2), .val (.int c3), .val (.int (3 : Int32)), .val (.int v624), .val (.int v633), .val (.int v642), .val (.int v651), .val (.int v660), .val (.ref b663), .val (.ref res_758)] [(.int rr_849)]))
        have f853 := rng32 rr_849
        have hone1 : rr_849.toInt = 1 := by
          rcases (by omega : v642.toInt = 0 ∨ v642.toInt = 1 ∨ v642.toInt = 2) with q1 | q1 | q1
          · exact placed_ok (i := 1) f768 f771 (by omega) (by rw [hk1 (by omega)]; exact q1) (by rw [← q1]; exact hra1) (by decide) (f850 q1)
          · exact placed_ok (i := 1) f769 f772 (by omega) (by rw [hk1 (by omega)]; exact q1) (by rw [← q1]; exact hra1) (by decide) (f851 q1)
          · exact placed_ok (i := 1) f770 f773 (by omega) (by rw [hk1 (by omega)]; exact q1) (by rw [← q1]; exact hra1) (by decide) (f852 q1)
        clear f850 f851 f852
        have c854 : ¬ (rr_849.toInt = 0) := by omega
        refine Go.st (fun _ k => XS.ifYes X847.here hx rfl (pc0 := 331) (pc' := 336) rfl (hb hby at_331) rfl ((if0 _ _).trans (feq (neI rfl liI_0 c854)).2) (by decide) (by decide) k) ?_
        show Go p e below s Q 7 28 (T847.setTop (mkF m 336 #[.val (.int xa), .val (.int xb), .val (.int c0), .val (.int c1), .val (.int c2), .val (.int c3), .val (.int (3 : Int32)), .val (.int v624), .val (.int v633), .val (.int v642), .val (.int v651), .val (.int v660), .val (.ref b663), .val (.ref res_758)] []))
        have f855 := rng32 xa
        have f856 := rng32 xb
        have f857 := rng32 c0
        have f858 := rng32 c1
        have f859 := rng32 c2
        have f860 := rng32 c3
        exact J841 T847 hg817 _ (up X847 (by decide) (by decide)) e847 N847 Kg817 hfg817_0 hfg817_1 hfg817_2 hfg817_3 hfg817_4 hfg817_5
      ·
        refine Go.st (fun _ k => XS.icmpYes Xg817.here hx rfl (pc0 := 313) (pc' := 336) rfl (hb hby at_313) rfl (flt (nltI liI_1 rfl c842)).2.2.2 (by decide) (by decide) k) ?_
        show Go p e below s Q 7 28 (Tg817.setTop (mkF m 336 #[.val (.int xa), .val (.int xb), .val (.int c0), .val (.int c1), .val (.int c2), .val (.int c3), .val (.int (3 : Int32)), .val (.int v624), .val (.int v633), .val (.int v642), .val (.int v651), .val (.int v660), .val (.ref b663), .val (.ref res_758)] []))
        have f861 := rng32 xa
        have f862 := rng32 xb
        have f863 := rng32 c0
        have f864 := rng32 c1
        have f865 := rng32 c2
        have f866 := rng32 c3
        exact J841 Tg817 hg817 _ (up Xg817 (by decide) (by decide)) eg817 Ng817 Kg817 hfg817_0 hfg817_1 hfg817_2 hfg817_3 hfg817_4 hfg817_5
    intro Tg840 hg840 Lgg840 Xg840 eg840 Ng840 Kg840 hfg840_0 hfg840_1 hfg840_2 hfg840_3 hfg840_4 hfg840_5
    suffices J868 : ∀ (Tg867 : State) (hg867 : Heap) (Lgg867 : List Loc) (Xg867 : Stand p l e room_1 s m #[(.int xa), (.int xb), (.int c0), (.int c1), (.int c2), (.int c3)] below meth c Tg867 Lgg867 6 22) (eg867 : Tg867.heap = hg867) (Ng867 : Fr n0 Lgg867) (Kg867 : Keep h0 hg867 []) (hfg867_0 : Exa Z hg867 b663 "[I") (hfg867_1 : Vec Z hg867 b663 .int v624 (ints KK)) (hfg867_2 : RV Z hg867 res_758 (3 : Int32) [(.ref w0_759), (.ref w1_762), (.ref w2_765)]) (hfg867_3 : Vec Z hg867 w0_759 .int l0_760 (ints g0_761)) (hfg867_4 : Vec Z hg867 w1_762 .int l1_763 (ints g1_764)) (hfg867_5 : Vec Z hg867 w2_765 .int l2_766 (ints g2_767)), Go p e below s Q 7 28 (Tg867.setTop (mkF m 370 #[.val (.int xa), .val (.int xb), .val (.int c0), .val (.int c1), .val (.int c2), .val (.int c3), .val (.int (3 : Int32)), .val (.int v624), .val (.int v633), .val (.int v642), .val (.int v651), .val (.int v660), .val (.ref b663), .val (.ref res_758)] [])) by
      refine Go.st (fun _ k => XS.iload Xg840.here hx rfl (hb hby at_336) rfl k) ?_
      refine Go.st (fun _ k => XS.iconst Xg840.here hx rfl (hb hby at_338) k) ?_
      by_cases c869 : 2 < v624.toInt
      ·
        refine Go.st (fun _ k => XS.icmpNo Xg840.here hx rfl (hb hby at_339) rfl (tlt (ltI liI_2 rfl c869)).2.2.2 k) ?_
        refine Go.st (fun _ k => XS.aload Xg840.here hx rfl (hb hby at_342) rfl rfl k) ?_
        refine Go.st (fun _ k => XS.iconst Xg840.here hx rfl (hb hby at_344) k) ?_
        refine Go.st (fun _ k => XS.iload Xg840.here hx rfl (hb hby at_345) rfl k) ?_
        show Go p e below s Q 7 28 (Tg840.setTop (mkF m 347 #[.val (.int xa), .val (.int xb), .val (.int c0), .val (.int c1), .val (.int c2), .val (.int c3), .val (.int (3 : Int32)), .val (.int v624), .val (.int v633), .val (.int v642), .val (.int v651), .val (.int v660), .val (.ref b663), .val (.ref res_758)] [(.int v651), (.int (2 : Int32)), (.ref res_758)]))
        refine Go.st (fun _ k => XS.iload Xg840.here hx rfl (hb hby at_347) rfl k) ?_
        refine Go.st (fun _ k => XS.iload Xg840.here hx rfl (hb hby at_349) rfl k) ?_
        obtain ⟨_, _, ⟨T870, L870, k870, n870⟩, -, X870, ⟨Lc870, hQ870, l870, y870, z870⟩, st870⟩ := Jvm.LawKit.callS Xg840 hx (y := (⟨"com/example/rackwise/rackwise/RackCostsClientsOfRacksPinLaw", "same", "(II)I"⟩ : MethodName)) hown (mvT hZ (hw _ (List.mem_of_getElem? (i := 19) rfl))) (mvT hZ (hw _ (List.mem_of_getElem? (i := 20) rfl))) (mvT hZ (hw _ (List.mem_of_getElem? (i := 11) rfl))) (mvT hZ (hw _ (List.mem_of_getElem? (i := 21) rfl))) (by decide) (backOf (W := 3) (rm5 l Z a0 hw [] v633 v651 hg840 n0 (Nat.le_trans Z0 Kg840.1) ) hZ (hw _ (List.mem_of_getElem? (i := 21) rfl)) (hw _ (List.mem_of_getElem? (i := 11) rfl)) (by decide) (by decide)) (g := (mkF m 351 #[.val (.int xa), .val (.int xb), .val (.int c0), .val (.int c1), .val (.int c2), .val (.int c3), .val (.int (3 : Int32)), .val (.int v624), .val (.int v633), .val (.int v642), .val (.int v651), .val (.int v660), .val (.ref b663), .val (.ref res_758)] [(.int v651), (.int v633), (.int v651), (.int (2 : Int32)), (.ref res_758)])) rfl (by rw [hml]; rfl) (argsL := [(.int v633), (.int v651)]) (rest := [(.int v651), (.int (2 : Int32)), (.ref res_758)]) (lenOf pd_4 rfl) rfl (by show 2 * 0 + _ ≤ _; exact Nat.le_of_eq rfl) (hb hby at_351) (fun _ _ => ⟨rfl, eg840, (by decide : 6 + 0 ≤ _), (by decide : 22 + 0 ≤ _)⟩)
        dsimp only [Pt.U, Pt.locs, Pt.cells, Pt.slots] at X870 l870 y870 z870 st870 hQ870
        subst l870 y870 z870
        obtain ⟨rr_871, rfl, N870q, f872, e870⟩ := hQ870
        have N870 := Fr.app Ng840 N870q
        refine Go.st st870 ?_
        show Go p e below s Q 7 28 (T870.setTop (mkF m 354 #[.val (.int xa), .val (.int xb), .val (.int c0), .val (.int c1), .val (.int c2), .val (.int c3), .val (.int (3 : Int32)), .val (.int v624), .val (.int v633), .val (.int v642), .val (.int v651), .val (.int v660), .val (.ref b663), .val (.ref res_758)] [(.int rr_871), (.int v651), (.int (2 : Int32)), (.ref res_758)]))
        have f873 := rng32 rr_871
        refine Go.st (fun _ k => XS.iload X870.here hx rfl (hb hby at_354) rfl k) ?_
        refine Go.st (fun _ k => XS.iload X870.here hx rfl (hb hby at_356) rfl k) ?_
        obtain ⟨_, _, ⟨T874, L874, k874, n874⟩, -, X874, ⟨Lc874, hQ874, l874, y874, z874⟩, st874⟩ := Jvm.LawKit.callS X870 hx (y := (⟨"com/example/rackwise/rackwise/RackCostsClientsOfRacksPinLaw", "same", "(II)I"⟩ : MethodName)) hown (mvT hZ (hw _ (List.mem_of_getElem? (i := 19) rfl))) (mvT hZ (hw _ (List.mem_of_getElem? (i := 20) rfl))) (mvT hZ (hw _ (List.mem_of_getElem? (i := 11) rfl))) (mvT hZ (hw _ (List.mem_of_getElem? (i := 21) rfl))) (by decide) (backOf (W := 4) (rm5 l Z a0 hw [] v642 v651 hg840 n0 (Nat.le_trans Z0 Kg840.1) ) hZ (hw _ (List.mem_of_getElem? (i := 21) rfl)) (hw _ (List.mem_of_getElem? (i := 11) rfl)) (by decide) (by decide)) (g := (mkF m 358 #[.val (.int xa), .val (.int xb), .val (.int c0), .val (.int c1), .val (.int c2), .val (.int c3), .val (.int (3 : Int32)), .val (.int v624), .val (.int v633), .val (.int v642), .val (.int v651), .val (.int v660), .val (.ref b663), .val (.ref res_758)] [(.int v651), (.int v642), (.int rr_871), (.int v651), (.int (2 : Int32)), (.ref res_758)])) rfl (by rw [hml]; rfl) (argsL := [(.int v642), (.int v651)]) (rest := [(.int rr_871), (.int v651), (.int (2 : Int32)), (.ref res_758)]) (lenOf pd_4 rfl) rfl (by show 2 * 0 + _ ≤ _; exact Nat.le_of_eq rfl) (hb hby at_358) (fun _ _ => ⟨rfl, e870, (by decide : 6 + 0 ≤ _), (by decide : 22 + 0 ≤ _)⟩)
        dsimp only [Pt.U, Pt.locs, Pt.cells, Pt.slots] at X874 l874 y874 z874 st874 hQ874
        subst l874 y874 z874
        obtain ⟨rr_875, rfl, N874q, f876, e874⟩ := hQ874
        have N874 := Fr.app N870 N874q
        refine Go.st st874 ?_
        show Go p e below s Q 7 28 (T874.setTop (mkF m 361 #[.val (.int xa), .val (.int xb), .val (.int c0), .val (.int c1), .val (.int c2), .val (.int c3), .val (.int (3 : Int32)), .val (.int v624), .val (.int v633), .val (.int v642), .val (.int v651), .val (.int v660), .val (.ref b663), .val (.ref res_758)] [(.int rr_875), (.int rr_871), (.int v651), (.int (2 : Int32)), (.ref res_758)]))
        have f877 := rng32 rr_875
        refine Go.st (fun _ k => XS.iadd X874.here hx rfl (hb hby at_361) rfl k) ?_
        show Go p e below s Q 7 28 (T874.setTop (mkF m 362 #[.val (.int xa), .val (.int xb), .val (.int c0), .val (.int c1), .val (.int c2), .val (.int c3), .val (.int (3 : Int32)), .val (.int v624), .val (.int v633), .val (.int v642), .val (.int v651), .val (.int v660), .val (.ref b663), .val (.ref res_758)] [(.int (rr_871 + rr_875)), (.int v651), (.int (2 : Int32)), (.ref res_758)]))
        have f878 := c_iadd rr_871 rr_875
        have f879 := rng32 (rr_871 + rr_875)
        have hra2 : (rr_871 + rr_875).toInt = cnt KK 2 v651.toInt := by
          have i0 := ind_c (KK 0).toInt v651.toInt
          have j0 := hk0 (by omega)
          have i1 := ind_c (KK 1).toInt v651.toInt
          have j1 := hk1 (by omega)
          have e0 : cnt KK 0 v651.toInt = 0 := rfl
          have e1 : cnt KK 1 v651.toInt = cnt KK 0 v651.toInt + ind (KK 0).toInt v651.toInt := rfl
          have e2 : cnt KK 2 v651.toInt = cnt KK 1 v651.toInt + ind (KK 1).toInt v651.toInt := rfl
          omega
        have hrb2 := cnt_rng KK 2 v651.toInt
        have p881 : 0 ≤ v651.toInt ∧ v651.toInt < 3 ∧ 0 ≤ (rr_871 + rr_875).toInt := by omega
        obtain ⟨_, _, ⟨T880, L880, k880, n880⟩, -, X880, ⟨Lc880, hQ880, l880, y880, z880⟩, st880⟩ := Jvm.LawKit.callS X874 hx (y := (⟨"com/example/rackwise/rackwise/RackCostsClientsOfRacksPinLaw", "placed", "([[IIII)Z"⟩ : MethodName)) hown (mvT hZ (hw _ (List.mem_of_getElem? (i := 16) rfl))) (mvT hZ (hw _ (List.mem_of_getElem? (i := 17) rfl))) (mvT hZ (hw _ (List.mem_of_getElem? (i := 11) rfl))) (mvT hZ (hw _ (List.mem_of_getElem? (i := 18) rfl))) (by decide) (backOf (W := 0) (rmp3 l Z a0 hw [] res_758 (2 : Int32) v651 (rr_871 + rr_875) w0_759 l0_760 g0_761 w1_762 l1_763 g1_764 w2_765 l2_766 g2_767 hg840 n0 (Nat.le_trans Z0 Kg840.1) hfg840_2 hfg840_3 hfg840_4 hfg840_5 p881) hZ (hw _ (List.mem_of_getElem? (i := 18) rfl)) (hw _ (List.mem_of_getElem? (i := 11) rfl)) (by decide) (by decide)) (g := (mkF m 362 #[.val (.int xa), .val (.int xb), .val (.int c0), .val (.int c1), .val (.int c2), .val (.int c3), .val (.int (3 : Int32)), .val (.int v624), .val (.int v633), .val (.int v642), .val (.int v651), .val (.int v660), .val (.ref b663), .val (.ref res_758)] [(.int (rr_871 + rr_875)), (.int v651), (.int (2 : Int32)), (.ref res_758)])) rfl (by rw [hml]; rfl) (argsL := [(.ref res_758), (.int (2 : Int32)), (.int v651), (.int (rr_871 + rr_875))]) (rest := []) (lenOf pd_3 rfl) rfl (by show 2 * 0 + _ ≤ _; exact Nat.le_of_eq rfl) (hb hby at_362) (fun _ _ => ⟨rfl, e874, (by decide : 6 + 0 ≤ _), (by decide : 22 + 0 ≤ _)⟩)
        dsimp only [Pt.U, Pt.locs, Pt.cells, Pt.slots] at X880 l880 y880 z880 st880 hQ880
        subst l880 y880 z880
        obtain ⟨rr_882, rfl, N880q, f883, f884, f885, e880⟩ := hQ880
        have N880 := Fr.app N874 N880q
        refine Go.st st880 ?_
        show Go p e below s Q 7 28 (T880.setTop (mkF m 365 #[.val (.int xa), .val (.int xb), .val (.int c0), .val (.int c1), .val (.int c2), .val (.int c3), .val (.int (3 : Int32)), .val (.int v624), .val (.int v633), .val (.int v642), .val (.int v651), .val (.int v660), .val (.ref b663), .val (.ref res_758)] [(.int rr_882)]))
        have f886 := rng32 rr_882
        have hone2 : rr_882.toInt = 1 := by
          rcases (by omega : v651.toInt = 0 ∨ v651.toInt = 1 ∨ v651.toInt = 2) with q1 | q1 | q1
          · exact placed_ok (i := 2) f768 f771 (by omega) (by rw [hk2 (by omega)]; exact q1) (by rw [← q1]; exact hra2) (by decide) (f883 q1)
          · exact placed_ok (i := 2) f769 f772 (by omega) (by rw [hk2 (by omega)]; exact q1) (by rw [← q1]; exact hra2) (by decide) (f884 q1)
          · exact placed_ok (i := 2) f770 f773 (by omega) (by rw [hk2 (by omega)]; exact q1) (by rw [← q1]; exact hra2) (by decide) (f885 q1)
        clear f883 f884 f885
        have c887 : ¬ (rr_882.toInt = 0) := by omega
        refine Go.st (fun _ k => XS.ifYes X880.here hx rfl (pc0 := 365) (pc' := 370) rfl (hb hby at_365) rfl ((if0 _ _).trans (feq (neI rfl liI_0 c887)).2) (by decide) (by decide) k) ?_
        show Go p e below s Q 7 28 (T880.setTop (mkF m 370 #[.val (.int xa), .val (.int xb), .val (.int c0), .val (.int c1), .val (.int c2), .val (.int c3), .val (.int (3 : Int32)), .val (.int v624), .val (.int v633), .val (.int v642), .val (.int v651), .val (.int v660), .val (.ref b663), .val (.ref res_758)] []))
        have f888 := rng32 xa
        have f889 := rng32 xb
        have f890 := rng32 c0
        have f891 := rng32 c1
        have f892 := rng32 c2
        have f893 := rng32 c3
        exact J868 T880 hg840 _ (up X880 (by decide) (by decide)) e880 N880 Kg840 hfg840_0 hfg840_1 hfg840_2 hfg840_3 hfg840_4 hfg840_5
      ·
        refine Go.st (fun _ k => XS.icmpYes Xg840.here hx rfl (pc0 := 339) (pc' := 370) rfl (hb hby at_339) rfl (flt (nltI liI_2 rfl c869)).2.2.2 (by decide) (by decide) k) ?_
        show Go p e below s Q 7 28 (Tg840.setTop (mkF m 370 #[.val (.int xa), .val (.int xb), .val (.int c0), .val (.int c1), .val (.int c2), .val (.int c3), .val (.int (3 : Int32)), .val (.int v624), .val (.int v633), .val (.int v642), .val (.int v651), .val (.int v660), .val (.ref b663), .val (.ref res_758)] []))
        have f894 := rng32 xa
        have f895 := rng32 xb
        have f896 := rng32 c0
        have f897 := rng32 c1
        have f898 := rng32 c2
        have f899 := rng32 c3
        exact J868 Tg840 hg840 _ (up Xg840 (by decide) (by decide)) eg840 Ng840 Kg840 hfg840_0 hfg840_1 hfg840_2 hfg840_3 hfg840_4 hfg840_5
    intro Tg867 hg867 Lgg867 Xg867 eg867 Ng867 Kg867 hfg867_0 hfg867_1 hfg867_2 hfg867_3 hfg867_4 hfg867_5
    suffices J901 : ∀ (Tg900 : State) (hg900 : Heap) (Lgg900 : List Loc) (Xg900 : Stand p l e room_1 s m #[(.int xa), (.int xb), (.int c0), (.int c1), (.int c2), (.int c3)] below meth c Tg900 Lgg900 6 22) (eg900 : Tg900.heap = hg900) (Ng900 : Fr n0 Lgg900) (Kg900 : Keep h0 hg900 []) (hfg900_0 : Exa Z hg900 b663 "[I") (hfg900_1 : Vec Z hg900 b663 .int v624 (ints KK)) (hfg900_2 : RV Z hg900 res_758 (3 : Int32) [(.ref w0_759), (.ref w1_762), (.ref w2_765)]) (hfg900_3 : Vec Z hg900 w0_759 .int l0_760 (ints g0_761)) (hfg900_4 : Vec Z hg900 w1_762 .int l1_763 (ints g1_764)) (hfg900_5 : Vec Z hg900 w2_765 .int l2_766 (ints g2_767)), Go p e below s Q 7 28 (Tg900.setTop (mkF m 412 #[.val (.int xa), .val (.int xb), .val (.int c0), .val (.int c1), .val (.int c2), .val (.int c3), .val (.int (3 : Int32)), .val (.int v624), .val (.int v633), .val (.int v642), .val (.int v651), .val (.int v660), .val (.ref b663), .val (.ref res_758)] [])) by
      refine Go.st (fun _ k => XS.iload Xg867.here hx rfl (hb hby at_370) rfl k) ?_
      refine Go.st (fun _ k => XS.iconst Xg867.here hx rfl (hb hby at_372) k) ?_
      by_cases c902 : 3 < v624.toInt
      ·
        refine Go.st (fun _ k => XS.icmpNo Xg867.here hx rfl (hb hby at_373) rfl (tlt (ltI liI_3 rfl c902)).2.2.2 k) ?_
        refine Go.st (fun _ k => XS.aload Xg867.here hx rfl (hb hby at_376) rfl rfl k) ?_
        refine Go.st (fun _ k => XS.iconst Xg867.here hx rfl (hb hby at_378) k) ?_
        refine Go.st (fun _ k => XS.iload Xg867.here hx rfl (hb hby at_379) rfl k) ?_
        show Go p e below s Q 7 28 (Tg867.setTop (mkF m 381 #[.val (.int xa), .val (.int xb), .val (.int c0), .val (.int c1), .val (.int c2), .val (.int c3), .val (.int (3 : Int32)), .val (.int v624), .val (.int v633), .val (.int v642), .val (.int v651), .val (.int v660), .val (.ref b663), .val (.ref res_758)] [(.int v660), (.int (3 : Int32)), (.ref res_758)]))
        refine Go.st (fun _ k => XS.iload Xg867.here hx rfl (hb hby at_381) rfl k) ?_
        refine Go.st (fun _ k => XS.iload Xg867.here hx rfl (hb hby at_383) rfl k) ?_
        obtain ⟨_, _, ⟨T903, L903, k903, n903⟩, -, X903, ⟨Lc903, hQ903, l903, y903, z903⟩, st903⟩ := Jvm.LawKit.callS Xg867 hx (y := (⟨"com/example/rackwise/rackwise/RackCostsClientsOfRacksPinLaw", "same", "(II)I"⟩ : MethodName)) hown (mvT hZ (hw _ (List.mem_of_getElem? (i := 19) rfl))) (mvT hZ (hw _ (List.mem_of_getElem? (i := 20) rfl))) (mvT hZ (hw _ (List.mem_of_getElem? (i := 11) rfl))) (mvT hZ (hw _ (List.mem_of_getElem? (i := 21) rfl))) (by decide) (backOf (W := 3) (rm5 l Z a0 hw [] v633 v660 hg867 n0 (Nat.le_trans Z0 Kg867.1) ) hZ (hw _ (List.mem_of_getElem? (i := 21) rfl)) (hw _ (List.mem_of_getElem? (i := 11) rfl)) (by decide) (by decide)) (g := (mkF m 385 #[.val (.int xa), .val (.int xb), .val (.int c0), .val (.int c1), .val (.int c2), .val (.int c3), .val (.int (3 : Int32)), .val (.int v624), .val (.int v633), .val (.int v642), .val (.int v651), .val (.int v660), .val (.ref b663), .val (.ref res_758)] [(.int v660), (.int v633), (.int v660), (.int (3 : Int32)), (.ref res_758)])) rfl (by rw [hml]; rfl) (argsL := [(.int v633), (.int v660)]) (rest := [(.int v660), (.int (3 : Int32)), (.ref res_758)]) (lenOf pd_4 rfl) rfl (by show 2 * 0 + _ ≤ _; exact Nat.le_of_eq rfl) (hb hby at_385) (fun _ _ => ⟨rfl, eg867, (by decide : 6 + 0 ≤ _), (by decide : 22 + 0 ≤ _)⟩)
        dsimp only [Pt.U, Pt.locs, Pt.cells, Pt.slots] at X903 l903 y903 z903 st903 hQ903
        subst l903 y903 z903
        obtain ⟨rr_904, rfl, N903q, f905, e903⟩ := hQ903
        have N903 := Fr.app Ng867 N903q
        refine Go.st st903 ?_
        show Go p e below s Q 7 28 (T903.setTop (mkF m 388 #[.val (.int xa), .val (.int xb), .val (.int c0), .val (.int c1), .val (.int c2), .val (.int c3), .val (.int (3 : Int32)), .val (.int v624), .val (.int v633), .val (.int v642), .val (.int v651), .val (.int v660), .val (.ref b663), .val (.ref res_758)] [(.int rr_904), (.int v660), (.int (3 : Int32)), (.ref res_758)]))
        have f906 := rng32 rr_904
        refine Go.st (fun _ k => XS.iload X903.here hx rfl (hb hby at_388) rfl k) ?_
        refine Go.st (fun _ k => XS.iload X903.here hx rfl (hb hby at_390) rfl k) ?_
        obtain ⟨_, _, ⟨T907, L907, k907, n907⟩, -, X907, ⟨Lc907, hQ907, l907, y907, z907⟩, st907⟩ := Jvm.LawKit.callS X903 hx (y := (⟨"com/example/rackwise/rackwise/RackCostsClientsOfRacksPinLaw", "same", "(II)I"⟩ : MethodName)) hown (mvT hZ (hw _ (List.mem_of_getElem? (i := 19) rfl))) (mvT hZ (hw _ (List.mem_of_getElem? (i := 20) rfl))) (mvT hZ (hw _ (List.mem_of_getElem? (i := 11) rfl))) (mvT hZ (hw _ (List.mem_of_getElem? (i := 21) rfl))) (by decide) (backOf (W := 4) (rm5 l Z a0 hw [] v642 v660 hg867 n0 (Nat.le_trans Z0 Kg867.1) ) hZ (hw _ (List.mem_of_getElem? (i := 21) rfl)) (hw _ (List.mem_of_getElem? (i := 11) rfl)) (by decide) (by decide)) (g := (mkF m 392 #[.val (.int xa), .val (.int xb), .val (.int c0), .val (.int c1), .val (.int c2), .val (.int c3), .val (.int (3 : Int32)), .val (.int v624), .val (.int v633), .val (.int v642), .val (.int v651), .val (.int v660), .val (.ref b663), .val (.ref res_758)] [(.int v660), (.int v642), (.int rr_904), (.int v660), (.int (3 : Int32)), (.ref res_758)])) rfl (by rw [hml]; rfl) (argsL := [(.int v642), (.int v660)]) (rest := [(.int rr_904), (.int v660), (.int (3 : Int32)), (.ref res_758)]) (lenOf pd_4 rfl) rfl (by show 2 * 0 + _ ≤ _; exact Nat.le_of_eq rfl) (hb hby at_392) (fun _ _ => ⟨rfl, e903, (by decide : 6 + 0 ≤ _), (by decide : 22 + 0 ≤ _)⟩)
        dsimp only [Pt.U, Pt.locs, Pt.cells, Pt.slots] at X907 l907 y907 z907 st907 hQ907
        subst l907 y907 z907
        obtain ⟨rr_908, rfl, N907q, f909, e907⟩ := hQ907
        have N907 := Fr.app N903 N907q
        refine Go.st st907 ?_
        show Go p e below s Q 7 28 (T907.setTop (mkF m 395 #[.val (.int xa), .val (.int xb), .val (.int c0), .val (.int c1), .val (.int c2), .val (.int c3), .val (.int (3 : Int32)), .val (.int v624), .val (.int v633), .val (.int v642), .val (.int v651), .val (.int v660), .val (.ref b663), .val (.ref res_758)] [(.int rr_908), (.int rr_904), (.int v660), (.int (3 : Int32)), (.ref res_758)]))
        have f910 := rng32 rr_908
        refine Go.st (fun _ k => XS.iadd X907.here hx rfl (hb hby at_395) rfl k) ?_
        refine Go.st (fun _ k => XS.iload X907.here hx rfl (hb hby at_396) rfl k) ?_
        refine Go.st (fun _ k => XS.iload X907.here hx rfl (hb hby at_398) rfl k) ?_
        obtain ⟨_, _, ⟨T911, L911, k911, n911⟩, -, X911, ⟨Lc911, hQ911, l911, y911, z911⟩, st911⟩ := Jvm.LawKit.callS X907 hx (y := (⟨"com/example/rackwise/rackwise/RackCostsClientsOfRacksPinLaw", "same", "(II)I"⟩ : MethodName)) hown (mvT hZ (hw _ (List.mem_of_getElem? (i := 19) rfl))) (mvT hZ (hw _ (List.mem_of_getElem? (i := 20) rfl))) (mvT hZ (hw _ (List.mem_of_getElem? (i := 11) rfl))) (mvT hZ (hw _ (List.mem_of_getElem? (i := 21) rfl))) (by decide) (backOf (W := 4) (rm5 l Z a0 hw [] v651 v660 hg867 n0 (Nat.le_trans Z0 Kg867.1) ) hZ (hw _ (List.mem_of_getElem? (i := 21) rfl)) (hw _ (List.mem_of_getElem? (i := 11) rfl)) (by decide) (by decide)) (g := (mkF m 400 #[.val (.int xa), .val (.int xb), .val (.int c0), .val (.int c1), .val (.int c2), .val (.int c3), .val (.int (3 : Int32)), .val (.int v624), .val (.int v633), .val (.int v642), .val (.int v651), .val (.int v660), .val (.ref b663), .val (.ref res_758)] [(.int v660), (.int v651), (.int (rr_904 + rr_908)), (.int v660), (.int (3 : Int32)), (.ref res_758)])) rfl (by rw [hml]; rfl) (argsL := [(.int v651), (.int v660)]) (rest := [(.int (rr_904 + rr_908)), (.int v660), (.int (3 : Int32)), (.ref res_758)]) (lenOf pd_4 rfl) rfl (by show 2 * 0 + _ ≤ _; exact Nat.le_of_eq rfl) (hb hby at_400) (fun _ _ => ⟨rfl, e907, (by decide : 6 + 0 ≤ _), (by decide : 22 + 0 ≤ _)⟩)
        dsimp only [Pt.U, Pt.locs, Pt.cells, Pt.slots] at X911 l911 y911 z911 st911 hQ911
        subst l911 y911 z911
        obtain ⟨rr_912, rfl, N911q, f913, e911⟩ := hQ911
        have N911 := Fr.app N907 N911q
        refine Go.st st911 ?_
        show Go p e below s Q 7 28 (T911.setTop (mkF m 403 #[.val (.int xa), .val (.int xb), .val (.int c0), .val (.int c1), .val (.int c2), .val (.int c3), .val (.int (3 : Int32)), .val (.int v624), .val (.int v633), .val (.int v642), .val (.int v651), .val (.int v660), .val (.ref b663), .val (.ref res_758)] [(.int rr_912), (.int (rr_904 + rr_908)), (.int v660), (.int (3 : Int32)), (.ref res_758)]))
        have f914 := rng32 rr_912
        refine Go.st (fun _ k => XS.iadd X911.here hx rfl (hb hby at_403) rfl k) ?_
        show Go p e below s Q 7 28 (T911.setTop (mkF m 404 #[.val (.int xa), .val (.int xb), .val (.int c0), .val (.int c1), .val (.int c2), .val (.int c3), .val (.int (3 : Int32)), .val (.int v624), .val (.int v633), .val (.int v642), .val (.int v651), .val (.int v660), .val (.ref b663), .val (.ref res_758)] [(.int ((rr_904 + rr_908) + rr_912)), (.int v660), (.int (3 : Int32)), (.ref res_758)]))
        have f915 := c_iadd rr_904 rr_908
        have f916 := rng32 (rr_904 + rr_908)
        have f917 := c_iadd (rr_904 + rr_908) rr_912
        have f918 := rng32 ((rr_904 + rr_908) + rr_912)
        have hra3 : ((rr_904 + rr_908) + rr_912).toInt = cnt KK 3 v660.toInt := by
          have i0 := ind_c (KK 0).toInt v660.toInt
          have j0 := hk0 (by omega)
          have i1 := ind_c (KK 1).toInt v660.toInt
          have j1 := hk1 (by omega)
          have i2 := ind_c (KK 2).toInt v660.toInt
          have j2 := hk2 (by omega)
          have e0 : cnt KK 0 v660.toInt = 0 := rfl
          have e1 : cnt KK 1 v660.toInt = cnt KK 0 v660.toInt + ind (KK 0).toInt v660.toInt := rfl
          have e2 : cnt KK 2 v660.toInt = cnt KK 1 v660.toInt + ind (KK 1).toInt v660.toInt := rfl
          have e3 : cnt KK 3 v660.toInt = cnt KK 2 v660.toInt + ind (KK 2).toInt v660.toInt := rfl
          omega
        have hrb3 := cnt_rng KK 3 v660.toInt
        have p920 : 0 ≤ v660.toInt ∧ v660.toInt < 3 ∧ 0 ≤ ((rr_904 + rr_908) + rr_912).toInt := by omega
        obtain ⟨_, _, ⟨T919, L919, k919, n919⟩, -, X919, ⟨Lc919, hQ919, l919, y919, z919⟩, st919⟩ := Jvm.LawKit.callS X911 hx (y := (⟨"com/example/rackwise/rackwise/RackCostsClientsOfRacksPinLaw", "placed", "([[IIII)Z"⟩ : MethodName)) hown (mvT hZ (hw _ (List.mem_of_getElem? (i := 16) rfl))) (mvT hZ (hw _ (List.mem_of_getElem? (i := 17) rfl))) (mvT hZ (hw _ (List.mem_of_getElem? (i := 11) rfl))) (mvT hZ (hw _ (List.mem_of_getElem? (i := 18) rfl))) (by decide) (backOf (W := 0) (rmp3 l Z a0 hw [] res_758 (3 : Int32) v660 ((rr_904 + rr_908) + rr_912) w0_759 l0_760 g0_761 w1_762 l1_763 g1_764 w2_765 l2_766 g2_767 hg867 n0 (Nat.le_trans Z0 Kg867.1) hfg867_2 hfg867_3 hfg867_4 hfg867_5 p920) hZ (hw _ (List.mem_of_getElem? (i := 18) rfl)) (hw _ (List.mem_of_getElem? (i := 11) rfl)) (by decide) (by decide)) (g := (mkF m 404 #[.val (.int xa), .val (.int xb), .val (.int c0), .val (.int c1), .val (.int c2), .val (.int c3), .val (.int (3 : Int32)), .val (.int v624), .val (.int v633), .val (.int v642), .val (.int v651), .val (.int v660), .val (.ref b663), .val (.ref res_758)] [(.int ((rr_904 + rr_908) + rr_912)), (.int v660), (.int (3 : Int32)), (.ref res_758)])) rfl (by rw [hml]; rfl) (argsL := [(.ref res_758), (.int (3 : Int32)), (.int v660), (.int ((rr_904 + rr_908) + rr_912))]) (rest := []) (lenOf pd_3 rfl) rfl (by show 2 * 0 + _ ≤ _; exact Nat.le_of_eq rfl) (hb hby at_404) (fun _ _ => ⟨rfl, e911, (by decide : 6 + 0 ≤ _), (by decide : 22 + 0 ≤ _)⟩)
        dsimp only [Pt.U, Pt.locs, Pt.cells, Pt.slots] at X919 l919 y919 z919 st919 hQ919
        subst l919 y919 z919
        obtain ⟨rr_921, rfl, N919q, f922, f923, f924, e919⟩ := hQ919
        have N919 := Fr.app N911 N919q
        refine Go.st st919 ?_
        show Go p e below s Q 7 28 (T919.setTop (mkF m 407 #[.val (.int xa), .val (.int xb), .val (.int c0), .val (.int c1), .val (.int c2), .val (.int c3), .val (.int (3 : Int32)), .val (.int v624), .val (.int v633), .val (.int v642), .val (.int v651), .val (.int v660), .val (.ref b663), .val (.ref res_758)] [(.int rr_921)]))
        have f925 := rng32 rr_921
        have hone3 : rr_921.toInt = 1 := by
          rcases (by omega : v660.toInt = 0 ∨ v660.toInt = 1 ∨ v660.toInt = 2) with q1 | q1 | q1
          · exact placed_ok (i := 3) f768 f771 (by omega) (by rw [hk3 (by omega)]; exact q1) (by rw [← q1]; exact hra3) (by decide) (f922 q1)
          · exact placed_ok (i := 3) f769 f772 (by omega) (by rw [hk3 (by omega)]; exact q1) (by rw [← q1]; exact hra3) (by decide) (f923 q1)
          · exact placed_ok (i := 3) f770 f773 (by omega) (by rw [hk3 (by omega)]; exact q1) (by rw [← q1]; exact hra3) (by decide) (f924 q1)
        clear f922 f923 f924
        have c926 : ¬ (rr_921.toInt = 0) := by omega
        refine Go.st (fun _ k => XS.ifYes X919.here hx rfl (pc0 := 407) (pc' := 412) rfl (hb hby at_407) rfl ((if0 _ _).trans (feq (neI rfl liI_0 c926)).2) (by decide) (by decide) k) ?_
        show Go p e below s Q 7 28 (T919.setTop (mkF m 412 #[.val (.int xa), .val (.int xb), .val (.int c0), .val (.int c1), .val (.int c2), .val (.int c3), .val (.int (3 : Int32)), .val (.int v624), .val (.int v633), .val (.int v642), .val (.int v651), .val (.int v660), .val (.ref b663), .val (.ref res_758)] []))
        have f927 := rng32 xa
        have f928 := rng32 xb
        have f929 := rng32 c0
        have f930 := rng32 c1
        have f931 := rng32 c2
        have f932 := rng32 c3
        exact J901 T919 hg867 _ (up X919 (by decide) (by decide)) e919 N919 Kg867 hfg867_0 hfg867_1 hfg867_2 hfg867_3 hfg867_4 hfg867_5
      ·
        refine Go.st (fun _ k => XS.icmpYes Xg867.here hx rfl (pc0 := 373) (pc' := 412) rfl (hb hby at_373) rfl (flt (nltI liI_3 rfl c902)).2.2.2 (by decide) (by decide) k) ?_
        show Go p e below s Q 7 28 (Tg867.setTop (mkF m 412 #[.val (.int xa), .val (.int xb), .val (.int c0), .val (.int c1), .val (.int c2), .val (.int c3), .val (.int (3 : Int32)), .val (.int v624), .val (.int v633), .val (.int v642), .val (.int v651), .val (.int v660), .val (.ref b663), .val (.ref res_758)] []))
        have f933 := rng32 xa
        have f934 := rng32 xb
        have f935 := rng32 c0
        have f936 := rng32 c1
        have f937 := rng32 c2
        have f938 := rng32 c3
        exact J901 Tg867 hg867 _ (up Xg867 (by decide) (by decide)) eg867 Ng867 Kg867 hfg867_0 hfg867_1 hfg867_2 hfg867_3 hfg867_4 hfg867_5
    intro Tg900 hg900 Lgg900 Xg900 eg900 Ng900 Kg900 hfg900_0 hfg900_1 hfg900_2 hfg900_3 hfg900_4 hfg900_5
    refine Go.st (fun _ k => XS.iconst Xg900.here hx rfl (hb hby at_412) k) ?_
    show Go p e below s Q 7 28 (Tg900.setTop (mkF m 413 #[.val (.int xa), .val (.int xb), .val (.int c0), .val (.int c1), .val (.int c2), .val (.int c3), .val (.int (3 : Int32)), .val (.int v624), .val (.int v633), .val (.int v642), .val (.int v651), .val (.int v660), .val (.ref b663), .val (.ref res_758)] [(.int (1 : Int32))]))
    exact Go.retN Xg900 hx hlk (by simp) Bd.returns (hb hby at_413) (z' := (1 : Int32)) (by decide) (by rw [← hQ, eg900]; exact ⟨rfl, Ng900, Kg900⟩) (by decide) (by decide)
  ·
    have cs18' : v12 = (4 : Int32) := eqI cs18 liI_4 rfl
    subst cs18'
    have f939 := liI_4
    show Go p e below s Q 7 28 (s₁.setTop (mkF m 8 #[.val (.int xa), .val (.int xb), .val (.int c0), .val (.int c1), .val (.int c2), .val (.int c3), .val (.int (4 : Int32)), .unset, .unset, .unset, .unset, .unset, .unset, .unset] []))
    clear f1 f2 f3 f4 f5 f6 f7 f8 f9 f10 f11 f939
    refine Go.st (fun _ k => XS.iload X0.here hx rfl (hb hby at_8) rfl k) ?_
    refine Go.st (fun _ k => XS.ifYes X0.here hx rfl (pc0 := 10) (pc' := 17) rfl (hb hby at_10) rfl ((if0 _ _).trans (feq (neI liI_4 liI_0 (by decide))).2) (by decide) (by decide) k) ?_
    refine Go.st (fun _ k => XS.iloadN X0.here hx rfl (hb hby at_17) rfl k) ?_
    refine Go.st (X0.ldcInt hx hown (mvT hZ (hw _ (List.mem_of_getElem? (i := 0) rfl))) (g := (mkF m 18 #[.val (.int xa), .val (.int xb), .val (.int c0), .val (.int c1), .val (.int c2), .val (.int c3), .val (.int (4 : Int32)), .unset, .unset, .unset, .unset, .unset, .unset, .unset] [(.int xa)])) rfl (hb hby at_18)) ?_
    show Go p e below s Q 7 28 (s₁.setTop (mkF m 20 #[.val (.int xa), .val (.int xb), .val (.int c0), .val (.int c1), .val (.int c2), .val (.int c3), .val (.int (4 : Int32)), .unset, .unset, .unset, .unset, .unset, .unset, .unset] [(.int (2147483647 : Int32)), (.int xa)]))
    refine Go.st (fun _ k => XS.iand X0.here hx rfl (hb hby at_20) rfl k) ?_
    refine Go.st (fun _ k => XS.iconst X0.here hx rfl (hb hby at_21) k) ?_
    refine Go.st (fun _ k => iremM X0 hx rfl (hb hby at_22) rfl (by decide) k) ?_
    refine Go.st (fun _ k => XS.istore X0.here hx rfl (hb hby at_23) rfl (l' := #[.val (.int xa), .val (.int xb), .val (.int c0), .val (.int c1), .val (.int c2), .val (.int c3), .val (.int (4 : Int32)), .val (.int ((xa &&& (2147483647 : Int32)) % (5 : Int32))), .unset, .unset, .unset, .unset, .unset, .unset]) rfl k) ?_
    show Go p e below s Q 7 28 (s₁.setTop (mkF m 25 #[.val (.int xa), .val (.int xb), .val (.int c0), .val (.int c1), .val (.int c2), .val (.int c3), .val (.int (4 : Int32)), .val (.int ((xa &&& (2147483647 : Int32)) % (5 : Int32))), .unset, .unset, .unset, .unset, .unset, .unset] []))
    have f940 := rng32 xa
    have f941 := liI_2147483647
    have f942 : (xa &&& (2147483647 : Int32)).toInt = xa.toInt % 2147483648 := c_mask xa (2147483647 : Int32) 31 (by decide) (by decide)
    have f943 := liI_5
    have f944 := c_irem (xa &&& (2147483647 : Int32)) (5 : Int32) 5 (by decide)
    have f945 := rng32 ((xa &&& (2147483647 : Int32)) % (5 : Int32))
    generalize hv_v946 : ((xa &&& (2147483647 : Int32)) % (5 : Int32)) = v946 at f944 f945 ⊢
    have f947 : 0 ≤ v946.toInt ∧ v946.toInt < 5 := by omega
    clear f940 f941 f942 f943 f944 f945
    have f948 := rng32 v946
    refine Go.st (fun _ k => XS.iload X0.here hx rfl (hb hby at_25) rfl k) ?_
    refine Go.st (fun _ k => XS.ifYes X0.here hx rfl (pc0 := 27) (pc' := 34) rfl (hb hby at_27) rfl ((if0 _ _).trans (feq (neI liI_4 liI_0 (by decide))).2) (by decide) (by decide) k) ?_
    refine Go.st (fun _ k => XS.iloadN X0.here hx rfl (hb hby at_34) rfl k) ?_
    refine Go.st (X0.ldcInt hx hown (mvT hZ (hw _ (List.mem_of_getElem? (i := 0) rfl))) (g := (mkF m 35 #[.val (.int xa), .val (.int xb), .val (.int c0), .val (.int c1), .val (.int c2), .val (.int c3), .val (.int (4 : Int32)), .val (.int v946), .unset, .unset, .unset, .unset, .unset, .unset] [(.int c0)])) rfl (hb hby at_35)) ?_
    show Go p e below s Q 7 28 (s₁.setTop (mkF m 37 #[.val (.int xa), .val (.int xb), .val (.int c0), .val (.int c1), .val (.int c2), .val (.int c3), .val (.int (4 : Int32)), .val (.int v946), .unset, .unset, .unset, .unset, .unset, .unset] [(.int (2147483647 : Int32)), (.int c0)]))
    refine Go.st (fun _ k => XS.iand X0.here hx rfl (hb hby at_37) rfl k) ?_
    refine Go.st (fun _ k => XS.iload X0.here hx rfl (hb hby at_38) rfl k) ?_
    refine Go.st (fun _ k => iremM X0 hx rfl (hb hby at_40) rfl (by decide) k) ?_
    refine Go.st (fun _ k => XS.istore X0.here hx rfl (hb hby at_41) rfl (l' := #[.val (.int xa), .val (.int xb), .val (.int c0), .val (.int c1), .val (.int c2), .val (.int c3), .val (.int (4 : Int32)), .val (.int v946), .val (.int ((c0 &&& (2147483647 : Int32)) % (4 : Int32))), .unset, .unset, .unset, .unset, .unset]) rfl k) ?_
    show Go p e below s Q 7 28 (s₁.setTop (mkF m 43 #[.val (.int xa), .val (.int xb), .val (.int c0), .val (.int c1), .val (.int c2), .val (.int c3), .val (.int (4 : Int32)), .val (.int v946), .val (.int ((c0 &&& (2147483647 : Int32)) % (4 : Int32))), .unset, .unset, .unset, .unset, .unset] []))
    have f949 := rng32 c0
    have f950 := liI_2147483647
    have f951 : (c0 &&& (2147483647 : Int32)).toInt = c0.toInt % 2147483648 := c_mask c0 (2147483647 : Int32) 31 (by decide) (by decide)
    have f952 := liI_4
    have f953 := c_irem (c0 &&& (2147483647 : Int32)) (4 : Int32) 4 (by decide)
    have f954 := rng32 ((c0 &&& (2147483647 : Int32)) % (4 : Int32))
    generalize hv_v955 : ((c0 &&& (2147483647 : Int32)) % (4 : Int32)) = v955 at f953 f954 ⊢
    have f956 : 0 ≤ v955.toInt ∧ v955.toInt < 4 := by omega
    clear f948 f949 f950 f951 f952 f953 f954
    have f957 := rng32 v955
    refine Go.st (fun _ k => XS.iload X0.here hx rfl (hb hby at_43) rfl k) ?_
    refine Go.st (fun _ k => XS.ifYes X0.here hx rfl (pc0 := 45) (pc' := 52) rfl (hb hby at_45) rfl ((if0 _ _).trans (feq (neI liI_4 liI_0 (by decide))).2) (by decide) (by decide) k) ?_
    refine Go.st (fun _ k => XS.iloadN X0.here hx rfl (hb hby at_52) rfl k) ?_
    refine Go.st (X0.ldcInt hx hown (mvT hZ (hw _ (List.mem_of_getElem? (i := 0) rfl))) (g := (mkF m 53 #[.val (.int xa), .val (.int xb), .val (.int c0), .val (.int c1), .val (.int c2), .val (.int c3), .val (.int (4 : Int32)), .val (.int v946), .val (.int v955), .unset, .unset, .unset, .unset, .unset] [(.int c1)])) rfl (hb hby at_53)) ?_
    show Go p e below s Q 7 28 (s₁.setTop (mkF m 55 #[.val (.int xa), .val (.int xb), .val (.int c0), .val (.int c1), .val (.int c2), .val (.int c3), .val (.int (4 : Int32)), .val (.int v946), .val (.int v955), .unset, .unset, .unset, .unset, .unset] [(.int (2147483647 : Int32)), (.int c1)]))
    refine Go.st (fun _ k => XS.iand X0.here hx rfl (hb hby at_55) rfl k) ?_
    refine Go.st (fun _ k => XS.iload X0.here hx rfl (hb hby at_56) rfl k) ?_
    refine Go.st (fun _ k => iremM X0 hx rfl (hb hby at_58) rfl (by decide) k) ?_
    refine Go.st (fun _ k => XS.istore X0.here hx rfl (hb hby at_59) rfl (l' := #[.val (.int xa), .val (.int xb), .val (.int c0), .val (.int c1), .val (.int c2), .val (.int c3), .val (.int (4 : Int32)), .val (.int v946), .val (.int v955), .val (.int ((c1 &&& (2147483647 : Int32)) % (4 : Int32))), .unset, .unset, .unset, .unset]) rfl k) ?_
    show Go p e below s Q 7 28 (s₁.setTop (mkF m 61 #[.val (.int xa), .val (.int xb), .val (.int c0), .val (.int c1), .val (.int c2), .val (.int c3), .val (.int (4 : Int32)), .val (.int v946), .val (.int v955), .val (.int ((c1 &&& (2147483647 : Int32)) % (4 : Int32))), .unset, .unset, .unset, .unset] []))
    have f958 := rng32 c1
    have f959 := liI_2147483647
    have f960 : (c1 &&& (2147483647 : Int32)).toInt = c1.toInt % 2147483648 := c_mask c1 (2147483647 : Int32) 31 (by decide) (by decide)
    have f961 := liI_4
    have f962 := c_irem (c1 &&& (2147483647 : Int32)) (4 : Int32) 4 (by decide)
    have f963 := rng32 ((c1 &&& (2147483647 : Int32)) % (4 : Int32))
    generalize hv_v964 : ((c1 &&& (2147483647 : Int32)) % (4 : Int32)) = v964 at f962 f963 ⊢
    have f965 : 0 ≤ v964.toInt ∧ v964.toInt < 4 := by omega
    clear f957 f958 f959 f960 f961 f962 f963
    have f966 := rng32 v964
    refine Go.st (fun _ k => XS.iload X0.here hx rfl (hb hby at_61) rfl k) ?_
    refine Go.st (fun _ k => XS.ifYes X0.here hx rfl (pc0 := 63) (pc' := 70) rfl (hb hby at_63) rfl ((if0 _ _).trans (feq (neI liI_4 liI_0 (by decide))).2) (by decide) (by decide) k) ?_
    refine Go.st (fun _ k => XS.iload X0.here hx rfl (hb hby at_70) rfl k) ?_
    refine Go.st (X0.ldcInt hx hown (mvT hZ (hw _ (List.mem_of_getElem? (i := 0) rfl))) (g := (mkF m 72 #[.val (.int xa), .val (.int xb), .val (.int c0), .val (.int c1), .val (.int c2), .val (.int c3), .val (.int (4 : Int32)), .val (.int v946), .val (.int v955), .val (.int v964), .unset, .unset, .unset, .unset] [(.int c2)])) rfl (hb hby at_72)) ?_
    show Go p e below s Q 7 28 (s₁.setTop (mkF m 74 #[.val (.int xa), .val (.int xb), .val (.int c0), .val (.int c1), .val (.int c2), .val (.int c3), .val (.int (4 : Int32)), .val (.int v946), .val (.int v955), .val (.int v964), .unset, .unset, .unset, .unset] [(.int (2147483647 : Int32)), (.int c2)]))
    refine Go.st (fun _ k => XS.iand X0.here hx rfl (hb hby at_74) rfl k) ?_
    refine Go.st (fun _ k => XS.iload X0.here hx rfl (hb hby at_75) rfl k) ?_
    refine Go.st (fun _ k => iremM X0 hx rfl (hb hby at_77) rfl (by decide) k) ?_
    refine Go.st (fun _ k => XS.istore X0.here hx rfl (hb hby at_78) rfl (l' := #[.val (.int xa), .val (.int xb), .val (.int c0), .val (.int c1), .val (.int c2), .val (.int c3), .val (.int (4 : Int32)), .val (.int v946), .val (.int v955), .val (.int v964), .val (.int ((c2 &&& (2147483647 : Int32)) % (4 : Int32))), .unset, .unset, .unset]) rfl k) ?_
    show Go p e below s Q 7 28 (s₁.setTop (mkF m 80 #[.val (.int xa), .val (.int xb), .val (.int c0), .val (.int c1), .val (.int c2), .val (.int c3), .val (.int (4 : Int32)), .val (.int v946), .val (.int v955), .val (.int v964), .val (.int ((c2 &&& (2147483647 : Int32)) % (4 : Int32))), .unset, .unset, .unset] []))
    have f967 := rng32 c2
    have f968 := liI_2147483647
    have f969 : (c2 &&& (2147483647 : Int32)).toInt = c2.toInt % 2147483648 := c_mask c2 (2147483647 : Int32) 31 (by decide) (by decide)
    have f970 := liI_4
    have f971 := c_irem (c2 &&& (2147483647 : Int32)) (4 : Int32) 4 (by decide)
    have f972 := rng32 ((c2 &&& (2147483647 : Int32)) % (4 : Int32))
    generalize hv_v973 : ((c2 &&& (2147483647 : Int32)) % (4 : Int32)) = v973 at f971 f972 ⊢
    have f974 : 0 ≤ v973.toInt ∧ v973.toInt < 4 := by omega
    clear f966 f967 f968 f969 f970 f971 f972
    have f975 := rng32 v973
    refine Go.st (fun _ k => XS.iload X0.here hx rfl (hb hby at_80) rfl k) ?_
    refine Go.st (fun _ k => XS.ifYes X0.here hx rfl (pc0 := 82) (pc' := 89) rfl (hb hby at_82) rfl ((if0 _ _).trans (feq (neI liI_4 liI_0 (by decide))).2) (by decide) (by decide) k) ?_
    refine Go.st (fun _ k => XS.iload X0.here hx rfl (hb hby at_89) rfl k) ?_
    refine Go.st (X0.ldcInt hx hown (mvT hZ (hw _ (List.mem_of_getElem? (i := 0) rfl))) (g := (mkF m 91 #[.val (.int xa), .val (.int xb), .val (.int c0), .val (.int c1), .val (.int c2), .val (.int c3), .val (.int (4 : Int32)), .val (.int v946), .val (.int v955), .val (.int v964), .val (.int v973), .unset, .unset, .unset] [(.int c3)])) rfl (hb hby at_91)) ?_
    show Go p e below s Q 7 28 (s₁.setTop (mkF m 93 #[.val (.int xa), .val (.int xb), .val (.int c0), .val (.int c1), .val (.int c2), .val (.int c3), .val (.int (4 : Int32)), .val (.int v946), .val (.int v955), .val (.int v964), .val (.int v973), .unset, .unset, .unset] [(.int (2147483647 : Int32)), (.int c3)]))
    refine Go.st (fun _ k => XS.iand X0.here hx rfl (hb hby at_93) rfl k) ?_
    refine Go.st (fun _ k => XS.iload X0.here hx rfl (hb hby at_94) rfl k) ?_
    refine Go.st (fun _ k => iremM X0 hx rfl (hb hby at_96) rfl (by decide) k) ?_
    refine Go.st (fun _ k => XS.istore X0.here hx rfl (hb hby at_97) rfl (l' := #[.val (.int xa), .val (.int xb), .val (.int c0), .val (.int c1), .val (.int c2), .val (.int c3), .val (.int (4 : Int32)), .val (.int v946), .val (.int v955), .val (.int v964), .val (.int v973), .val (.int ((c3 &&& (2147483647 : Int32)) % (4 : Int32))), .unset, .unset]) rfl k) ?_
    show Go p e below s Q 7 28 (s₁.setTop (mkF m 99 #[.val (.int xa), .val (.int xb), .val (.int c0), .val (.int c1), .val (.int c2), .val (.int c3), .val (.int (4 : Int32)), .val (.int v946), .val (.int v955), .val (.int v964), .val (.int v973), .val (.int ((c3 &&& (2147483647 : Int32)) % (4 : Int32))), .unset, .unset] []))
    have f976 := rng32 c3
    have f977 := liI_2147483647
    have f978 : (c3 &&& (2147483647 : Int32)).toInt = c3.toInt % 2147483648 := c_mask c3 (2147483647 : Int32) 31 (by decide) (by decide)
    have f979 := liI_4
    have f980 := c_irem (c3 &&& (2147483647 : Int32)) (4 : Int32) 4 (by decide)
    have f981 := rng32 ((c3 &&& (2147483647 : Int32)) % (4 : Int32))
    generalize hv_v982 : ((c3 &&& (2147483647 : Int32)) % (4 : Int32)) = v982 at f980 f981 ⊢
    have f983 : 0 ≤ v982.toInt ∧ v982.toInt < 4 := by omega
    clear f975 f976 f977 f978 f979 f980 f981
    have f984 := rng32 v982
    refine Go.st (fun _ k => XS.iload X0.here hx rfl (hb hby at_99) rfl k) ?_
    have f986 := rng32 v946
    have r987 : 0 ≤ v946.toInt := by omega
    have r988 : v946.toNatClampNeg ≤ 4 := by rw [nat_cl]; omega
    obtain ⟨T985, h985, k985, X985, e985, E985, A985, B985, st985⟩ := newPE X0 hx hZ (hw _ (List.mem_of_getElem? (i := 1) rfl)) e0 (g := (mkF m 101 #[.val (.int xa), .val (.int xb), .val (.int c0), .val (.int c1), .val (.int c2), .val (.int c3), .val (.int (4 : Int32)), .val (.int v946), .val (.int v955), .val (.int v964), .val (.int v973), .val (.int v982), .unset, .unset] [(.int v946)])) rfl (hb hby at_101) rfl (not_neg r987) (cap := 4) r988 (by decide) (by decide) (by decide) (ad := "[I") (by decide)
    obtain ⟨b985, g985⟩ : ∃ z, z = h0.size := ⟨_, rfl⟩
    rw [← g985] at A985 B985 st985
    have Gb985 : Hid (n0 ≤ b985) := Nat.le_trans (Nat.le_trans Z0 K0.1) (Nat.le_of_eq g985.symm)
    have szb985 : Hid (h0.size ≤ b985) := Nat.le_trans K0.1 (Nat.le_of_eq g985.symm)
    have K985 : Keep h0 h985 [] := K0.ext E985
    have h989 : Vec Z h985 b985 .int v946 (ints (fun _ => (0 : Int32))) := Vec.new A985 r987
    refine Go.st st985 ?_
    show Go p e below s Q 7 28 (T985.setTop (mkF m 103 #[.val (.int xa), .val (.int xb), .val (.int c0), .val (.int c1), .val (.int c2), .val (.int c3), .val (.int (4 : Int32)), .val (.int v946), .val (.int v955), .val (.int v964), .val (.int v973), .val (.int v982), .unset, .unset] [(.ref b985)]))
    refine Go.st (fun _ k => XS.astore X985.here hx rfl (hb hby at_103) rfl rfl (l' := #[.val (.int xa), .val (.int xb), .val (.int c0), .val (.int c1), .val (.int c2), .val (.int c3), .val (.int (4 : Int32)), .val (.int v946), .val (.int v955), .val (.int v964), .val (.int v973), .val (.int v982), .val (.ref b985), .unset]) rfl k) ?_
    show Go p e below s Q 7 28 (T985.setTop (mkF m 105 #[.val (.int xa), .val (.int xb), .val (.int c0), .val (.int c1), .val (.int c2), .val (.int c3), .val (.int (4 : Int32)), .val (.int v946), .val (.int v955), .val (.int v964), .val (.int v973), .val (.int v982), .val (.ref b985), .unset] []))
    suffices J991 : ∀ (Tg990 : State) (hg990 : Heap) (Lgg990 : List Loc) (Xg990 : Stand p l e room_1 s m #[(.int xa), (.int xb), (.int c0), (.int c1), (.int c2), (.int c3)] below meth c Tg990 Lgg990 1 4) (eg990 : Tg990.heap = hg990) (Ng990 : Fr n0 Lgg990) (Kg990 : Keep h0 hg990 []) (KK : Nat → Int32) (hfg990_0 : Exa Z hg990 b985 "[I") (hfg990_1 : Vec Z hg990 b985 .int v946 (ints KK)) (hpg990_0 : 0 < v946.toInt → KK 0 = v955) (hpg990_1 : 1 < v946.toInt → KK 1 = v964) (hpg990_2 : 2 < v946.toInt → KK 2 = v973) (hpg990_3 : 3 < v946.toInt → KK 3 = v982) (hpg990_4 : n0 ≤ b985), Go p e below s Q 7 28 (Tg990.setTop (mkF m 152 #[.val (.int xa), .val (.int xb), .val (.int c0), .val (.int c1), .val (.int c2), .val (.int c3), .val (.int (4 : Int32)), .val (.int v946), .val (.int v955), .val (.int v964), .val (.int v973), .val (.int v982), .val (.ref b985), .unset] [])) by
      refine Go.st (fun _ k => XS.iload X985.here hx rfl (hb hby at_105) rfl k) ?_
      have f992 := liI_0
      by_cases c993 : 0 < v946.toInt
      ·
        refine Go.st (fun _ k => XS.ifNo X985.here hx rfl (hb hby at_107) rfl ((if0 _ _).trans (tlt (ltI liI_0 rfl c993)).2.2.2) k) ?_
        refine Go.st (fun _ k => XS.aload X985.here hx rfl (hb hby at_110) rfl rfl k) ?_
        refine Go.st (fun _ k => XS.iconst X985.here hx rfl (hb hby at_112) k) ?_
        refine Go.st (fun _ k => XS.iload X985.here hx rfl (hb hby at_113) rfl k) ?_
        have r995 : 0 ≤ (0 : Int32).toInt := by omega
        have r996 : (0 : Int32).toInt < v946.toInt := by omega
        obtain ⟨T994, h994, X994, e994, W994, V994, st994⟩ := Vec.istI X985 hx hZ e985 h989 (j := (0 : Int32)) r995 r996 (g := (mkF m 115 #[.val (.int xa), .val (.int xb), .val (.int c0), .val (.int c1), .val (.int c2), .val (.int c3), .val (.int (4 : Int32)), .val (.int v946), .val (.int v955), .val (.int v964), .val (.int v973), .val (.int v982), .val (.ref b985), .unset] [(.int v955), (.int (0 : Int32)), (.ref b985)])) rfl rfl (hb hby at_115)
        have h997 : Exa Z h994 b985 "[I" := B985.wr W994
        have h998 : Vec Z h994 b985 .int v946 (ints (updF (fun _ => (0 : Int32)) 0 v955)) := V994
        have K994 : Keep h0 h994 [] := K985.wr W994 (Or.inr szb985)
        have N994 := Fr.snoc X994 N0 Gb985
        refine Go.st st994 ?_
        show Go p e below s Q 7 28 (T994.setTop (mkF m 116 #[.val (.int xa), .val (.int xb), .val (.int c0), .val (.int c1), .val (.int c2), .val (.int c3), .val (.int (4 : Int32)), .val (.int v946), .val (.int v955), .val (.int v964), .val (.int v973), .val (.int v982), .val (.ref b985), .unset] []))
        refine Go.st (fun _ k => XS.iload X994.here hx rfl (hb hby at_116) rfl k) ?_
        refine Go.st (fun _ k => XS.iconst X994.here hx rfl (hb hby at_118) k) ?_
        have f999 := liI_1
        by_cases c1000 : 1 < v946.toInt
        ·
          refine Go.st (fun _ k => XS.icmpNo X994.here hx rfl (hb hby at_119) rfl (tlt (ltI liI_1 rfl c1000)).2.2.2 k) ?_
          refine Go.st (fun _ k => XS.aload X994.here hx rfl (hb hby at_122) rfl rfl k) ?_
          refine Go.st (fun _ k => XS.iconst X994.here hx rfl (hb hby at_124) k) ?_
          refine Go.st (fun _ k => XS.iload X994.here hx rfl (hb hby at_125) rfl k) ?_
          show Go p e below s Q 7 28 (T994.setTop (mkF m 127 #[.val (.int xa), .val (.int xb), .val (.int c0), .val (.int c1), .val (.int c2), .val (.int c3), .val (.int (4 : Int32)), .val (.int v946), .val (.int v955), .val (.int v964), .val (.int v973), .val (.int v982), .val (.ref b985), .unset] [(.int v964), (.int (1 : Int32)), (.ref b985)]))
          have r1002 : 0 ≤ (1 : Int32).toInt := by omega
          have r1003 : (1 : Int32).toInt < v946.toInt := by omega
          obtain ⟨T1001, h1001, X1001, e1001, W1001, V1001, st1001⟩ := Vec.istI X994 hx hZ e994 h998 (j := (1 : Int32)) r1002 r1003 (g := (mkF m 127 #[.val (.int xa), .val (.int xb), .val (.int c0), .val (.int c1), .val (.int c2), .val (.int c3), .val (.int (4 : Int32)), .val (.int v946), .val (.int v955), .val (.int v964), .val (.int v973), .val (.int v982), .val (.ref b985), .unset] [(.int v964), (.int (1 : Int32)), (.ref b985)])) rfl rfl (hb hby at_127)
          have h1004 : Exa Z h1001 b985 "[I" := h997.wr W1001
          have h1005 : Vec Z h1001 b985 .int v946 (ints (updF (updF (fun _ => (0 : Int32)) 0 v955) 1 v964)) := V1001
          have K1001 : Keep h0 h1001 [] := K994.wr W1001 (Or.inr szb985)
          have N1001 := Fr.snoc X1001 N994 Gb985
          refine Go.st st1001 ?_
          show Go p e below s Q 7 28 (T1001.setTop (mkF m 128 #[.val (.int xa), .val (.int xb), .val (.int c0), .val (.int c1), .val (.int c2), .val (.int c3), .val (.int (4 : Int32)), .val (.int v946), .val (.int v955), .val (.int v964), .val (.int v973), .val (.int v982), .val (.ref b985), .unset] []))
          refine Go.st (fun _ k => XS.iload X1001.here hx rfl (hb hby at_128) rfl k) ?_
          refine Go.st (fun _ k => XS.iconst X1001.here hx rfl (hb hby at_130) k) ?_
          have f1006 := liI_2
          by_cases c1007 : 2 < v946.toInt
          ·
            refine Go.st (fun _ k => XS.icmpNo X1001.here hx rfl (hb hby at_131) rfl (tlt (ltI liI_2 rfl c1007)).2.2.2 k) ?_
            refine Go.st (fun _ k => XS.aload X1001.here hx rfl (hb hby at_134) rfl rfl k) ?_
            refine Go.st (fun _ k => XS.iconst X1001.here hx rfl (hb hby at_136) k) ?_
            refine Go.st (fun _ k => XS.iload X1001.here hx rfl (hb hby at_137) rfl k) ?_
            show Go p e below s Q 7 28 (T1001.setTop (mkF m 139 #[.val (.int xa), .val (.int xb), .val (.int c0), .val (.int c1), .val (.int c2), .val (.int c3), .val (.int (4 : Int32)), .val (.int v946), .val (.int v955), .val (.int v964), .val (.int v973), .val (.int v982), .val (.ref b985), .unset] [(.int v973), (.int (2 : Int32)), (.ref b985)]))
            have r1009 : 0 ≤ (2 : Int32).toInt := by omega
            have r1010 : (2 : Int32).toInt < v946.toInt := by omega
            obtain ⟨T1008, h1008, X1008, e1008, W1008, V1008, st1008⟩ := Vec.istI X1001 hx hZ e1001 h1005 (j := (2 : Int32)) r1009 r1010 (g := (mkF m 139 #[.val (.int xa), .val (.int xb), .val (.int c0), .val (.int c1), .val (.int c2), .val (.int c3), .val (.int (4 : Int32)), .val (.int v946), .val (.int v955), .val (.int v964), .val (.int v973), .val (.int v982), .val (.ref b985), .unset] [(.int v973), (.int (2 : Int32)), (.ref b985)])) rfl rfl (hb hby at_139)
            have h1011 : Exa Z h1008 b985 "[I" := h1004.wr W1008
            have h1012 : Vec Z h1008 b985 .int v946 (ints (updF (updF (updF (fun _ => (0 : Int32)) 0 v955) 1 v964) 2 v973)) := V1008
            have K1008 : Keep h0 h1008 [] := K1001.wr W1008 (Or.inr szb985)
            have N1008 := Fr.snoc X1008 N1001 Gb985
            refine Go.st st1008 ?_
            show Go p e below s Q 7 28 (T1008.setTop (mkF m 140 #[.val (.int xa), .val (.int xb), .val (.int c0), .val (.int c1), .val (.int c2), .val (.int c3), .val (.int (4 : Int32)), .val (.int v946), .val (.int v955), .val (.int v964), .val (.int v973), .val (.int v982), .val (.ref b985), .unset] []))
            refine Go.st (fun _ k => XS.iload X1008.here hx rfl (hb hby at_140) rfl k) ?_
            refine Go.st (fun _ k => XS.iconst X1008.here hx rfl (hb hby at_142) k) ?_
            have f1013 := liI_3
            by_cases c1014 : 3 < v946.toInt
            ·
              refine Go.st (fun _ k => XS.icmpNo X1008.here hx rfl (hb hby at_143) rfl (tlt (ltI liI_3 rfl c1014)).2.2.2 k) ?_
              refine Go.st (fun _ k => XS.aload X1008.here hx rfl (hb hby at_146) rfl rfl k) ?_
              refine Go.st (fun _ k => XS.iconst X1008.here hx rfl (hb hby at_148) k) ?_
              refine Go.st (fun _ k => XS.iload X1008.here hx rfl (hb hby at_149) rfl k) ?_
              show Go p e below s Q 7 28 (T1008.setTop (mkF m 151 #[.val (.int xa), .val (.int xb), .val (.int c0), .val (.int c1), .val (.int c2), .val (.int c3), .val (.int (4 : Int32)), .val (.int v946), .val (.int v955), .val (.int v964), .val (.int v973), .val (.int v982), .val (.ref b985), .unset] [(.int v982), (.int (3 : Int32)), (.ref b985)]))
              have r1016 : 0 ≤ (3 : Int32).toInt := by omega
              have r1017 : (3 : Int32).toInt < v946.toInt := by omega
              obtain ⟨T1015, h1015, X1015, e1015, W1015, V1015, st1015⟩ := Vec.istI X1008 hx hZ e1008 h1012 (j := (3 : Int32)) r1016 r1017 (g := (mkF m 151 #[.val (.int xa), .val (.int xb), .val (.int c0), .val (.int c1), .val (.int c2), .val (.int c3), .val (.int (4 : Int32)), .val (.int v946), .val (.int v955), .val (.int v964), .val (.int v973), .val (.int v982), .val (.ref b985), .unset] [(.int v982), (.int (3 : Int32)), (.ref b985)])) rfl rfl (hb hby at_151)
              have h1018 : Exa Z h1015 b985 "[I" := h1011.wr W1015
              have h1019 : Vec Z h1015 b985 .int v946 (ints (updF (updF (updF (updF (fun _ => (0 : Int32)) 0 v955) 1 v964) 2 v973) 3 v982)) := V1015
              have K1015 : Keep h0 h1015 [] := K1008.wr W1015 (Or.inr szb985)
              have N1015 := Fr.snoc X1015 N1008 Gb985
              refine Go.st st1015 ?_
              show Go p e below s Q 7 28 (T1015.setTop (mkF m 152 #[.val (.int xa), .val (.int xb), .val (.int c0), .val (.int c1), .val (.int c2), .val (.int c3), .val (.int (4 : Int32)), .val (.int v946), .val (.int v955), .val (.int v964), .val (.int v973), .val (.int v982), .val (.ref b985), .unset] []))
              have f1020 := rng32 xa
              have f1021 := rng32 xb
              have f1022 := rng32 c0
              have f1023 := rng32 c1
              have f1024 := rng32 c2
              have f1025 := rng32 c3
              have f1026 := liI_4
              have f1027 := rng32 v955
              have f1028 := rng32 v964
              have f1029 := rng32 v973
              exact J991 T1015 h1015 _ (up X1015 (by decide) (by decide)) e1015 N1015 K1015 (updF (updF (updF (updF (fun _ => (0 : Int32)) 0 v955) 1 v964) 2 v973) 3 v982) h1018 h1019 (by intro h; first | rfl | omega) (by intro h; first | rfl | omega) (by intro h; first | rfl | omega) (by intro h; first | rfl | omega) Gb985
            ·
              refine Go.st (fun _ k => XS.icmpYes X1008.here hx rfl (pc0 := 143) (pc' := 152) rfl (hb hby at_143) rfl (flt (nltI liI_3 rfl c1014)).2.2.2 (by decide) (by decide) k) ?_
              show Go p e below s Q 7 28 (T1008.setTop (mkF m 152 #[.val (.int xa), .val (.int xb), .val (.int c0), .val (.int c1), .val (.int c2), .val (.int c3), .val (.int (4 : Int32)), .val (.int v946), .val (.int v955), .val (.int v964), .val (.int v973), .val (.int v982), .val (.ref b985), .unset] []))
              have f1030 := rng32 xa
              have f1031 := rng32 xb
              have f1032 := rng32 c0
              have f1033 := rng32 c1
              have f1034 := rng32 c2
              have f1035 := rng32 c3
              have f1036 := liI_4
              have f1037 := rng32 v955
              have f1038 := rng32 v964
              have f1039 := rng32 v973
              exact J991 T1008 h1008 _ (up X1008 (by decide) (by decide)) e1008 N1008 K1008 (updF (updF (updF (fun _ => (0 : Int32)) 0 v955) 1 v964) 2 v973) h1011 h1012 (by intro h; first | rfl | omega) (by intro h; first | rfl | omega) (by intro h; first | rfl | omega) (by intro h; first | rfl | omega) Gb985
          ·
            refine Go.st (fun _ k => XS.icmpYes X1001.here hx rfl (pc0 := 131) (pc' := 140) rfl (hb hby at_131) rfl (flt (nltI liI_2 rfl c1007)).2.2.2 (by decide) (by decide) k) ?_
            refine Go.st (fun _ k => XS.iload X1001.here hx rfl (hb hby at_140) rfl k) ?_
            refine Go.st (fun _ k => XS.iconst X1001.here hx rfl (hb hby at_142) k) ?_
            have f1040 := liI_3
            have c1041 : ¬ (3 < v946.toInt) := by omega
            refine Go.st (fun _ k => XS.icmpYes X1001.here hx rfl (pc0 := 143) (pc' := 152) rfl (hb hby at_143) rfl (flt (nltI liI_3 rfl c1041)).2.2.2 (by decide) (by decide) k) ?_
            show Go p e below s Q 7 28 (T1001.setTop (mkF m 152 #[.val (.int xa), .val (.int xb), .val (.int c0), .val (.int c1), .val (.int c2), .val (.int c3), .val (.int (4 : Int32)), .val (.int v946), .val (.int v955), .val (.int v964), .val (.int v973), .val (.int v982), .val (.ref b985), .unset] []))
            have f1042 := rng32 xa
            have f1043 := rng32 xb
            have f1044 := rng32 c0
            have f1045 := rng32 c1
            have f1046 := rng32 c2
            have f1047 := rng32 c3
            have f1048 := liI_4
            have f1049 := rng32 v955
            have f1050 := rng32 v964
            have f1051 := rng32 v973
            exact J991 T1001 h1001 _ (up X1001 (by decide) (by decide)) e1001 N1001 K1001 (updF (updF (fun _ => (0 : Int32)) 0 v955) 1 v964) h1004 h1005 (by intro h; first | rfl | omega) (by intro h; first | rfl | omega) (by intro h; first | rfl | omega) (by intro h; first | rfl | omega) Gb985
        ·
          refine Go.st (fun _ k => XS.icmpYes X994.here hx rfl (pc0 := 119) (pc' := 128) rfl (hb hby at_119) rfl (flt (nltI liI_1 rfl c1000)).2.2.2 (by decide) (by decide) k) ?_
          refine Go.st (fun _ k => XS.iload X994.here hx rfl (hb hby at_128) rfl k) ?_
          refine Go.st (fun _ k => XS.iconst X994.here hx rfl (hb hby at_130) k) ?_
          have f1052 := liI_2
          have c1053 : ¬ (2 < v946.toInt) := by omega
          refine Go.st (fun _ k => XS.icmpYes X994.here hx rfl (pc0 := 131) (pc' := 140) rfl (hb hby at_131) rfl (flt (nltI liI_2 rfl c1053)).2.2.2 (by decide) (by decide) k) ?_
          show Go p e below s Q 7 28 (T994.setTop (mkF m 140 #[.val (.int xa), .val (.int xb), .val (.int c0), .val (.int c1), .val (.int c2), .val (.int c3), .val (.int (4 : Int32)), .val (.int v946), .val (.int v955), .val (.int v964), .val (.int v973), .val (.int v982), .val (.ref b985), .unset] []))
          refine Go.st (fun _ k => XS.iload X994.here hx rfl (hb hby at_140) rfl k) ?_
          refine Go.st (fun _ k => XS.iconst X994.here hx rfl (hb hby at_142) k) ?_
          have f1054 := liI_3
          have c1055 : ¬ (3 < v946.toInt) := by omega
          refine Go.st (fun _ k => XS.icmpYes X994.here hx rfl (pc0 := 143) (pc' := 152) rfl (hb hby at_143) rfl (flt (nltI liI_3 rfl c1055)).2.2.2 (by decide) (by decide) k) ?_
          show Go p e below s Q 7 28 (T994.setTop (mkF m 152 #[.val (.int xa), .val (.int xb), .val (.int c0), .val (.int c1), .val (.int c2), .val (.int c3), .val (.int (4 : Int32)), .val (.int v946), .val (.int v955), .val (.int v964), .val (.int v973), .val (.int v982), .val (.ref b985), .unset] []))
          have f1056 := rng32 xa
          have f1057 := rng32 xb
          have f1058 := rng32 c0
          have f1059 := rng32 c1
          have f1060 := rng32 c2
          have f1061 := rng32 c3
          have f1062 := liI_4
          have f1063 := rng32 v955
          have f1064 := rng32 v964
          have f1065 := rng32 v973
          exact J991 T994 h994 _ (up X994 (by decide) (by decide)) e994 N994 K994 (updF (fun _ => (0 : Int32)) 0 v955) h997 h998 (by intro h; first | rfl | omega) (by intro h; first | rfl | omega) (by intro h; first | rfl | omega) (by intro h; first | rfl | omega) Gb985
      ·
        refine Go.st (fun _ k => XS.ifYes X985.here hx rfl (pc0 := 107) (pc' := 116) rfl (hb hby at_107) rfl ((if0 _ _).trans (flt (nltI liI_0 rfl c993)).2.2.2) (by decide) (by decide) k) ?_
        refine Go.st (fun _ k => XS.iload X985.here hx rfl (hb hby at_116) rfl k) ?_
        refine Go.st (fun _ k => XS.iconst X985.here hx rfl (hb hby at_118) k) ?_
        have f1066 := liI_1
        have c1067 : ¬ (1 < v946.toInt) := by omega
        refine Go.st (fun _ k => XS.icmpYes X985.here hx rfl (pc0 := 119) (pc' := 128) rfl (hb hby at_119) rfl (flt (nltI liI_1 rfl c1067)).2.2.2 (by decide) (by decide) k) ?_
        refine Go.st (fun _ k => XS.iload X985.here hx rfl (hb hby at_128) rfl k) ?_
        show Go p e below s Q 7 28 (T985.setTop (mkF m 130 #[.val (.int xa), .val (.int xb), .val (.int c0), .val (.int c1), .val (.int c2), .val (.int c3), .val (.int (4 : Int32)), .val (.int v946), .val (.int v955), .val (.int v964), .val (.int v973), .val (.int v982), .val (.ref b985), .unset] [(.int v946)]))
        refine Go.st (fun _ k => XS.iconst X985.here hx rfl (hb hby at_130) k) ?_
        have f1068 := liI_2
        have c1069 : ¬ (2 < v946.toInt) := by omega
        refine Go.st (fun _ k => XS.icmpYes X985.here hx rfl (pc0 := 131) (pc' := 140) rfl (hb hby at_131) rfl (flt (nltI liI_2 rfl c1069)).2.2.2 (by decide) (by decide) k) ?_
        refine Go.st (fun _ k => XS.iload X985.here hx rfl (hb hby at_140) rfl k) ?_
        refine Go.st (fun _ k => XS.iconst X985.here hx rfl (hb hby at_142) k) ?_
        have f1070 := liI_3
        have c1071 : ¬ (3 < v946.toInt) := by omega
        refine Go.st (fun _ k => XS.icmpYes X985.here hx rfl (pc0 := 143) (pc' := 152) rfl (hb hby at_143) rfl (flt (nltI liI_3 rfl c1071)).2.2.2 (by decide) (by decide) k) ?_
        show Go p e below s Q 7 28 (T985.setTop (mkF m 152 #[.val (.int xa), .val (.int xb), .val (.int c0), .val (.int c1), .val (.int c2), .val (.int c3), .val (.int (4 : Int32)), .val (.int v946), .val (.int v955), .val (.int v964), .val (.int v973), .val (.int v982), .val (.ref b985), .unset] []))
        have f1072 := rng32 xa
        have f1073 := rng32 xb
        have f1074 := rng32 c0
        have f1075 := rng32 c1
        have f1076 := rng32 c2
        have f1077 := rng32 c3
        have f1078 := liI_4
        have f1079 := rng32 v955
        have f1080 := rng32 v964
        have f1081 := rng32 v973
        exact J991 T985 h985 _ (up X985 (by decide) (by decide)) e985 N0 K985 (fun _ => (0 : Int32)) B985 h989 (by intro h; first | rfl | omega) (by intro h; first | rfl | omega) (by intro h; first | rfl | omega) (by intro h; first | rfl | omega) Gb985
    intro Tg990 hg990 Lgg990 Xg990 eg990 Ng990 Kg990 KK hfg990_0 hfg990_1 hpg990_0 hpg990_1 hpg990_2 hpg990_3 hpg990_4
    have hk0 : Hid (0 < v946.toInt → (KK 0).toInt = v955.toInt) := fun h => congrArg Int32.toInt (hpg990_0 h)
    have hk1 : Hid (1 < v946.toInt → (KK 1).toInt = v964.toInt) := fun h => congrArg Int32.toInt (hpg990_1 h)
    have hk2 : Hid (2 < v946.toInt → (KK 2).toInt = v973.toInt) := fun h => congrArg Int32.toInt (hpg990_2 h)
    have hk3 : Hid (3 < v946.toInt → (KK 3).toInt = v982.toInt) := fun h => congrArg Int32.toInt (hpg990_3 h)
    refine Go.st (fun _ k => XS.aload Xg990.here hx rfl (hb hby at_152) rfl rfl k) ?_
    refine Go.st (fun _ k => XS.iload Xg990.here hx rfl (hb hby at_154) rfl k) ?_
    have f1083 := liI_4
    have p1084 : 0 ≤ v946.toInt ∧ v946.toInt ≤ 4 := by omega
    obtain ⟨_, _, ⟨T1082, L1082, k1082, n1082⟩, -, X1082, ⟨Lc1082, hQ1082, l1082, y1082, z1082⟩, st1082⟩ := Jvm.LawKit.callS Xg990 hx (y := (⟨"com/example/rackwise/rackwise/RackCosts", "clientsOfRacks", "([II)[[I"⟩ : MethodName)) hown (mvT hZ (hw _ (List.mem_of_getElem? (i := 2) rfl))) (mvT hZ (hw _ (List.mem_of_getElem? (i := 3) rfl))) (mvT hZ (hw _ (List.mem_of_getElem? (i := 4) rfl))) (mvT hZ (hw _ (List.mem_of_getElem? (i := 5) rfl))) (by decide) (backOf (W := 0) (rmc4 l Z a0 hw [] b985 v946 KK hg990 n0 (Nat.le_trans Z0 Kg990.1) hfg990_1 p1084 (four_rng (by omega) hk0 hk1 hk2 hk3 (by omega) (by omega) (by omega) (by omega))) hZ (hw _ (List.mem_of_getElem? (i := 5) rfl)) (hw _ (List.mem_of_getElem? (i := 4) rfl)) (by decide) (by decide)) (g := (mkF m 156 #[.val (.int xa), .val (.int xb), .val (.int c0), .val (.int c1), .val (.int c2), .val (.int c3), .val (.int (4 : Int32)), .val (.int v946), .val (.int v955), .val (.int v964), .val (.int v973), .val (.int v982), .val (.ref b985), .unset] [(.int (4 : Int32)), (.ref b985)])) rfl (by rw [hml]; rfl) (argsL := [(.ref b985), (.int (4 : Int32))]) (rest := []) (lenOf pd_1 rfl) rfl (by show 2 * 0 + _ ≤ _; exact Nat.le_of_eq rfl) (hb hby at_156) (fun _ _ => ⟨rfl, eg990, (by decide : 1 + 6 ≤ _), (by decide : 4 + 24 ≤ _)⟩)
    dsimp only [Pt.U, Pt.locs, Pt.cells, Pt.slots] at X1082 l1082 y1082 z1082 st1082 hQ1082
    subst l1082 y1082 z1082
    obtain ⟨res_1085, w0_1086, l0_1087, g0_1088, w1_1089, l1_1090, g1_1091, w2_1092, l2_1093, g2_1094, w3_1095, l3_1096, g3_1097, rfl, N1082q, f1098, f1099, f1100, f1101, f1102, f1103, f1104, f1105, K1082q, h1106, h1107, h1108, h1109, h1110⟩ := hQ1082
    have N1082 := Fr.app Ng990 N1082q
    have h1111 : Exa Z T1082.heap b985 "[I" := hfg990_0.keep K1082q
    have h1112 : Vec Z T1082.heap b985 .int v946 (ints KK) := hfg990_1.keep K1082q nin0
    have K1082 : Keep h0 T1082.heap [] := Kg990.trans K1082q (fun x hx => (show ∀ x ∈ ([] : List Addr), x ∈ ([] : List Addr) ∨ h0.size ≤ x from all0) x hx)
    refine Go.st st1082 ?_
    show Go p e below s Q 7 28 (T1082.setTop (mkF m 159 #[.val (.int xa), .val (.int xb), .val (.int c0), .val (.int c1), .val (.int c2), .val (.int c3), .val (.int (4 : Int32)), .val (.int v946), .val (.int v955), .val (.int v964), .val (.int v973), .val (.int v982), .val (.ref b985), .unset] [(.ref res_1085)]))
    refine Go.st (fun _ k => XS.astore X1082.here hx rfl (hb hby at_159) rfl rfl (l' := #[.val (.int xa), .val (.int xb), .val (.int c0), .val (.int c1), .val (.int c2), .val (.int c3), .val (.int (4 : Int32)), .val (.int v946), .val (.int v955), .val (.int v964), .val (.int v973), .val (.int v982), .val (.ref b985), .val (.ref res_1085)]) rfl k) ?_
    refine Go.st (fun _ k => XS.aload X1082.here hx rfl (hb hby at_161) rfl rfl k) ?_
    refine Go.st (fun _ k => XS.ifnullNo X1082.here hx rfl (hb hby at_163) rfl k) ?_
    refine Go.st (fun _ k => XS.aload X1082.here hx rfl (hb hby at_166) rfl rfl k) ?_
    refine Go.st (RV.len X1082 hx hZ rfl h1106 (g := (mkF m 168 #[.val (.int xa), .val (.int xb), .val (.int c0), .val (.int c1), .val (.int c2), .val (.int c3), .val (.int (4 : Int32)), .val (.int v946), .val (.int v955), .val (.int v964), .val (.int v973), .val (.int v982), .val (.ref b985), .val (.ref res_1085)] [(.ref res_1085)])) rfl rfl (hb hby at_168)) ?_
    show Go p e below s Q 7 28 (T1082.setTop (mkF m 169 #[.val (.int xa), .val (.int xb), .val (.int c0), .val (.int c1), .val (.int c2), .val (.int c3), .val (.int (4 : Int32)), .val (.int v946), .val (.int v955), .val (.int v964), .val (.int v973), .val (.int v982), .val (.ref b985), .val (.ref res_1085)] [(.int (4 : Int32))]))
    refine Go.st (fun _ k => XS.iload X1082.here hx rfl (hb hby at_169) rfl k) ?_
    refine Go.st (fun _ k => XS.icmpYes X1082.here hx rfl (pc0 := 171) (pc' := 176) rfl (hb hby at_171) rfl (teq (eqI liI_4 liI_4 (by decide))).1 (by decide) (by decide) k) ?_
    refine Go.st (fun _ k => XS.iload X1082.here hx rfl (hb hby at_176) rfl k) ?_
    refine Go.st (fun _ k => XS.ifNo X1082.here hx rfl (hb hby at_178) rfl ((if0 _ _).trans (tlt (ltI liI_0 liI_4 (by decide))).2.2.2) k) ?_
    refine Go.st (fun _ k => XS.aload X1082.here hx rfl (hb hby at_181) rfl rfl k) ?_
    refine Go.st (fun _ k => XS.iconst X1082.here hx rfl (hb hby at_183) k) ?_
    show Go p e below s Q 7 28 (T1082.setTop (mkF m 184 #[.val (.int xa), .val (.int xb), .val (.int c0), .val (.int c1), .val (.int c2), .val (.int c3), .val (.int (4 : Int32)), .val (.int v946), .val (.int v955), .val (.int v964), .val (.int v973), .val (.int v982), .val (.ref b985), .val (.ref res_1085)] [(.int (0 : Int32)), (.ref res_1085)]))
    refine Go.st (RV.ild X1082 hx hZ rfl h1106 (j := (0 : Int32)) (by decide) (by decide) (g := (mkF m 184 #[.val (.int xa), .val (.int xb), .val (.int c0), .val (.int c1), .val (.int c2), .val (.int c3), .val (.int (4 : Int32)), .val (.int v946), .val (.int v955), .val (.int v964), .val (.int v973), .val (.int v982), .val (.ref b985), .val (.ref res_1085)] [(.int (0 : Int32)), (.ref res_1085)])) rfl rfl (hb hby at_184)) ?_
    show Go p e below s Q 7 28 (T1082.setTop (mkF m 185 #[.val (.int xa), .val (.int xb), .val (.int c0), .val (.int c1), .val (.int c2), .val (.int c3), .val (.int (4 : Int32)), .val (.int v946), .val (.int v955), .val (.int v964), .val (.int v973), .val (.int v982), .val (.ref b985), .val (.ref res_1085)] [(.ref w0_1086)]))
    refine Go.st (fun _ k => XS.iconst X1082.here hx rfl (hb hby at_185) k) ?_
    refine Go.st (fun _ k => XS.iload X1082.here hx rfl (hb hby at_186) rfl k) ?_
    refine Go.st (fun _ k => XS.iload X1082.here hx rfl (hb hby at_188) rfl k) ?_
    refine Go.st (fun _ k => XS.iload X1082.here hx rfl (hb hby at_190) rfl k) ?_
    refine Go.st (fun _ k => XS.iload X1082.here hx rfl (hb hby at_192) rfl k) ?_
    refine Go.st (fun _ k => XS.iload X1082.here hx rfl (hb hby at_194) rfl k) ?_
    show Go p e below s Q 7 28 (T1082.setTop (mkF m 196 #[.val (.int xa), .val (.int xb), .val (.int c0), .val (.int c1), .val (.int c2), .val (.int c3), .val (.int (4 : Int32)), .val (.int v946), .val (.int v955), .val (.int v964), .val (.int v973), .val (.int v982), .val (.ref b985), .val (.ref res_1085)] [(.int v982), (.int v973), (.int v964), (.int v955), (.int v946), (.int (0 : Int32)), (.ref w0_1086)]))
    have f1116 := rng32 l0_1087
    have f1117 := liI_0
    have f1118 := rng32 v955
    have f1119 := rng32 v964
    have f1120 := rng32 v973
    have p1121 : 0 ≤ v946.toInt ∧ v946.toInt ≤ 4 := by omega
    obtain ⟨_, _, ⟨T1115, L1115, k1115, n1115⟩, -, X1115, ⟨Lc1115, hQ1115, l1115, y1115, z1115⟩, st1115⟩ := Jvm.LawKit.callS X1082 hx (y := (⟨"com/example/rackwise/rackwise/RackCostsClientsOfRacksPinLaw", "rowOk", "([IIIIIII)Z"⟩ : MethodName)) hown (mvT hZ (hw _ (List.mem_of_getElem? (i := 9) rfl))) (mvT hZ (hw _ (List.mem_of_getElem? (i := 10) rfl))) (mvT hZ (hw _ (List.mem_of_getElem? (i := 11) rfl))) (mvT hZ (hw _ (List.mem_of_getElem? (i := 12) rfl))) (by decide) (backOf (W := 0) (rm2 l Z a0 hw [] w0_1086 (0 : Int32) v946 v955 v964 v973 v982 l0_1087 g0_1088 T1082.heap n0 (Nat.le_trans Z0 K1082.1) h1107 p1121) hZ (hw _ (List.mem_of_getElem? (i := 12) rfl)) (hw _ (List.mem_of_getElem? (i := 11) rfl)) (by decide) (by decide)) (g := (mkF m 196 #[.val (.int xa), .val (.int xb), .val (.int c0), .val (.int c1), .val (.int c2), .val (.int c3), .val (.int (4 : Int32)), .val (.int v946), .val (.int v955), .val (.int v964), .val (.int v973), .val (.int v982), .val (.ref b985), .val (.ref res_1085)] [(.int v982), (.int v973), (.int v964), (.int v955), (.int v946), (.int (0 : Int32)), (.ref w0_1086)])) rfl (by rw [hml]; rfl) (argsL := [(.ref w0_1086), (.int (0 : Int32)), (.int v946), (.int v955), (.int v964), (.int v973), (.int v982)]) (rest := []) (lenOf pd_2 rfl) rfl (by show 2 * 0 + _ ≤ _; exact Nat.le_of_eq rfl) (hb hby at_196) (fun _ _ => ⟨rfl, rfl, (by decide : 7 + 0 ≤ _), (by decide : 28 + 0 ≤ _)⟩)
    dsimp only [Pt.U, Pt.locs, Pt.cells, Pt.slots] at X1115 l1115 y1115 z1115 st1115 hQ1115
    subst l1115 y1115 z1115
    obtain ⟨rr_1122, cc_1123, rfl, N1115q, f1124, f1125, e1115⟩ := hQ1115
    have N1115 := Fr.app N1082 N1115q
    refine Go.st st1115 ?_
    show Go p e below s Q 7 28 (T1115.setTop (mkF m 199 #[.val (.int xa), .val (.int xb), .val (.int c0), .val (.int c1), .val (.int c2), .val (.int c3), .val (.int (4 : Int32)), .val (.int v946), .val (.int v955), .val (.int v964), .val (.int v973), .val (.int v982), .val (.ref b985), .val (.ref res_1085)] [(.int rr_1122)]))
    have f1126 := rng32 rr_1122
    have hrow0 : rr_1122.toInt = 1 := by
      obtain ⟨qa, qb, qc, m0, m1, m2, m3⟩ := f1124
      have q1 := chain_cnt hk0 hk1 hk2 hk3 (by omega) m0 m1 m2 m3
      have q2 := f1098
      have q3 : (0 : Int32).toInt = 0 := by decide
      rw [q3] at q1
      omega
    clear f1124 f1125
    have c1127 : ¬ (rr_1122.toInt = 0) := by omega
    refine Go.st (fun _ k => XS.ifYes X1115.here hx rfl (pc0 := 199) (pc' := 204) rfl (hb hby at_199) rfl ((if0 _ _).trans (feq (neI rfl liI_0 c1127)).2) (by decide) (by decide) k) ?_
    refine Go.st (fun _ k => XS.iload X1115.here hx rfl (hb hby at_204) rfl k) ?_
    refine Go.st (fun _ k => XS.iconst X1115.here hx rfl (hb hby at_206) k) ?_
    refine Go.st (fun _ k => XS.icmpNo X1115.here hx rfl (hb hby at_207) rfl (tlt (ltI liI_1 liI_4 (by decide))).2.2.2 k) ?_
    refine Go.st (fun _ k => XS.aload X1115.here hx rfl (hb hby at_210) rfl rfl k) ?_
    refine Go.st (fun _ k => XS.iconst X1115.here hx rfl (hb hby at_212) k) ?_
    show Go p e below s Q 7 28 (T1115.setTop (mkF m 213 #[.val (.int xa), .val (.int xb), .val (.int c0), .val (.int c1), .val (.int c2), .val (.int c3), .val (.int (4 : Int32)), .val (.int v946), .val (.int v955), .val (.int v964), .val (.int v973), .val (.int v982), .val (.ref b985), .val (.ref res_1085)] [(.int (1 : Int32)), (.ref res_1085)]))
    refine Go.st (RV.ild X1115 hx hZ e1115 h1106 (j := (1 : Int32)) (by decide) (by decide) (g := (mkF m 213 #[.val (.int xa), .val (.int xb), .val (.int c0), .val (.int c1), .val (.int c2), .val (.int c3), .val (.int (4 : Int32)), .val (.int v946), .val (.int v955), .val (.int v964), .val (.int v973), .val (.int v982), .val (.ref b985), .val (.ref res_1085)] [(.int (1 : Int32)), (.ref res_1085)])) rfl rfl (hb hby at_213)) ?_
    show Go p e below s Q 7 28 (T1115.setTop (mkF m 214 #[.val (.int xa), .val (.int xb), .val (.int c0), .val (.int c1), .val (.int c2), .val (.int c3), .val (.int (4 : Int32)), .val (.int v946), .val (.int v955), .val (.int v964), .val (.int v973), .val (.int v982), .val (.ref b985), .val (.ref res_1085)] [(.ref w1_1089)]))
    refine Go.st (fun _ k => XS.iconst X1115.here hx rfl (hb hby at_214) k) ?_
    refine Go.st (fun _ k => XS.iload X1115.here hx rfl (hb hby at_215) rfl k) ?_
    refine Go.st (fun _ k => XS.iload X1115.here hx rfl (hb hby at_217) rfl k) ?_
    refine Go.st (fun _ k => XS.iload X1115.here hx rfl (hb hby at_219) rfl k) ?_
    refine Go.st (fun _ k => XS.iload X1115.here hx rfl (hb hby at_221) rfl k) ?_
    refine Go.st (fun _ k => XS.iload X1115.here hx rfl (hb hby at_223) rfl k) ?_
    show Go p e below s Q 7 28 (T1115.setTop (mkF m 225 #[.val (.int xa), .val (.int xb), .val (.int c0), .val (.int c1), .val (.int c2), .val (.int c3), .val (.int (4 : Int32)), .val (.int v946), .val (.int v955), .val (.int v964), .val (.int v973), .val (.int v982), .val (.ref b985), .val (.ref res_1085)] [(.int v982), (.int v973), (.int v964), (.int v955), (.int v946), (.int (1 : Int32)), (.ref w1_1089)]))
    have f1130 := rng32 l1_1090
    have f1131 := liI_1
    have p1132 : 0 ≤ v946.toInt ∧ v946.toInt ≤ 4 := by omega
    obtain ⟨_, _, ⟨T1129, L1129, k1129, n1129⟩, -, X1129, ⟨Lc1129, hQ1129, l1129, y1129, z1129⟩, st1129⟩ := Jvm.LawKit.callS X1115 hx (y := (⟨"com/example/rackwise/rackwise/RackCostsClientsOfRacksPinLaw", "rowOk", "([IIIIIII)Z"⟩ : MethodName)) hown (mvT hZ (hw _ (List.mem_of_getElem? (i := 9) rfl))) (mvT hZ (hw _ (List.mem_of_getElem? (i := 10) rfl))) (mvT hZ (hw _ (List.mem_of_getElem? (i := 11) rfl))) (mvT hZ (hw _ (List.mem_of_getElem? (i := 12) rfl))) (by decide) (backOf (W := 0) (rm2 l Z a0 hw [] w1_1089 (1 : Int32) v946 v955 v964 v973 v982 l1_1090 g1_1091 T1082.heap n0 (Nat.le_trans Z0 K1082.1) h1108 p1132) hZ (hw _ (List.mem_of_getElem? (i := 12) rfl)) (hw _ (List.mem_of_getElem? (i := 11) rfl)) (by decide) (by decide)) (g := (mkF m 225 #[.val (.int xa), .val (.int xb), .val (.int c0), .val (.int c1), .val (.int c2), .val (.int c3), .val (.int (4 : Int32)), .val (.int v946), .val (.int v955), .val (.int v964), .val (.int v973), .val (.int v982), .val (.ref b985), .val (.ref res_1085)] [(.int v982), (.int v973), (.int v964), (.int v955), (.int v946), (.int (1 : Int32)), (.ref w1_1089)])) rfl (by rw [hml]; rfl) (argsL := [(.ref w1_1089), (.int (1 : Int32)), (.int v946), (.int v955), (.int v964), (.int v973), (.int v982)]) (rest := []) (lenOf pd_2 rfl) rfl (by show 2 * 0 + _ ≤ _; exact Nat.le_of_eq rfl) (hb hby at_225) (fun _ _ => ⟨rfl, e1115, (by decide : 7 + 0 ≤ _), (by decide : 28 + 0 ≤ _)⟩)
    dsimp only [Pt.U, Pt.locs, Pt.cells, Pt.slots] at X1129 l1129 y1129 z1129 st1129 hQ1129
    subst l1129 y1129 z1129
    obtain ⟨rr_1133, cc_1134, rfl, N1129q, f1135, f1136, e1129⟩ := hQ1129
    have N1129 := Fr.app N1115 N1129q
    refine Go.st st1129 ?_
    show Go p e below s Q 7 28 (T1129.setTop (mkF m 228 #[.val (.int xa), .val (.int xb), .val (.int c0), .val (.int c1), .val (.int c2), .val (.int c3), .val (.int (4 : Int32)), .val (.int v946), .val (.int v955), .val (.int v964), .val (.int v973), .val (.int v982), .val (.ref b985), .val (.ref res_1085)] [(.int rr_1133)]))
    have f1137 := rng32 rr_1133
    have hrow1 : rr_1133.toInt = 1 := by
      obtain ⟨qa, qb, qc, m0, m1, m2, m3⟩ := f1135
      have q1 := chain_cnt hk0 hk1 hk2 hk3 (by omega) m0 m1 m2 m3
      have q2 := f1099
      have q3 : (1 : Int32).toInt = 1 := by decide
      rw [q3] at q1
      omega
    clear f1135 f1136
    have c1138 : ¬ (rr_1133.toInt = 0) := by omega
    refine Go.st (fun _ k => XS.ifYes X1129.here hx rfl (pc0 := 228) (pc' := 233) rfl (hb hby at_228) rfl ((if0 _ _).trans (feq (neI rfl liI_0 c1138)).2) (by decide) (by decide) k) ?_
    refine Go.st (fun _ k => XS.iload X1129.here hx rfl (hb hby at_233) rfl k) ?_
    refine Go.st (fun _ k => XS.iconst X1129.here hx rfl (hb hby at_235) k) ?_
    refine Go.st (fun _ k => XS.icmpNo X1129.here hx rfl (hb hby at_236) rfl (tlt (ltI liI_2 liI_4 (by decide))).2.2.2 k) ?_
    refine Go.st (fun _ k => XS.aload X1129.here hx rfl (hb hby at_239) rfl rfl k) ?_
    refine Go.st (fun _ k => XS.iconst X1129.here hx rfl (hb hby at_241) k) ?_
    show Go p e below s Q 7 28 (T1129.setTop (mkF m 242 #[.val (.int xa), .val (.int xb), .val (.int c0), .val (.int c1), .val (.int c2), .val (.int c3), .val (.int (4 : Int32)), .val (.int v946), .val (.int v955), .val (.int v964), .val (.int v973), .val (.int v982), .val (.ref b985), .val (.ref res_1085)] [(.int (2 : Int32)), (.ref res_1085)]))
    refine Go.st (RV.ild X1129 hx hZ e1129 h1106 (j := (2 : Int32)) (by decide) (by decide) (g := (mkF m 242 #[.val (.int xa), .val (.int xb), .val (.int c0), .val (.int c1), .val (.int c2), .val (.int c3), .val (.int (4 : Int32)), .val (.int v946), .val (.int v955), .val (.int v964), .val (.int v973), .val (.int v982), .val (.ref b985), .val (.ref res_1085)] [(.int (2 : Int32)), (.ref res_1085)])) rfl rfl (hb hby at_242)) ?_
    show Go p e below s Q 7 28 (T1129.setTop (mkF m 243 #[.val (.int xa), .val (.int xb), .val (.int c0), .val (.int c1), .val (.int c2), .val (.int c3), .val (.int (4 : Int32)), .val (.int v946), .val (.int v955), .val (.int v964), .val (.int v973), .val (.int v982), .val (.ref b985), .val (.ref res_1085)] [(.ref w2_1092)]))
    refine Go.st (fun _ k => XS.iconst X1129.here hx rfl (hb hby at_243) k) ?_
    refine Go.st (fun _ k => XS.iload X1129.here hx rfl (hb hby at_244) rfl k) ?_
    refine Go.st (fun _ k => XS.iload X1129.here hx rfl (hb hby at_246) rfl k) ?_
    refine Go.st (fun _ k => XS.iload X1129.here hx rfl (hb hby at_248) rfl k) ?_
    refine Go.st (fun _ k => XS.iload X1129.here hx rfl (hb hby at_250) rfl k) ?_
    refine Go.st (fun _ k => XS.iload X1129.here hx rfl (hb hby at_252) rfl k) ?_
    show Go p e below s Q 7 28 (T1129.setTop (mkF m 254 #[.val (.int xa), .val (.int xb), .val (.int c0), .val (.int c1), .val (.int c2), .val (.int c3), .val (.int (4 : Int32)), .val (.int v946), .val (.int v955), .val (.int v964), .val (.int v973), .val (.int v982), .val (.ref b985), .val (.ref res_1085)] [(.int v982), (.int v973), (.int v964), (.int v955), (.int v946), (.int (2 : Int32)), (.ref w2_1092)]))
    have f1141 := rng32 l2_1093
    have f1142 := liI_2
    have p1143 : 0 ≤ v946.toInt ∧ v946.toInt ≤ 4 := by omega
    obtain ⟨_, _, ⟨T1140, L1140, k1140, n1140⟩, -, X1140, ⟨Lc1140, hQ1140, l1140, y1140, z1140⟩, st1140⟩ := Jvm.LawKit.callS X1129 hx (y := (⟨"com/example/rackwise/rackwise/RackCostsClientsOfRacksPinLaw", "rowOk", "([IIIIIII)Z"⟩ : MethodName)) hown (mvT hZ (hw _ (List.mem_of_getElem? (i := 9) rfl))) (mvT hZ (hw _ (List.mem_of_getElem? (i := 10) rfl))) (mvT hZ (hw _ (List.mem_of_getElem? (i := 11) rfl))) (mvT hZ (hw _ (List.mem_of_getElem? (i := 12) rfl))) (by decide) (backOf (W := 0) (rm2 l Z a0 hw [] w2_1092 (2 : Int32) v946 v955 v964 v973 v982 l2_1093 g2_1094 T1082.heap n0 (Nat.le_trans Z0 K1082.1) h1109 p1143) hZ (hw _ (List.mem_of_getElem? (i := 12) rfl)) (hw _ (List.mem_of_getElem? (i := 11) rfl)) (by decide) (by decide)) (g := (mkF m 254 #[.val (.int xa), .val (.int xb), .val (.int c0), .val (.int c1), .val (.int c2), .val (.int c3), .val (.int (4 : Int32)), .val (.int v946), .val (.int v955), .val (.int v964), .val (.int v973), .val (.int v982), .val (.ref b985), .val (.ref res_1085)] [(.int v982), (.int v973), (.int v964), (.int v955), (.int v946), (.int (2 : Int32)), (.ref w2_1092)])) rfl (by rw [hml]; rfl) (argsL := [(.ref w2_1092), (.int (2 : Int32)), (.int v946), (.int v955), (.int v964), (.int v973), (.int v982)]) (rest := []) (lenOf pd_2 rfl) rfl (by show 2 * 0 + _ ≤ _; exact Nat.le_of_eq rfl) (hb hby at_254) (fun _ _ => ⟨rfl, e1129, (by decide : 7 + 0 ≤ _), (by decide : 28 + 0 ≤ _)⟩)
    dsimp only [Pt.U, Pt.locs, Pt.cells, Pt.slots] at X1140 l1140 y1140 z1140 st1140 hQ1140
    subst l1140 y1140 z1140
    obtain ⟨rr_1144, cc_1145, rfl, N1140q, f1146, f1147, e1140⟩ := hQ1140
    have N1140 := Fr.app N1129 N1140q
    refine Go.st st1140 ?_
    show Go p e below s Q 7 28 (T1140.setTop (mkF m 257 #[.val (.int xa), .val (.int xb), .val (.int c0), .val (.int c1), .val (.int c2), .val (.int c3), .val (.int (4 : Int32)), .val (.int v946), .val (.int v955), .val (.int v964), .val (.int v973), .val (.int v982), .val (.ref b985), .val (.ref res_1085)] [(.int rr_1144)]))
    have f1148 := rng32 rr_1144
    have hrow2 : rr_1144.toInt = 1 := by
      obtain ⟨qa, qb, qc, m0, m1, m2, m3⟩ := f1146
      have q1 := chain_cnt hk0 hk1 hk2 hk3 (by omega) m0 m1 m2 m3
      have q2 := f1100
      have q3 : (2 : Int32).toInt = 2 := by decide
      rw [q3] at q1
      omega
    clear f1146 f1147
    have c1149 : ¬ (rr_1144.toInt = 0) := by omega
    refine Go.st (fun _ k => XS.ifYes X1140.here hx rfl (pc0 := 257) (pc' := 262) rfl (hb hby at_257) rfl ((if0 _ _).trans (feq (neI rfl liI_0 c1149)).2) (by decide) (by decide) k) ?_
    refine Go.st (fun _ k => XS.iload X1140.here hx rfl (hb hby at_262) rfl k) ?_
    refine Go.st (fun _ k => XS.iconst X1140.here hx rfl (hb hby at_264) k) ?_
    refine Go.st (fun _ k => XS.icmpNo X1140.here hx rfl (hb hby at_265) rfl (tlt (ltI liI_3 liI_4 (by decide))).2.2.2 k) ?_
    refine Go.st (fun _ k => XS.aload X1140.here hx rfl (hb hby at_268) rfl rfl k) ?_
    refine Go.st (fun _ k => XS.iconst X1140.here hx rfl (hb hby at_270) k) ?_
    show Go p e below s Q 7 28 (T1140.setTop (mkF m 271 #[.val (.int xa), .val (.int xb), .val (.int c0), .val (.int c1), .val (.int c2), .val (.int c3), .val (.int (4 : Int32)), .val (.int v946), .val (.int v955), .val (.int v964), .val (.int v973), .val (.int v982), .val (.ref b985), .val (.ref res_1085)] [(.int (3 : Int32)), (.ref res_1085)]))
    refine Go.st (RV.ild X1140 hx hZ e1140 h1106 (j := (3 : Int32)) (by decide) (by decide) (g := (mkF m 271 #[.val (.int xa), .val (.int xb), .val (.int c0), .val (.int c1), .val (.int c2), .val (.int c3), .val (.int (4 : Int32)), .val (.int v946), .val (.int v955), .val (.int v964), .val (.int v973), .val (.int v982), .val (.ref b985), .val (.ref res_1085)] [(.int (3 : Int32)), (.ref res_1085)])) rfl rfl (hb hby at_271)) ?_
    show Go p e below s Q 7 28 (T1140.setTop (mkF m 272 #[.val (.int xa), .val (.int xb), .val (.int c0), .val (.int c1), .val (.int c2), .val (.int c3), .val (.int (4 : Int32)), .val (.int v946), .val (.int v955), .val (.int v964), .val (.int v973), .val (.int v982), .val (.ref b985), .val (.ref res_1085)] [(.ref w3_1095)]))
    refine Go.st (fun _ k => XS.iconst X1140.here hx rfl (hb hby at_272) k) ?_
    refine Go.st (fun _ k => XS.iload X1140.here hx rfl (hb hby at_273) rfl k) ?_
    refine Go.st (fun _ k => XS.iload X1140.here hx rfl (hb hby at_275) rfl k) ?_
    refine Go.st (fun _ k => XS.iload X1140.here hx rfl (hb hby at_277) rfl k) ?_
    refine Go.st (fun _ k => XS.iload X1140.here hx rfl (hb hby at_279) rfl k) ?_
    refine Go.st (fun _ k => XS.iload X1140.here hx rfl (hb hby at_281) rfl k) ?_
    show Go p e below s Q 7 28 (T1140.setTop (mkF m 283 #[.val (.int xa), .val (.int xb), .val (.int c0), .val (.int c1), .val (.int c2), .val (.int c3), .val (.int (4 : Int32)), .val (.int v946), .val (.int v955), .val (.int v964), .val (.int v973), .val (.int v982), .val (.ref b985), .val (.ref res_1085)] [(.int v982), (.int v973), (.int v964), (.int v955), (.int v946), (.int (3 : Int32)), (.ref w3_1095)]))
    have f1152 := rng32 l3_1096
    have f1153 := liI_3
    have p1154 : 0 ≤ v946.toInt ∧ v946.toInt ≤ 4 := by omega
    obtain ⟨_, _, ⟨T1151, L1151, k1151, n1151⟩, -, X1151, ⟨Lc1151, hQ1151, l1151, y1151, z1151⟩, st1151⟩ := Jvm.LawKit.callS X1140 hx (y := (⟨"com/example/rackwise/rackwise/RackCostsClientsOfRacksPinLaw", "rowOk", "([IIIIIII)Z"⟩ : MethodName)) hown (mvT hZ (hw _ (List.mem_of_getElem? (i := 9) rfl))) (mvT hZ (hw _ (List.mem_of_getElem? (i := 10) rfl))) (mvT hZ (hw _ (List.mem_of_getElem? (i := 11) rfl))) (mvT hZ (hw _ (List.mem_of_getElem? (i := 12) rfl))) (by decide) (backOf (W := 0) (rm2 l Z a0 hw [] w3_1095 (3 : Int32) v946 v955 v964 v973 v982 l3_1096 g3_1097 T1082.heap n0 (Nat.le_trans Z0 K1082.1) h1110 p1154) hZ (hw _ (List.mem_of_getElem? (i := 12) rfl)) (hw _ (List.mem_of_getElem? (i := 11) rfl)) (by decide) (by decide)) (g := (mkF m 283 #[.val (.int xa), .val (.int xb), .val (.int c0), .val (.int c1), .val (.int c2), .val (.int c3), .val (.int (4 : Int32)), .val (.int v946), .val (.int v955), .val (.int v964), .val (.int v973), .val (.int v982), .val (.ref b985), .val (.ref res_1085)] [(.int v982), (.int v973), (.int v964), (.int v955), (.int v946), (.int (3 : Int32)), (.ref w3_1095)])) rfl (by rw [hml]; rfl) (argsL := [(.ref w3_1095), (.int (3 : Int32)), (.int v946), (.int v955), (.int v964), (.int v973), (.int v982)]) (rest := []) (lenOf pd_2 rfl) rfl (by show 2 * 0 + _ ≤ _; exact Nat.le_of_eq rfl) (hb hby at_283) (fun _ _ => ⟨rfl, e1140, (by decide : 7 + 0 ≤ _), (by decide : 28 + 0 ≤ _)⟩)
    dsimp only [Pt.U, Pt.locs, Pt.cells, Pt.slots] at X1151 l1151 y1151 z1151 st1151 hQ1151
    subst l1151 y1151 z1151
    obtain ⟨rr_1155, cc_1156, rfl, N1151q, f1157, f1158, e1151⟩ := hQ1151
    have N1151 := Fr.app N1140 N1151q
    refine Go.st st1151 ?_
    show Go p e below s Q 7 28 (T1151.setTop (mkF m 286 #[.val (.int xa), .val (.int xb), .val (.int c0), .val (.int c1), .val (.int c2), .val (.int c3), .val (.int (4 : Int32)), .val (.int v946), .val (.int v955), .val (.int v964), .val (.int v973), .val (.int v982), .val (.ref b985), .val (.ref res_1085)] [(.int rr_1155)]))
    have f1159 := rng32 rr_1155
    have hrow3 : rr_1155.toInt = 1 := by
      obtain ⟨qa, qb, qc, m0, m1, m2, m3⟩ := f1157
      have q1 := chain_cnt hk0 hk1 hk2 hk3 (by omega) m0 m1 m2 m3
      have q2 := f1101
      have q3 : (3 : Int32).toInt = 3 := by decide
      rw [q3] at q1
      omega
    clear f1157 f1158
    have c1160 : ¬ (rr_1155.toInt = 0) := by omega
    refine Go.st (fun _ k => XS.ifYes X1151.here hx rfl (pc0 := 286) (pc' := 291) rfl (hb hby at_286) rfl ((if0 _ _).trans (feq (neI rfl liI_0 c1160)).2) (by decide) (by decide) k) ?_
    show Go p e below s Q 7 28 (T1151.setTop (mkF m 291 #[.val (.int xa), .val (.int xb), .val (.int c0), .val (.int c1), .val (.int c2), .val (.int c3), .val (.int (4 : Int32)), .val (.int v946), .val (.int v955), .val (.int v964), .val (.int v973), .val (.int v982), .val (.ref b985), .val (.ref res_1085)] []))
    suffices J1162 : ∀ (Tg1161 : State) (hg1161 : Heap) (Lgg1161 : List Loc) (Xg1161 : Stand p l e room_1 s m #[(.int xa), (.int xb), (.int c0), (.int c1), (.int c2), (.int c3)] below meth c Tg1161 Lgg1161 7 28) (eg1161 : Tg1161.heap = hg1161) (Ng1161 : Fr n0 Lgg1161) (Kg1161 : Keep h0 hg1161 []) (hfg1161_0 : Exa Z hg1161 b985 "[I") (hfg1161_1 : Vec Z hg1161 b985 .int v946 (ints KK)) (hfg1161_2 : RV Z hg1161 res_1085 (4 : Int32) [(.ref w0_1086), (.ref w1_1089), (.ref w2_1092), (.ref w3_1095)]) (hfg1161_3 : Vec Z hg1161 w0_1086 .int l0_1087 (ints g0_1088)) (hfg1161_4 : Vec Z hg1161 w1_1089 .int l1_1090 (ints g1_1091)) (hfg1161_5 : Vec Z hg1161 w2_1092 .int l2_1093 (ints g2_1094)) (hfg1161_6 : Vec Z hg1161 w3_1095 .int l3_1096 (ints g3_1097)), Go p e below s Q 7 28 (Tg1161.setTop (mkF m 310 #[.val (.int xa), .val (.int xb), .val (.int c0), .val (.int c1), .val (.int c2), .val (.int c3), .val (.int (4 : Int32)), .val (.int v946), .val (.int v955), .val (.int v964), .val (.int v973), .val (.int v982), .val (.ref b985), .val (.ref res_1085)] [])) by
      refine Go.st (fun _ k => XS.iload X1151.here hx rfl (hb hby at_291) rfl k) ?_
      by_cases c1163 : 0 < v946.toInt
      ·
        refine Go.st (fun _ k => XS.ifNo X1151.here hx rfl (hb hby at_293) rfl ((if0 _ _).trans (tlt (ltI liI_0 rfl c1163)).2.2.2) k) ?_
        refine Go.st (fun _ k => XS.aload X1151.here hx rfl (hb hby at_296) rfl rfl k) ?_
        refine Go.st (fun _ k => XS.iconst X1151.here hx rfl (hb hby at_298) k) ?_
        refine Go.st (fun _ k => XS.iload X1151.here hx rfl (hb hby at_299) rfl k) ?_
        refine Go.st (fun _ k => XS.iconst X1151.here hx rfl (hb hby at_301) k) ?_
        show Go p e below s Q 7 28 (T1151.setTop (mkF m 302 #[.val (.int xa), .val (.int xb), .val (.int c0), .val (.int c1), .val (.int c2), .val (.int c3), .val (.int (4 : Int32)), .val (.int v946), .val (.int v955), .val (.int v964), .val (.int v973), .val (.int v982), .val (.ref b985), .val (.ref res_1085)] [(.int (0 : Int32)), (.int v955), (.int (0 : Int32)), (.ref res_1085)]))
        have hra0 : (0 : Int32).toInt = cnt KK 0 v955.toInt := by
          have e0 : cnt KK 0 v955.toInt = 0 := rfl
          omega
        have hrb0 := cnt_rng KK 0 v955.toInt
        have p1165 : 0 ≤ v955.toInt ∧ v955.toInt < 4 ∧ 0 ≤ (0 : Int32).toInt := by omega
        obtain ⟨_, _, ⟨T1164, L1164, k1164, n1164⟩, -, X1164, ⟨Lc1164, hQ1164, l1164, y1164, z1164⟩, st1164⟩ := Jvm.LawKit.callS X1151 hx (y := (⟨"com/example/rackwise/rackwise/RackCostsClientsOfRacksPinLaw", "placed", "([[IIII)Z"⟩ : MethodName)) hown (mvT hZ (hw _ (List.mem_of_getElem? (i := 16) rfl))) (mvT hZ (hw _ (List.mem_of_getElem? (i := 17) rfl))) (mvT hZ (hw _ (List.mem_of_getElem? (i := 11) rfl))) (mvT hZ (hw _ (List.mem_of_getElem? (i := 18) rfl))) (by decide) (backOf (W := 0) (rmp4 l Z a0 hw [] res_1085 (0 : Int32) v955 (0 : Int32) w0_1086 l0_1087 g0_1088 w1_1089 l1_1090 g1_1091 w2_1092 l2_1093 g2_1094 w3_1095 l3_1096 g3_1097 T1082.heap n0 (Nat.le_trans Z0 K1082.1) h1106 h1107 h1108 h1109 h1110 p1165) hZ (hw _ (List.mem_of_getElem? (i := 18) rfl)) (hw _ (List.mem_of_getElem? (i := 11) rfl)) (by decide) (by decide)) (g := (mkF m 302 #[.val (.int xa), .val (.int xb), .val (.int c0), .val (.int c1), .val (.int c2), .val (.int c3), .val (.int (4 : Int32)), .val (.int v946), .val (.int v955), .val (.int v964), .val (.int v973), .val (.int v982), .val (.ref b985), .val (.ref res_1085)] [(.int (0 : Int32)), (.int v955), (.int (0 : Int32)), (.ref res_1085)])) rfl (by rw [hml]; rfl) (argsL := [(.ref res_1085), (.int (0 : Int32)), (.int v955), (.int (0 : Int32))]) (rest := []) (lenOf pd_3 rfl) rfl (by show 2 * 0 + _ ≤ _; exact Nat.le_of_eq rfl) (hb hby at_302) (fun _ _ => ⟨rfl, e1151, (by decide : 7 + 0 ≤ _), (by decide : 28 + 0 ≤ _)⟩)
        dsimp only [Pt.U, Pt.locs, Pt.cells, Pt.slots] at X1164 l1164 y1164 z1164 st1164 hQ1164
        subst l1164 y1164 z1164
        obtain ⟨rr_1166, rfl, N1164q, f1167, f1168, f1169, f1170, e1164⟩ := hQ1164
        have N1164 := Fr.app N1151 N1164q
        refine Go.st st1164 ?_
        show Go p e below s Q 7 28 (T1164.setTop (mkF m 305 #[.val (.int xa), .val (.int xb), .val (.int c0), .val (.int c1), .val (.int c2), .val (.int c3), .val (.int (4 : Int32)), .val (.int v946), .val (.int v955), .val (.int v964), .val (.int v973), .val (.int v982), .val (.ref b985), .val (.ref res_1085)] [(.int rr_1166)]))
        have f1171 := rng32 rr_1166
        have hone0 : rr_1166.toInt = 1 := by
          rcases (by omega : v955.toInt = 0 ∨ v955.toInt = 1 ∨ v955.toInt = 2 ∨ v955.toInt = 3) with q1 | q1 | q1 | q1
          · exact placed_ok (i := 0) f1098 f1102 (by omega) (by rw [hk0 (by omega)]; exact q1) (by rw [← q1]; exact hra0) (by decide) (f1167 q1)
          · exact placed_ok (i := 0) f1099 f1103 (by omega) (by rw [hk0 (by omega)]; exact q1) (by rw [← q1]; exact hra0) (by decide) (f1168 q1)
          · exact placed_ok (i := 0) f1100 f1104 (by omega) (by rw [hk0 (by omega)]; exact q1) (by rw [← q1]; exact hra0) (by decide) (f1169 q1)
          · exact placed_ok (i := 0) f1101 f1105 (by omega) (by rw [hk0 (by omega)]; exact q1) (by rw [← q1]; exact hra0) (by decide) (f1170 q1)
        clear f1167 f1168 f1169 f1170
        have c1172 : ¬ (rr_1166.toInt = 0) := by omega
        refine Go.st (fun _ k => XS.ifYes X1164.here hx rfl (pc0 := 305) (pc' := 310) rfl (hb hby at_305) rfl ((if0 _ _).trans (feq (neI rfl liI_0 c1172)).2) (by decide) (by decide) k) ?_
        show Go p e below s Q 7 28 (T1164.setTop (mkF m 310 #[.val (.int xa), .val (.int xb), .val (.int c0), .val (.int c1), .val (.int c2), .val (.int c3), .val (.int (4 : Int32)), .val (.int v946), .val (.int v955), .val (.int v964), .val (.int v973), .val (.int v982), .val (.ref b985), .val (.ref res_1085)] []))
        have f1173 := rng32 xa
        have f1174 := rng32 xb
        have f1175 := rng32 c0
        have f1176 := rng32 c1
        have f1177 := rng32 c2
        have f1178 := rng32 c3
        exact J1162 T1164 T1082.heap _ (up X1164 (by decide) (by decide)) e1164 N1164 K1082 h1111 h1112 h1106 h1107 h1108 h1109 h1110
      ·
        refine Go.st (fun _ k => XS.ifYes X1151.here hx rfl (pc0 := 293) (pc' := 310) rfl (hb hby at_293) rfl ((if0 _ _).trans (flt (nltI liI_0 rfl c1163)).2.2.2) (by decide) (by decide) k) ?_
        show Go p e below s Q 7 28 (T1151.setTop (mkF m 310 #[.val (.int xa), .val (.int xb), .val (.int c0), .val (.int c1), .val (.int c2), .val (.int c3), .val (.int (4 : Int32)), .val (.int v946), .val (.int v955), .val (.int v964), .val (.int v973), .val (.int v982), .val (.ref b985), .val (.ref res_1085)] []))
        have f1179 := rng32 xa
        have f1180 := rng32 xb
        have f1181 := rng32 c0
        have f1182 := rng32 c1
        have f1183 := rng32 c2
        have f1184 := rng32 c3
        exact J1162 T1151 T1082.heap _ (up X1151 (by decide) (by decide)) e1151 N1151 K1082 h1111 h1112 h1106 h1107 h1108 h1109 h1110
    intro Tg1161 hg1161 Lgg1161 Xg1161 eg1161 Ng1161 Kg1161 hfg1161_0 hfg1161_1 hfg1161_2 hfg1161_3 hfg1161_4 hfg1161_5 hfg1161_6
    suffices J1186 : ∀ (Tg1185 : State) (hg1185 : Heap) (Lgg1185 : List Loc) (Xg1185 : Stand p l e room_1 s m #[(.int xa), (.int xb), (.int c0), (.int c1), (.int c2), (.int c3)] below meth c Tg1185 Lgg1185 7 28) (eg1185 : Tg1185.heap = hg1185) (Ng1185 : Fr n0 Lgg1185) (Kg1185 : Keep h0 hg1185 []) (hfg1185_0 : Exa Z hg1185 b985 "[I") (hfg1185_1 : Vec Z hg1185 b985 .int v946 (ints KK)) (hfg1185_2 : RV Z hg1185 res_1085 (4 : Int32) [(.ref w0_1086), (.ref w1_1089), (.ref w2_1092), (.ref w3_1095)]) (hfg1185_3 : Vec Z hg1185 w0_1086 .int l0_1087 (ints g0_1088)) (hfg1185_4 : Vec Z hg1185 w1_1089 .int l1_1090 (ints g1_1091)) (hfg1185_5 : Vec Z hg1185 w2_1092 .int l2_1093 (ints g2_1094)) (hfg1185_6 : Vec Z hg1185 w3_1095 .int l3_1096 (ints g3_1097)), Go p e below s Q 7 28 (Tg1185.setTop (mkF m 336 #[.val (.int xa), .val (.int xb), .val (.int c0), .val (.int c1), .val (.int c2), .val (.int c3), .val (.int (4 : Int32)), .val (.int v946), .val (.int v955), .val (.int v964), .val (.int v973), .val (.int v982), .val (.ref b985), .val (.ref res_1085)] [])) by
      refine Go.st (fun _ k => XS.iload Xg1161.here hx rfl (hb hby at_310) rfl k) ?_
      refine Go.st (fun _ k => XS.iconst Xg1161.here hx rfl (hb hby at_312) k) ?_
      by_cases c1187 : 1 < v946.toInt
      ·
        refine Go.st (fun _ k => XS.icmpNo Xg1161.here hx rfl (hb hby at_313) rfl (tlt (ltI liI_1 rfl c1187)).2.2.2 k) ?_
        refine Go.st (fun _ k => XS.aload Xg1161.here hx rfl (hb hby at_316) rfl rfl k) ?_
        refine Go.st (fun _ k => XS.iconst Xg1161.here hx rfl (hb hby at_318) k) ?_
        refine Go.st (fun _ k => XS.iload Xg1161.here hx rfl (hb hby at_319) rfl k) ?_
        show Go p e below s Q 7 28 (Tg1161.setTop (mkF m 321 #[.val (.int xa), .val (.int xb), .val (.int c0), .val (.int c1), .val (.int c2), .val (.int c3), .val (.int (4 : Int32)), .val (.int v946), .val (.int v955), .val (.int v964), .val (.int v973), .val (.int v982), .val (.ref b985), .val (.ref res_1085)] [(.int v964), (.int (1 : Int32)), (.ref res_1085)]))
        refine Go.st (fun _ k => XS.iload Xg1161.here hx rfl (hb hby at_321) rfl k) ?_
        refine Go.st (fun _ k => XS.iload Xg1161.here hx rfl (hb hby at_323) rfl k) ?_
        obtain ⟨_, _, ⟨T1188, L1188, k1188, n1188⟩, -, X1188, ⟨Lc1188, hQ1188, l1188, y1188, z1188⟩, st1188⟩ := Jvm.LawKit.callS Xg1161 hx (y := (⟨"com/example/rackwise/rackwise/RackCostsClientsOfRacksPinLaw", "same", "(II)I"⟩ : MethodName)) hown (mvT hZ (hw _ (List.mem_of_getElem? (i := 19) rfl))) (mvT hZ (hw _ (List.mem_of_getElem? (i := 20) rfl))) (mvT hZ (hw _ (List.mem_of_getElem? (i := 11) rfl))) (mvT hZ (hw _ (List.mem_of_getElem? (i := 21) rfl))) (by decide) (backOf (W := 3) (rm5 l Z a0 hw [] v955 v964 hg1161 n0 (Nat.le_trans Z0 Kg1161.1) ) hZ (hw _ (List.mem_of_getElem? (i := 21) rfl)) (hw _ (List.mem_of_getElem? (i := 11) rfl)) (by decide) (by decide)) (g := (mkF m 325 #[.val (.int xa), .val (.int xb), .val (.int c0), .val (.int c1), .val (.int c2), .val (.int c3), .val (.int (4 : Int32)), .val (.int v946), .val (.int v955), .val (.int v964), .val (.int v973), .val (.int v982), .val (.ref b985), .val (.ref res_1085)] [(.int v964), (.int v955), (.int v964), (.int (1 : Int32)), (.ref res_1085)])) rfl (by rw [hml]; rfl) (argsL := [(.int v955), (.int v964)]) (rest := [(.int v964), (.int (1 : Int32)), (.ref res_1085)]) (lenOf pd_4 rfl) rfl (by show 2 * 0 + _ ≤ _; exact Nat.le_of_eq rfl) (hb hby at_325) (fun _ _ => ⟨rfl, eg1161, (by decide : 7 + 0 ≤ _), (by decide : 28 + 0 ≤ _)⟩)
        dsimp only [Pt.U, Pt.locs, Pt.cells, Pt.slots] at X1188 l1188 y1188 z1188 st1188 hQ1188
        subst l1188 y1188 z1188
        obtain ⟨rr_1189, rfl, N1188q, f1190, e1188⟩ := hQ1188
        have N1188 := Fr.app Ng1161 N1188q
        refine Go.st st1188 ?_
        show Go p e below s Q 7 28 (T1188.setTop (mkF m 328 #[.val (.int xa), .val (.int xb), .val (.int c0), .val (.int c1), .val (.int c2), .val (.int c3), .val (.int (4 : Int32)), .val (.int v946), .val (.int v955), .val (.int v964), .val (.int v973), .val (.int v982), .val (.ref b985), .val (.ref res_1085)] [(.int rr_1189), (.int v964), (.int (1 : Int32)), (.ref res_1085)]))
        have f1191 := rng32 rr_1189
        have hra1 : rr_1189.toInt = cnt KK 1 v964.toInt := by
          have i0 := ind_c (KK 0).toInt v964.toInt
          have j0 := hk0 (by omega)
          have e0 : cnt KK 0 v964.toInt = 0 := rfl
          have e1 : cnt KK 1 v964.toInt = cnt KK 0 v964.toInt + ind (KK 0).toInt v964.toInt := rfl
          omega
        have hrb1 := cnt_rng KK 1 v964.toInt
        have p1193 : 0 ≤ v964.toInt ∧ v964.toInt < 4 ∧ 0 ≤ rr_1189.toInt := by omega
        obtain ⟨_, _, ⟨T1192, L1192, k1192, n1192⟩, -, X1192, ⟨Lc1192, hQ1192, l1192, y1192, z1192⟩, st1192⟩ := Jvm.LawKit.callS X1188 hx (y := (⟨"com/example/rackwise/rackwise/RackCostsClientsOfRacksPinLaw", "placed", "([[IIII)Z"⟩ : MethodName)) hown (mvT hZ (hw _ (List.mem_of_getElem? (i := 16) rfl))) (mvT hZ (hw _ (List.mem_of_getElem? (i := 17) rfl))) (mvT hZ (hw _ (List.mem_of_getElem? (i := 11) rfl))) (mvT hZ (hw _ (List.mem_of_getElem? (i := 18) rfl))) (by decide) (backOf (W := 0) (rmp4 l Z a0 hw [] res_1085 (1 : Int32) v964 rr_1189 w0_1086 l0_1087 g0_1088 w1_1089 l1_1090 g1_1091 w2_1092 l2_1093 g2_1094 w3_1095 l3_1096 g3_1097 hg1161 n0 (Nat.le_trans Z0 Kg1161.1) hfg1161_2 hfg1161_3 hfg1161_4 hfg1161_5 hfg1161_6 p1193) hZ (hw _ (List.mem_of_getElem? (i := 18) rfl)) (hw _ (List.mem_of_getElem? (i := 11) rfl)) (by decide) (by decide)) (g := (mkF m 328 #[.val (.int xa), .val (.int xb), .val (.int c0), .val (.int c1), .val (.int c2), .val (.int c3), .val (.int (4 : Int32)), .val (.int v946), .val (.int v955), .val (.int v964), .val (.int v973), .val (.int v982), .val (.ref b985), .val (.ref res_1085)] [(.int rr_1189), (.int v964), (.int (1 : Int32)), (.ref res_1085)])) rfl (by rw [hml]; rfl) (argsL := [(.ref res_1085), (.int (1 : Int32)), (.int v964), (.int rr_1189)]) (rest := []) (lenOf pd_3 rfl) rfl (by show 2 * 0 + _ ≤ _; exact Nat.le_of_eq rfl) (hb hby at_328) (fun _ _ => ⟨rfl, e1188, (by decide : 7 + 0 ≤ _), (by decide : 28 + 0 ≤ _)⟩)
        dsimp only [Pt.U, Pt.locs, Pt.cells, Pt.slots] at X1192 l1192 y1192 z1192 st1192 hQ1192
        subst l1192 y1192 z1192
        obtain ⟨rr_1194, rfl, N1192q, f1195, f1196, f1197, f1198, e1192⟩ := hQ1192
        have N1192 := Fr.app N1188 N1192q
        refine Go.st st1192 ?_
        show Go p e below s Q 7 28 (T1192.setTop (mkF m 331 #[.val (.int xa), .val (.int xb), .val (.int c0), .val (.int c1), .val (.int c2), .val (.int c3), .val (.int (4 : Int32)), .val (.int v946), .val (.int v955), .val (.int v964), .val (.int v973), .val (.int v982), .val (.ref b985), .val (.ref res_1085)] [(.int rr_1194)]))
        have f1199 := rng32 rr_1194
        have hone1 : rr_1194.toInt = 1 := by
          rcases (by omega : v964.toInt = 0 ∨ v964.toInt = 1 ∨ v964.toInt = 2 ∨ v964.toInt = 3) with q1 | q1 | q1 | q1
          · exact placed_ok (i := 1) f1098 f1102 (by omega) (by rw [hk1 (by omega)]; exact q1) (by rw [← q1]; exact hra1) (by decide) (f1195 q1)
          · exact placed_ok (i := 1) f1099 f1103 (by omega) (by rw [hk1 (by omega)]; exact q1) (by rw [← q1]; exact hra1) (by decide) (f1196 q1)
          · exact placed_ok (i := 1) f1100 f1104 (by omega) (by rw [hk1 (by omega)]; exact q1) (by rw [← q1]; exact hra1) (by decide) (f1197 q1)
          · exact placed_ok (i := 1) f1101 f1105 (by omega) (by rw [hk1 (by omega)]; exact q1) (by rw [← q1]; exact hra1) (by decide) (f1198 q1)
        clear f1195 f1196 f1197 f1198
        have c1200 : ¬ (rr_1194.toInt = 0) := by omega
        refine Go.st (fun _ k => XS.ifYes X1192.here hx rfl (pc0 := 331) (pc' := 336) rfl (hb hby at_331) rfl ((if0 _ _).trans (feq (neI rfl liI_0 c1200)).2) (by decide) (by decide) k) ?_
        show Go p e below s Q 7 28 (T1192.setTop (mkF m 336 #[.val (.int xa), .val (.int xb), .val (.int c0), .val (.int c1), .val (.int c2), .val (.int c3), .val (.int (4 : Int32)), .val (.int v946), .val (.int v955), .val (.int v964), .val (.int v973), .val (.int v982), .val (.ref b985), .val (.ref res_1085)] []))
        have f1201 := rng32 xa
        have f1202 := rng32 xb
        have f1203 := rng32 c0
        have f1204 := rng32 c1
        have f1205 := rng32 c2
        have f1206 := rng32 c3
        exact J1186 T1192 hg1161 _ (up X1192 (by decide) (by decide)) e1192 N1192 Kg1161 hfg1161_0 hfg1161_1 hfg1161_2 hfg1161_3 hfg1161_4 hfg1161_5 hfg1161_6
      ·
        refine Go.st (fun _ k => XS.icmpYes Xg1161.here hx rfl (pc0 := 313) (pc' := 336) rfl (hb hby at_313) rfl (flt (nltI liI_1 rfl c1187)).2.2.2 (by decide) (by decide) k) ?_
        show Go p e below s Q 7 28 (Tg1161.setTop (mkF m 336 #[.val (.int xa), .val (.int xb), .val (.int c0), .val (.int c1), .val (.int c2), .val (.int c3), .val (.int (4 : Int32)), .val (.int v946), .val (.int v955), .val (.int v964), .val (.int v973), .val (.int v982), .val (.ref b985), .val (.ref res_1085)] []))
        have f1207 := rng32 xa
        have f1208 := rng32 xb
        have f1209 := rng32 c0
        have f1210 := rng32 c1
        have f1211 := rng32 c2
        have f1212 := rng32 c3
        exact J1186 Tg1161 hg1161 _ (up Xg1161 (by decide) (by decide)) eg1161 Ng1161 Kg1161 hfg1161_0 hfg1161_1 hfg1161_2 hfg1161_3 hfg1161_4 hfg1161_5 hfg1161_6
    intro Tg1185 hg1185 Lgg1185 Xg1185 eg1185 Ng1185 Kg1185 hfg1185_0 hfg1185_1 hfg1185_2 hfg1185_3 hfg1185_4 hfg1185_5 hfg1185_6
    suffices J1214 : ∀ (Tg1213 : State) (hg1213 : Heap) (Lgg1213 : List Loc) (Xg1213 : Stand p l e room_1 s m #[(.int xa), (.int xb), (.int c0), (.int c1), (.int c2), (.int c3)] below meth c Tg1213 Lgg1213 7 28) (eg1213 : Tg1213.heap = hg1213) (Ng1213 : Fr n0 Lgg1213) (Kg1213 : Keep h0 hg1213 []) (hfg1213_0 : Exa Z hg1213 b985 "[I") (hfg1213_1 : Vec Z hg1213 b985 .int v946 (ints KK)) (hfg1213_2 : RV Z hg1213 res_1085 (4 : Int32) [(.ref w0_1086), (.ref w1_1089), (.ref w2_1092), (.ref w3_1095)]) (hfg1213_3 : Vec Z hg1213 w0_1086 .int l0_1087 (ints g0_1088)) (hfg1213_4 : Vec Z hg1213 w1_1089 .int l1_1090 (ints g1_1091)) (hfg1213_5 : Vec Z hg1213 w2_1092 .int l2_1093 (ints g2_1094)) (hfg1213_6 : Vec Z hg1213 w3_1095 .int l3_1096 (ints g3_1097)), Go p e below s Q 7 28 (Tg1213.setTop (mkF m 370 #[.val (.int xa), .val (.int xb), .val (.int c0), .val (.int c1), .val (.int c2), .val (.int c3), .val (.int (4 : Int32)), .val (.int v946), .val (.int v955), .val (.int v964), .val (.int v973), .val (.int v982), .val (.ref b985), .val (.ref res_1085)] [])) by
      refine Go.st (fun _ k => XS.iload Xg1185.here hx rfl (hb hby at_336) rfl k) ?_
      refine Go.st (fun _ k => XS.iconst Xg1185.here hx rfl (hb hby at_338) k) ?_
      by_cases c1215 : 2 < v946.toInt
      ·
        refine Go.st (fun _ k => XS.icmpNo Xg1185.here hx rfl (hb hby at_339) rfl (tlt (ltI liI_2 rfl c1215)).2.2.2 k) ?_
        refine Go.st (fun _ k => XS.aload Xg1185.here hx rfl (hb hby at_342) rfl rfl k) ?_
        refine Go.st (fun _ k => XS.iconst Xg1185.here hx rfl (hb hby at_344) k) ?_
        refine Go.st (fun _ k => XS.iload Xg1185.here hx rfl (hb hby at_345) rfl k) ?_
        show Go p e below s Q 7 28 (Tg1185.setTop (mkF m 347 #[.val (.int xa), .val (.int xb), .val (.int c0), .val (.int c1), .val (.int c2), .val (.int c3), .val (.int (4 : Int32)), .val (.int v946), .val (.int v955), .val (.int v964), .val (.int v973), .val (.int v982), .val (.ref b985), .val (.ref res_1085)] [(.int v973), (.int (2 : Int32)), (.ref res_1085)]))
        refine Go.st (fun _ k => XS.iload Xg1185.here hx rfl (hb hby at_347) rfl k) ?_
        refine Go.st (fun _ k => XS.iload Xg1185.here hx rfl (hb hby at_349) rfl k) ?_
        obtain ⟨_, _, ⟨T1216, L1216, k1216, n1216⟩, -, X1216, ⟨Lc1216, hQ1216, l1216, y1216, z1216⟩, st1216⟩ := Jvm.LawKit.callS Xg1185 hx (y := (⟨"com/example/rackwise/rackwise/RackCostsClientsOfRacksPinLaw", "same", "(II)I"⟩ : MethodName)) hown (mvT hZ (hw _ (List.mem_of_getElem? (i := 19) rfl))) (mvT hZ (hw _ (List.mem_of_getElem? (i := 20) rfl))) (mvT hZ (hw _ (List.mem_of_getElem? (i := 11) rfl))) (mvT hZ (hw _ (List.mem_of_getElem? (i := 21) rfl))) (by decide) (backOf (W := 3) (rm5 l Z a0 hw [] v955 v973 hg1185 n0 (Nat.le_trans Z0 Kg1185.1) ) hZ (hw _ (List.mem_of_getElem? (i := 21) rfl)) (hw _ (List.mem_of_getElem? (i := 11) rfl)) (by decide) (by decide)) (g := (mkF m 351 #[.val (.int xa), .val (.int xb), .val (.int c0), .val (.int c1), .val (.int c2), .val (.int c3), .val (.int (4 : Int32)), .val (.int v946), .val (.int v955), .val (.int v964), .val (.int v973), .val (.int v982), .val (.ref b985), .val (.ref res_1085)] [(.int v973), (.int v955), (.int v973), (.int (2 : Int32)), (.ref res_1085)])) rfl (by rw [hml]; rfl) (argsL := [(.int v955), (.int v973)]) (rest := [(.int v973), (.int (2 : Int32)), (.ref res_1085)]) (lenOf pd_4 rfl) rfl (by show 2 * 0 + _ ≤ _; exact Nat.le_of_eq rfl) (hb hby at_351) (fun _ _ => ⟨rfl, eg1185, (by decide : 7 + 0 ≤ _), (by decide : 28 + 0 ≤ _)⟩)
        dsimp only [Pt.U, Pt.locs, Pt.cells, Pt.slots] at X1216 l1216 y1216 z1216 st1216 hQ1216
        subst l1216 y1216 z1216
        obtain ⟨rr_1217, rfl, N1216q, f1218, e1216⟩ := hQ1216
        have N1216 := Fr.app Ng1185 N1216q
        refine Go.st st1216 ?_
        show Go p e below s Q 7 28 (T1216.setTop (mkF m 354 #[.val (.int xa), .val (.int xb), .val (.int c0), .val (.int c1), .val (.int c2), .val (.int c3), .val (.int (4 : Int32)), .val (.int v946), .val (.int v955), .val (.int v964), .val (.int v973), .val (.int v982), .val (.ref b985), .val (.ref res_1085)] [(.int rr_1217), (.int v973), (.int (2 : Int32)), (.ref res_1085)]))
        have f1219 := rng32 rr_1217
        refine Go.st (fun _ k => XS.iload X1216.here hx rfl (hb hby at_354) rfl k) ?_
        refine Go.st (fun _ k => XS.iload X1216.here hx rfl (hb hby at_356) rfl k) ?_
        obtain ⟨_, _, ⟨T1220, L1220, k1220, n1220⟩, -, X1220, ⟨Lc1220, hQ1220, l1220, y1220, z1220⟩, st1220⟩ := Jvm.LawKit.callS X1216 hx (y := (⟨"com/example/rackwise/rackwise/RackCostsClientsOfRacksPinLaw", "same", "(II)I"⟩ : MethodName)) hown (mvT hZ (hw _ (List.mem_of_getElem? (i := 19) rfl))) (mvT hZ (hw _ (List.mem_of_getElem? (i := 20) rfl))) (mvT hZ (hw _ (List.mem_of_getElem? (i := 11) rfl))) (mvT hZ (hw _ (List.mem_of_getElem? (i := 21) rfl))) (by decide) (backOf (W := 4) (rm5 l Z a0 hw [] v964 v973 hg1185 n0 (Nat.le_trans Z0 Kg1185.1) ) hZ (hw _ (List.mem_of_getElem? (i := 21) rfl)) (hw _ (List.mem_of_getElem? (i := 11) rfl)) (by decide) (by decide)) (g := (mkF m 358 #[.val (.int xa), .val (.int xb), .val (.int c0), .val (.int c1), .val (.int c2), .val (.int c3), .val (.int (4 : Int32)), .val (.int v946), .val (.int v955), .val (.int v964), .val (.int v973), .val (.int v982), .val (.ref b985), .val (.ref res_1085)] [(.int v973), (.int v964), (.int rr_1217), (.int v973), (.int (2 : Int32)), (.ref res_1085)])) rfl (by rw [hml]; rfl) (argsL := [(.int v964), (.int v973)]) (rest := [(.int rr_1217), (.int v973), (.int (2 : Int32)), (.ref res_1085)]) (lenOf pd_4 rfl) rfl (by show 2 * 0 + _ ≤ _; exact Nat.le_of_eq rfl) (hb hby at_358) (fun _ _ => ⟨rfl, e1216, (by decide : 7 + 0 ≤ _), (by decide : 28 + 0 ≤ _)⟩)
        dsimp only [Pt.U, Pt.locs, Pt.cells, Pt.slots] at X1220 l1220 y1220 z1220 st1220 hQ1220
        subst l1220 y1220 z1220
        obtain ⟨rr_1221, rfl, N1220q, f1222, e1220⟩ := hQ1220
        have N1220 := Fr.app N1216 N1220q
        refine Go.st st1220 ?_
        show Go p e below s Q 7 28 (T1220.setTop (mkF m 361 #[.val (.int xa), .val (.int xb), .val (.int c0), .val (.int c1), .val (.int c2), .val (.int c3), .val (.int (4 : Int32)), .val (.int v946), .val (.int v955), .val (.int v964), .val (.int v973), .val (.int v982), .val (.ref b985), .val (.ref res_1085)] [(.int rr_1221), (.int rr_1217), (.int v973), (.int (2 : Int32)), (.ref res_1085)]))
        have f1223 := rng32 rr_1221
        refine Go.st (fun _ k => XS.iadd X1220.here hx rfl (hb hby at_361) rfl k) ?_
        show Go p e below s Q 7 28 (T1220.setTop (mkF m 362 #[.val (.int xa), .val (.int xb), .val (.int c0), .val (.int c1), .val (.int c2), .val (.int c3), .val (.int (4 : Int32)), .val (.int v946), .val (.int v955), .val (.int v964), .val (.int v973), .val (.int v982), .val (.ref b985), .val (.ref res_1085)] [(.int (rr_1217 + rr_1221)), (.int v973), (.int (2 : Int32)), (.ref res_1085)]))
        have f1224 := c_iadd rr_1217 rr_1221
        have f1225 := rng32 (rr_1217 + rr_1221)
        have hra2 : (rr_1217 + rr_1221).toInt = cnt KK 2 v973.toInt := by
          have i0 := ind_c (KK 0).toInt v973.toInt
          have j0 := hk0 (by omega)
          have i1 := ind_c (KK 1).toInt v973.toInt
          have j1 := hk1 (by omega)
          have e0 : cnt KK 0 v973.toInt = 0 := rfl
          have e1 : cnt KK 1 v973.toInt = cnt KK 0 v973.toInt + ind (KK 0).toInt v973.toInt := rfl
          have e2 : cnt KK 2 v973.toInt = cnt KK 1 v973.toInt + ind (KK 1).toInt v973.toInt := rfl
          omega
        have hrb2 := cnt_rng KK 2 v973.toInt
        have p1227 : 0 ≤ v973.toInt ∧ v973.toInt < 4 ∧ 0 ≤ (rr_1217 + rr_1221).toInt := by omega
        obtain ⟨_, _, ⟨T1226, L1226, k1226, n1226⟩, -, X1226, ⟨Lc1226, hQ1226, l1226, y1226, z1226⟩, st1226⟩ := Jvm.LawKit.callS X1220 hx (y := (⟨"com/example/rackwise/rackwise/RackCostsClientsOfRacksPinLaw", "placed", "([[IIII)Z"⟩ : MethodName)) hown (mvT hZ (hw _ (List.mem_of_getElem? (i := 16) rfl))) (mvT hZ (hw _ (List.mem_of_getElem? (i := 17) rfl))) (mvT hZ (hw _ (List.mem_of_getElem? (i := 11) rfl))) (mvT hZ (hw _ (List.mem_of_getElem? (i := 18) rfl))) (by decide) (backOf (W := 0) (rmp4 l Z a0 hw [] res_1085 (2 : Int32) v973 (rr_1217 + rr_1221) w0_1086 l0_1087 g0_1088 w1_1089 l1_1090 g1_1091 w2_1092 l2_1093 g2_1094 w3_1095 l3_1096 g3_1097 hg1185 n0 (Nat.le_trans Z0 Kg1185.1) hfg1185_2 hfg1185_3 hfg1185_4 hfg1185_5 hfg1185_6 p1227) hZ (hw _ (List.mem_of_getElem? (i := 18) rfl)) (hw _ (List.mem_of_getElem? (i := 11) rfl)) (by decide) (by decide)) (g := (mkF m 362 #[.val (.int xa), .val (.int xb), .val (.int c0), .val (.int c1), .val (.int c2), .val (.int c3), .val (.int (4 : Int32)), .val (.int v946), .val (.int v955), .val (.int v964), .val (.int v973), .val (.int v982), .val (.ref b985), .val (.ref res_1085)] [(.int (rr_1217 + rr_1221)), (.int v973), (.int (2 : Int32)), (.ref res_1085)])) rfl (by rw [hml]; rfl) (argsL := [(.ref res_1085), (.int (2 : Int32)), (.int v973), (.int (rr_1217 + rr_1221))]) (rest := []) (lenOf pd_3 rfl) rfl (by show 2 * 0 + _ ≤ _; exact Nat.le_of_eq rfl) (hb hby at_362) (fun _ _ => ⟨rfl, e1220, (by decide : 7 + 0 ≤ _), (by decide : 28 + 0 ≤ _)⟩)
        dsimp only [Pt.U, Pt.locs, Pt.cells, Pt.slots] at X1226 l1226 y1226 z1226 st1226 hQ1226
        subst l1226 y1226 z1226
        obtain ⟨rr_1228, rfl, N1226q, f1229, f1230, f1231, f1232, e1226⟩ := hQ1226
        have N1226 := Fr.app N1220 N1226q
        refine Go.st st1226 ?_
        show Go p e below s Q 7 28 (T1226.setTop (mkF m 365 #[.val (.int xa), .val (.int xb), .val (.int c0), .val (.int c1), .val (.int c2), .val (.int c3), .val (.int (4 : Int32)), .val (.int v946), .val (.int v955), .val (.int v964), .val (.int v973), .val (.int v982), .val (.ref b985), .val (.ref res_1085)] [(.int rr_1228)]))
        have f1233 := rng32 rr_1228
        have hone2 : rr_1228.toInt = 1 := by
          rcases (by omega : v973.toInt = 0 ∨ v973.toInt = 1 ∨ v973.toInt = 2 ∨ v973.toInt = 3) with q1 | q1 | q1 | q1
          · exact placed_ok (i := 2) f1098 f1102 (by omega) (by rw [hk2 (by omega)]; exact q1) (by rw [← q1]; exact hra2) (by decide) (f1229 q1)
          · exact placed_ok (i := 2) f1099 f1103 (by omega) (by rw [hk2 (by omega)]; exact q1) (by rw [← q1]; exact hra2) (by decide) (f1230 q1)
          · exact placed_ok (i := 2) f1100 f1104 (by omega) (by rw [hk2 (by omega)]; exact q1) (by rw [← q1]; exact hra2) (by decide) (f1231 q1)
          · exact placed_ok (i := 2) f1101 f1105 (by omega) (by rw [hk2 (by omega)]; exact q1) (by rw [← q1]; exact hra2) (by decide) (f1232 q1)
        clear f1229 f1230 f1231 f1232
        have c1234 : ¬ (rr_1228.toInt = 0) := by omega
        refine Go.st (fun _ k => XS.ifYes X1226.here hx rfl (pc0 := 365) (pc' := 370) rfl (hb hby at_365) rfl ((if0 _ _).trans (feq (neI rfl liI_0 c1234)).2) (by decide) (by decide) k) ?_
        show Go p e below s Q 7 28 (T1226.setTop (mkF m 370 #[.val (.int xa), .val (.int xb), .val (.int c0), .val (.int c1), .val (.int c2), .val (.int c3), .val (.int (4 : Int32)), .val (.int v946), .val (.int v955), .val (.int v964), .val (.int v973), .val (.int v982), .val (.ref b985), .val (.ref res_1085)] []))
        have f1235 := rng32 xa
        have f1236 := rng32 xb
        have f1237 := rng32 c0
        have f1238 := rng32 c1
        have f1239 := rng32 c2
        have f1240 := rng32 c3
        exact J1214 T1226 hg1185 _ (up X1226 (by decide) (by decide)) e1226 N1226 Kg1185 hfg1185_0 hfg1185_1 hfg1185_2 hfg1185_3 hfg1185_4 hfg1185_5 hfg1185_6
      ·
        refine Go.st (fun _ k => XS.icmpYes Xg1185.here hx rfl (pc0 := 339) (pc' := 370) rfl (hb hby at_339) rfl (flt (nltI liI_2 rfl c1215)).2.2.2 (by decide) (by decide) k) ?_
        show Go p e below s Q 7 28 (Tg1185.setTop (mkF m 370 #[.val (.int xa), .val (.int xb), .val (.int c0), .val (.int c1), .val (.int c2), .val (.int c3), .val (.int (4 : Int32)), .val (.int v946), .val (.int v955), .val (.int v964), .val (.int v973), .val (.int v982), .val (.ref b985), .val (.ref res_1085)] []))
        have f1241 := rng32 xa
        have f1242 := rng32 xb
        have f1243 := rng32 c0
        have f1244 := rng32 c1
        have f1245 := rng32 c2
        have f1246 := rng32 c3
        exact J1214 Tg1185 hg1185 _ (up Xg1185 (by decide) (by decide)) eg1185 Ng1185 Kg1185 hfg1185_0 hfg1185_1 hfg1185_2 hfg1185_3 hfg1185_4 hfg1185_5 hfg1185_6
    intro Tg1213 hg1213 Lgg1213 Xg1213 eg1213 Ng1213 Kg1213 hfg1213_0 hfg1213_1 hfg1213_2 hfg1213_3 hfg1213_4 hfg1213_5 hfg1213_6
    suffices J1248 : ∀ (Tg1247 : State) (hg1247 : Heap) (Lgg1247 : List Loc) (Xg1247 : Stand p l e room_1 s m #[(.int xa), (.int xb), (.int c0), (.int c1), (.int c2), (.int c3)] below meth c Tg1247 Lgg1247 7 28) (eg1247 : Tg1247.heap = hg1247) (Ng1247 : Fr n0 Lgg1247) (Kg1247 : Keep h0 hg1247 []) (hfg1247_0 : Exa Z hg1247 b985 "[I") (hfg1247_1 : Vec Z hg1247 b985 .int v946 (ints KK)) (hfg1247_2 : RV Z hg1247 res_1085 (4 : Int32) [(.ref w0_1086), (.ref w1_1089), (.ref w2_1092), (.ref w3_1095)]) (hfg1247_3 : Vec Z hg1247 w0_1086 .int l0_1087 (ints g0_1088)) (hfg1247_4 : Vec Z hg1247 w1_1089 .int l1_1090 (ints g1_1091)) (hfg1247_5 : Vec Z hg1247 w2_1092 .int l2_1093 (ints g2_1094)) (hfg1247_6 : Vec Z hg1247 w3_1095 .int l3_1096 (ints g3_1097)), Go p e below s Q 7 28 (Tg1247.setTop (mkF m 412 #[.val (.int xa), .val (.int xb), .val (.int c0), .val (.int c1), .val (.int c2), .val (.int c3), .val (.int (4 : Int32)), .val (.int v946), .val (.int v955), .val (.int v964), .val (.int v973), .val (.int v982), .val (.ref b985), .val (.ref res_1085)] [])) by
      refine Go.st (fun _ k => XS.iload Xg1213.here hx rfl (hb hby at_370) rfl k) ?_
      refine Go.st (fun _ k => XS.iconst Xg1213.here hx rfl (hb hby at_372) k) ?_
      by_cases c1249 : 3 < v946.toInt
      ·
        refine Go.st (fun _ k => XS.icmpNo Xg1213.here hx rfl (hb hby at_373) rfl (tlt (ltI liI_3 rfl c1249)).2.2.2 k) ?_
        refine Go.st (fun _ k => XS.aload Xg1213.here hx rfl (hb hby at_376) rfl rfl k) ?_
        refine Go.st (fun _ k => XS.iconst Xg1213.here hx rfl (hb hby at_378) k) ?_
        refine Go.st (fun _ k => XS.iload Xg1213.here hx rfl (hb hby at_379) rfl k) ?_
        show Go p e below s Q 7 28 (Tg1213.setTop (mkF m 381 #[.val (.int xa), .val (.int xb), .val (.int c0), .val (.int c1), .val (.int c2), .val (.int c3), .val (.int (4 : Int32)), .val (.int v946), .val (.int v955), .val (.int v964), .val (.int v973), .val (.int v982), .val (.ref b985), .val (.ref res_1085)] [(.int v982), (.int (3 : Int32)), (.ref res_1085)]))
        refine Go.st (fun _ k => XS.iload Xg1213.here hx rfl (hb hby at_381) rfl k) ?_
        refine Go.st (fun _ k => XS.iload Xg1213.here hx rfl (hb hby at_383) rfl k) ?_
        obtain ⟨_, _, ⟨T1250, L1250, k1250, n1250⟩, -, X1250, ⟨Lc1250, hQ1250, l1250, y1250, z1250⟩, st1250⟩ := Jvm.LawKit.callS Xg1213 hx (y := (⟨"com/example/rackwise/rackwise/RackCostsClientsOfRacksPinLaw", "same", "(II)I"⟩ : MethodName)) hown (mvT hZ (hw _ (List.mem_of_getElem? (i := 19) rfl))) (mvT hZ (hw _ (List.mem_of_getElem? (i := 20) rfl))) (mvT hZ (hw _ (List.mem_of_getElem? (i := 11) rfl))) (mvT hZ (hw _ (List.mem_of_getElem? (i := 21) rfl))) (by decide) (backOf (W := 3) (rm5 l Z a0 hw [] v955 v982 hg1213 n0 (Nat.le_trans Z0 Kg1213.1) ) hZ (hw _ (List.mem_of_getElem? (i := 21) rfl)) (hw _ (List.mem_of_getElem? (i := 11) rfl)) (by decide) (by decide)) (g := (mkF m 385 #[.val (.int xa), .val (.int xb), .val (.int c0), .val (.int c1), .val (.int c2), .val (.int c3), .val (.int (4 : Int32)), .val (.int v946), .val (.int v955), .val (.int v964), .val (.int v973), .val (.int v982), .val (.ref b985), .val (.ref res_1085)] [(.int v982), (.int v955), (.int v982), (.int (3 : Int32)), (.ref res_1085)])) rfl (by rw [hml]; rfl) (argsL := [(.int v955), (.int v982)]) (rest := [(.int v982), (.int (3 : Int32)), (.ref res_1085)]) (lenOf pd_4 rfl) rfl (by show 2 * 0 + _ ≤ _; exact Nat.le_of_eq rfl) (hb hby at_385) (fun _ _ => ⟨rfl, eg1213, (by decide : 7 + 0 ≤ _), (by decide : 28 + 0 ≤ _)⟩)
        dsimp only [Pt.U, Pt.locs, Pt.cells, Pt.slots] at X1250 l1250 y1250 z1250 st1250 hQ1250
        subst l1250 y1250 z1250
        obtain ⟨rr_1251, rfl, N1250q, f1252, e1250⟩ := hQ1250
        have N1250 := Fr.app Ng1213 N1250q
        refine Go.st st1250 ?_
        show Go p e below s Q 7 28 (T1250.setTop (mkF m 388 #[.val (.int xa), .val (.int xb), .val (.int c0), .val (.int c1), .val (.int c2), .val (.int c3), .val (.int (4 : Int32)), .val (.int v946), .val (.int v955), .val (.int v964), .val (.int v973), .val (.int v982), .val (.ref b985), .val (.ref res_1085)] [(.int rr_1251), (.int v982), (.int (3 : Int32)), (.ref res_1085)]))
        have f1253 := rng32 rr_1251
        refine Go.st (fun _ k => XS.iload X1250.here hx rfl (hb hby at_388) rfl k) ?_
        refine Go.st (fun _ k => XS.iload X1250.here hx rfl (hb hby at_390) rfl k) ?_
        obtain ⟨_, _, ⟨T1254, L1254, k1254, n1254⟩, -, X1254, ⟨Lc1254, hQ1254, l1254, y1254, z1254⟩, st1254⟩ := Jvm.LawKit.callS X1250 hx (y := (⟨"com/example/rackwise/rackwise/RackCostsClientsOfRacksPinLaw", "same", "(II)I"⟩ : MethodName)) hown (mvT hZ (hw _ (List.mem_of_getElem? (i := 19) rfl))) (mvT hZ (hw _ (List.mem_of_getElem? (i := 20) rfl))) (mvT hZ (hw _ (List.mem_of_getElem? (i := 11) rfl))) (mvT hZ (hw _ (List.mem_of_getElem? (i := 21) rfl))) (by decide) (backOf (W := 4) (rm5 l Z a0 hw [] v964 v982 hg1213 n0 (Nat.le_trans Z0 Kg1213.1) ) hZ (hw _ (List.mem_of_getElem? (i := 21) rfl)) (hw _ (List.mem_of_getElem? (i := 11) rfl)) (by decide) (by decide)) (g := (mkF m 392 #[.val (.int xa), .val (.int xb), .val (.int c0), .val (.int c1), .val (.int c2), .val (.int c3), .val (.int (4 : Int32)), .val (.int v946), .val (.int v955), .val (.int v964), .val (.int v973), .val (.int v982), .val (.ref b985), .val (.ref res_1085)] [(.int v982), (.int v964), (.int rr_1251), (.int v982), (.int (3 : Int32)), (.ref res_1085)])) rfl (by rw [hml]; rfl) (argsL := [(.int v964), (.int v982)]) (rest := [(.int rr_1251), (.int v982), (.int (3 : Int32)), (.ref res_1085)]) (lenOf pd_4 rfl) rfl (by show 2 * 0 + _ ≤ _; exact Nat.le_of_eq rfl) (hb hby at_392) (fun _ _ => ⟨rfl, e1250, (by decide : 7 + 0 ≤ _), (by decide : 28 + 0 ≤ _)⟩)
        dsimp only [Pt.U, Pt.locs, Pt.cells, Pt.slots] at X1254 l1254 y1254 z1254 st1254 hQ1254
        subst l1254 y1254 z1254
        obtain ⟨rr_1255, rfl, N1254q, f1256, e1254⟩ := hQ1254
        have N1254 := Fr.app N1250 N1254q
        refine Go.st st1254 ?_
        show Go p e below s Q 7 28 (T1254.setTop (mkF m 395 #[.val (.int xa), .val (.int xb), .val (.int c0), .val (.int c1), .val (.int c2), .val (.int c3), .val (.int (4 : Int32)), .val (.int v946), .val (.int v955), .val (.int v964), .val (.int v973), .val (.int v982), .val (.ref b985), .val (.ref res_1085)] [(.int rr_1255), (.int rr_1251), (.int v982), (.int (3 : Int32)), (.ref res_1085)]))
        have f1257 := rng32 rr_1255
        refine Go.st (fun _ k => XS.iadd X1254.here hx rfl (hb hby at_395) rfl k) ?_
        refine Go.st (fun _ k => XS.iload X1254.here hx rfl (hb hby at_396) rfl k) ?_
        refine Go.st (fun _ k => XS.iload X1254.here hx rfl (hb hby at_398) rfl k) ?_
        obtain ⟨_, _, ⟨T1258, L1258, k1258, n1258⟩, -, X1258, ⟨Lc1258, hQ1258, l1258, y1258, z1258⟩, st1258⟩ := Jvm.LawKit.callS X1254 hx (y := (⟨"com/example/rackwise/rackwise/RackCostsClientsOfRacksPinLaw", "same", "(II)I"⟩ : MethodName)) hown (mvT hZ (hw _ (List.mem_of_getElem? (i := 19) rfl))) (mvT hZ (hw _ (List.mem_of_getElem? (i := 20) rfl))) (mvT hZ (hw _ (List.mem_of_getElem? (i := 11) rfl))) (mvT hZ (hw _ (List.mem_of_getElem? (i := 21) rfl))) (by decide) (backOf (W := 4) (rm5 l Z a0 hw [] v973 v982 hg1213 n0 (Nat.le_trans Z0 Kg1213.1) ) hZ (hw _ (List.mem_of_getElem? (i := 21) rfl)) (hw _ (List.mem_of_getElem? (i := 11) rfl)) (by decide) (by decide)) (g := (mkF m 400 #[.val (.int xa), .val (.int xb), .val (.int c0), .val (.int c1), .val (.int c2), .val (.int c3), .val (.int (4 : Int32)), .val (.int v946), .val (.int v955), .val (.int v964), .val (.int v973), .val (.int v982), .val (.ref b985), .val (.ref res_1085)] [(.int v982), (.int v973), (.int (rr_1251 + rr_1255)), (.int v982), (.int (3 : Int32)), (.ref res_1085)])) rfl (by rw [hml]; rfl) (argsL := [(.int v973), (.int v982)]) (rest := [(.int (rr_1251 + rr_1255)), (.int v982), (.int (3 : Int32)), (.ref res_1085)]) (lenOf pd_4 rfl) rfl (by show 2 * 0 + _ ≤ _; exact Nat.le_of_eq rfl) (hb hby at_400) (fun _ _ => ⟨rfl, e1254, (by decide : 7 + 0 ≤ _), (by decide : 28 + 0 ≤ _)⟩)
        dsimp only [Pt.U, Pt.locs, Pt.cells, Pt.slots] at X1258 l1258 y1258 z1258 st1258 hQ1258
        subst l1258 y1258 z1258
        obtain ⟨rr_1259, rfl, N1258q, f1260, e1258⟩ := hQ1258
        have N1258 := Fr.app N1254 N1258q
        refine Go.st st1258 ?_
        show Go p e below s Q 7 28 (T1258.setTop (mkF m 403 #[.val (.int xa), .val (.int xb), .val (.int c0), .val (.int c1), .val (.int c2), .val (.int c3), .val (.int (4 : Int32)), .val (.int v946), .val (.int v955), .val (.int v964), .val (.int v973), .val (.int v982), .val (.ref b985), .val (.ref res_1085)] [(.int rr_1259), (.int (rr_1251 + rr_1255)), (.int v982), (.int (3 : Int32)), (.ref res_1085)]))
        have f1261 := rng32 rr_1259
        refine Go.st (fun _ k => XS.iadd X1258.here hx rfl (hb hby at_403) rfl k) ?_
        show Go p e below s Q 7 28 (T1258.setTop (mkF m 404 #[.val (.int xa), .val (.int xb), .val (.int c0), .val (.int c1), .val (.int c2), .val (.int c3), .val (.int (4 : Int32)), .val (.int v946), .val (.int v955), .val (.int v964), .val (.int v973), .val (.int v982), .val (.ref b985), .val (.ref res_1085)] [(.int ((rr_1251 + rr_1255) + rr_1259)), (.int v982), (.int (3 : Int32)), (.ref res_1085)]))
        have f1262 := c_iadd rr_1251 rr_1255
        have f1263 := rng32 (rr_1251 + rr_1255)
        have f1264 := c_iadd (rr_1251 + rr_1255) rr_1259
        have f1265 := rng32 ((rr_1251 + rr_1255) + rr_1259)
        have hra3 : ((rr_1251 + rr_1255) + rr_1259).toInt = cnt KK 3 v982.toInt := by
          have i0 := ind_c (KK 0).toInt v982.toInt
          have j0 := hk0 (by omega)
          have i1 := ind_c (KK 1).toInt v982.toInt
          have j1 := hk1 (by omega)
          have i2 := ind_c (KK 2).toInt v982.toInt
          have j2 := hk2 (by omega)
          have e0 : cnt KK 0 v982.toInt = 0 := rfl
          have e1 : cnt KK 1 v982.toInt = cnt KK 0 v982.toInt + ind (KK 0).toInt v982.toInt := rfl
          have e2 : cnt KK 2 v982.toInt = cnt KK 1 v982.toInt + ind (KK 1).toInt v982.toInt := rfl
          have e3 : cnt KK 3 v982.toInt = cnt KK 2 v982.toInt + ind (KK 2).toInt v982.toInt := rfl
          omega
        have hrb3 := cnt_rng KK 3 v982.toInt
        have p1267 : 0 ≤ v982.toInt ∧ v982.toInt < 4 ∧ 0 ≤ ((rr_1251 + rr_1255) + rr_1259).toInt := by omega
        obtain ⟨_, _, ⟨T1266, L1266, k1266, n1266⟩, -, X1266, ⟨Lc1266, hQ1266, l1266, y1266, z1266⟩, st1266⟩ := Jvm.LawKit.callS X1258 hx (y := (⟨"com/example/rackwise/rackwise/RackCostsClientsOfRacksPinLaw", "placed", "([[IIII)Z"⟩ : MethodName)) hown (mvT hZ (hw _ (List.mem_of_getElem? (i := 16) rfl))) (mvT hZ (hw _ (List.mem_of_getElem? (i := 17) rfl))) (mvT hZ (hw _ (List.mem_of_getElem? (i := 11) rfl))) (mvT hZ (hw _ (List.mem_of_getElem? (i := 18) rfl))) (by decide) (backOf (W := 0) (rmp4 l Z a0 hw [] res_1085 (3 : Int32) v982 ((rr_1251 + rr_1255) + rr_1259) w0_1086 l0_1087 g0_1088 w1_1089 l1_1090 g1_1091 w2_1092 l2_1093 g2_1094 w3_1095 l3_1096 g3_1097 hg1213 n0 (Nat.le_trans Z0 Kg1213.1) hfg1213_2 hfg1213_3 hfg1213_4 hfg1213_5 hfg1213_6 p1267) hZ (hw _ (List.mem_of_getElem? (i := 18) rfl)) (hw _ (List.mem_of_getElem? (i := 11) rfl)) (by decide) (by decide)) (g := (mkF m 404 #[.val (.int xa), .val (.int xb), .val (.int c0), .val (.int c1), .val (.int c2), .val (.int c3), .val (.int (4 : Int32)), .val (.int v946), .val (.int v955), .val (.int v964), .val (.int v973), .val (.int v982), .val (.ref b985), .val (.ref res_1085)] [(.int ((rr_1251 + rr_1255) + rr_1259)), (.int v982), (.int (3 : Int32)), (.ref res_1085)])) rfl (by rw [hml]; rfl) (argsL := [(.ref res_1085), (.int (3 : Int32)), (.int v982), (.int ((rr_1251 + rr_1255) + rr_1259))]) (rest := []) (lenOf pd_3 rfl) rfl (by show 2 * 0 + _ ≤ _; exact Nat.le_of_eq rfl) (hb hby at_404) (fun _ _ => ⟨rfl, e1258, (by decide : 7 + 0 ≤ _), (by decide : 28 + 0 ≤ _)⟩)
        dsimp only [Pt.U, Pt.locs, Pt.cells, Pt.slots] at X1266 l1266 y1266 z1266 st1266 hQ1266
        subst l1266 y1266 z1266
        obtain ⟨rr_1268, rfl, N1266q, f1269, f1270, f1271, f1272, e1266⟩ := hQ1266
        have N1266 := Fr.app N1258 N1266q
        refine Go.st st1266 ?_
        show Go p e below s Q 7 28 (T1266.setTop (mkF m 407 #[.val (.int xa), .val (.int xb), .val (.int c0), .val (.int c1), .val (.int c2), .val (.int c3), .val (.int (4 : Int32)), .val (.int v946), .val (.int v955), .val (.int v964), .val (.int v973), .val (.int v982), .val (.ref b985), .val (.ref res_1085)] [(.int rr_1268)]))
        have f1273 := rng32 rr_1268
        have hone3 : rr_1268.toInt = 1 := by
          rcases (by omega : v982.toInt = 0 ∨ v982.toInt = 1 ∨ v982.toInt = 2 ∨ v982.toInt = 3) with q1 | q1 | q1 | q1
          · exact placed_ok (i := 3) f1098 f1102 (by omega) (by rw [hk3 (by omega)]; exact q1) (by rw [← q1]; exact hra3) (by decide) (f1269 q1)
          · exact placed_ok (i := 3) f1099 f1103 (by omega) (by rw [hk3 (by omega)]; exact q1) (by rw [← q1]; exact hra3) (by decide) (f1270 q1)
          · exact placed_ok (i := 3) f1100 f1104 (by omega) (by rw [hk3 (by omega)]; exact q1) (by rw [← q1]; exact hra3) (by decide) (f1271 q1)
          · exact placed_ok (i := 3) f1101 f1105 (by omega) (by rw [hk3 (by omega)]; exact q1) (by rw [← q1]; exact hra3) (by decide) (f1272 q1)
        clear f1269 f1270 f1271 f1272
        have c1274 : ¬ (rr_1268.toInt = 0) := by omega
        refine Go.st (fun _ k => XS.ifYes X1266.here hx rfl (pc0 := 407) (pc' := 412) rfl (hb hby at_407) rfl ((if0 _ _).trans (feq (neI rfl liI_0 c1274)).2) (by decide) (by decide) k) ?_
        show Go p e below s Q 7 28 (T1266.setTop (mkF m 412 #[.val (.int xa), .val (.int xb), .val (.int c0), .val (.int c1), .val (.int c2), .val (.int c3), .val (.int (4 : Int32)), .val (.int v946), .val (.int v955), .val (.int v964), .val (.int v973), .val (.int v982), .val (.ref b985), .val (.ref res_1085)] []))
        have f1275 := rng32 xa
        have f1276 := rng32 xb
        have f1277 := rng32 c0
        have f1278 := rng32 c1
        have f1279 := rng32 c2
        have f1280 := rng32 c3
        exact J1248 T1266 hg1213 _ (up X1266 (by decide) (by decide)) e1266 N1266 Kg1213 hfg1213_0 hfg1213_1 hfg1213_2 hfg1213_3 hfg1213_4 hfg1213_5 hfg1213_6
      ·
        refine Go.st (fun _ k => XS.icmpYes Xg1213.here hx rfl (pc0 := 373) (pc' := 412) rfl (hb hby at_373) rfl (flt (nltI liI_3 rfl c1249)).2.2.2 (by decide) (by decide) k) ?_
        show Go p e below s Q 7 28 (Tg1213.setTop (mkF m 412 #[.val (.int xa), .val (.int xb), .val (.int c0), .val (.int c1), .val (.int c2), .val (.int c3), .val (.int (4 : Int32)), .val (.int v946), .val (.int v955), .val (.int v964), .val (.int v973), .val (.int v982), .val (.ref b985), .val (.ref res_1085)] []))
        have f1281 := rng32 xa
        have f1282 := rng32 xb
        have f1283 := rng32 c0
        have f1284 := rng32 c1
        have f1285 := rng32 c2
        have f1286 := rng32 c3
        exact J1248 Tg1213 hg1213 _ (up Xg1213 (by decide) (by decide)) eg1213 Ng1213 Kg1213 hfg1213_0 hfg1213_1 hfg1213_2 hfg1213_3 hfg1213_4 hfg1213_5 hfg1213_6
    intro Tg1247 hg1247 Lgg1247 Xg1247 eg1247 Ng1247 Kg1247 hfg1247_0 hfg1247_1 hfg1247_2 hfg1247_3 hfg1247_4 hfg1247_5 hfg1247_6
    refine Go.st (fun _ k => XS.iconst Xg1247.here hx rfl (hb hby at_412) k) ?_
    show Go p e below s Q 7 28 (Tg1247.setTop (mkF m 413 #[.val (.int xa), .val (.int xb), .val (.int c0), .val (.int c1), .val (.int c2), .val (.int c3), .val (.int (4 : Int32)), .val (.int v946), .val (.int v955), .val (.int v964), .val (.int v973), .val (.int v982), .val (.ref b985), .val (.ref res_1085)] [(.int (1 : Int32))]))
    exact Go.retN Xg1247 hx hlk (by simp) Bd.returns (hb hby at_413) (z' := (1 : Int32)) (by decide) (by rw [← hQ, eg1247]; exact ⟨rfl, Ng1247, Kg1247⟩) (by decide) (by decide)
set_option maxRecDepth 65536 in
set_option maxHeartbeats 40000000 in
theorem comes_1 {Post : Tables → Env → Array Value → State → Outcome → State → Prop} (hpost : ∀ tb e args s v u, (limb_1_1.after args s (.returned v) u = true ∧ limb_1_2.after args s (.returned v) u = true ∧ True) → FrameEnd s (.returned v) u (Jvm.fieldLocs frame_1_writes args s ++ Jvm.arrayLocs frame_1_arrays args s ++ Jvm.staticLocs frame_1_statics s) 24 128 → Post tb e args s (.returned v) u) :
    ArmFor flags0 classFile x code maxLocals ret World_1 tables_1 room_1 Calls_1 rest_1 Pre_1 Post := by
  intro l hfl _ _ p e ha hc hk s m args below hf hA hF happ hP
  obtain ⟨hcalls, hrest, hpre⟩ := hP
  obtain ⟨-, -, -, hnamed, -, -, -, hat⟩ := (Spec.applies_iff hf).mp happ
  obtain ⟨hg, hn⟩ := and_e (Cond.before_iff.mp (show (Jvm.Cond.and given_1 narrow_1).before args s = true from hpre))
  obtain ⟨hcount, g0⟩ := and_e hg
  obtain ⟨a0, g1⟩ := and_e g0
  obtain ⟨a1, g2⟩ := and_e g1
  obtain ⟨a2, g3⟩ := and_e g2
  obtain ⟨a3, g4⟩ := and_e g3
  obtain ⟨a4, g5⟩ := and_e g4
  obtain ⟨w0, w1, w2, w3, w4, w5, rfl⟩ : ∃ w0 w1 w2 w3 w4 w5 : Value, args = #[w0, w1, w2, w3, w4, w5] := by
    have hs : args.size = 6 := by simpa [Cond.value, given_1] using hcount
    obtain ⟨L⟩ := args
    match L, hs with
    | [w0, w1, w2, w3, w4, w5], _ => exact ⟨w0, w1, w2, w3, w4, w5, rfl⟩
  have hw := fun d (hd : d ∈ tables_1) => atoms_spec (ws := Jvm.Cond.code x code maxLocals ret :: tables_1) hat d (List.mem_cons_of_mem _ hd)
  have hfit : Fit s := fun {y c} hc i hi => by
    obtain ⟨ha, rfl⟩ := Array.getElem?_eq_some_iff.mp hc
    have q := List.all_eq_true.mp ((Array.all_eq_true_iff_forall_mem.mp hF) _ (Array.getElem_mem ha)) i (List.mem_range.mpr hi)
    simpa [Array.getElem?_eq_getElem hi] using q
  obtain ⟨i0, ei0⟩ := is_v a0
  obtain rfl : w0 = (.int i0) := Option.some.inj ei0
  obtain ⟨i1, ei1⟩ := is_v a1
  obtain rfl : w1 = (.int i1) := Option.some.inj ei1
  obtain ⟨i2, ei2⟩ := is_v a2
  obtain rfl : w2 = (.int i2) := Option.some.inj ei2
  obtain ⟨i3, ei3⟩ := is_v a3
  obtain rfl : w3 = (.int i3) := Option.some.inj ei3
  obtain ⟨i4, ei4⟩ := is_v a4
  obtain rfl : w4 = (.int i4) := Option.some.inj ei4
  obtain ⟨i5, ei5⟩ := is_v g5
  obtain rfl : w5 = (.int i5) := Option.some.inj ei5
  obtain ⟨n, o, h1, h2, h3, _, L, rfl, ⟨rfl, N, _⟩, hq⟩ := rm0 l s _ hw tables_1 i0 i1 i2 i3 i4 i5 s.heap s.heap.size (Nat.le_refl _)  p e ha hc hk s m _ below hf ((Spec.applies_iff_loose hf).mp happ).1 ⟨rfl, State.Warmed39.refl s, rfl⟩ trivial
  refine ⟨n, _, h1, h2, h3, hpost _ _ _ _ _ _ ⟨Cond.after_iff.mpr rfl, Cond.after_iff.mpr (eq_i res_at (Term.int_eval (1)) rfl), trivial⟩ ⟨hq.1, hq.2.1, (hq.2.2.sift fun y hy => Or.inr (N y hy)).mono (by decide) (by decide)⟩⟩
theorem main_1_1 : Claimed_1_1 := comes_1 fun _ _ _ _ _ _ h hF => ⟨h.1, hF⟩
theorem main_1_2 : Claimed_1_2 := comes_1 fun _ _ _ _ _ _ h hF => ⟨h.2.1, hF⟩
end Jvm.Pilot.@@N@@
namespace Jvm.Pilot.@@N@@
open Jvm Jvm.ClassFile Sem Op Lib Jvm.Free Jvm.Stand Jvm.Pilot.@@N@@.Jvm.D
/-! MADE BY PROGRAM (witnessworld.py) out of the Statement's table words and the real class files: 10 classes; the members and pool entries that the words name. The judged class is class 1, her method 1. -/
namespace start1
open Jvm.ClassFile
def u (s : String) : CpInfo := .utf8 (stringToUtf16 s)
/-- a pool by its gaps: so many unusable entries, then the entry; so many at the end -/
def gap : Nat → List CpInfo → List CpInfo
  | 0, r => r
  | n + 1, r => .unusable :: gap n r
def poolList (es : List (Nat × CpInfo)) (last : Nat) : List CpInfo := es.foldr (fun e r => gap e.1 (e.2 :: r)) (gap last [])
def pool (es : List (Nat × CpInfo)) (last : Nat) : Array CpInfo := ⟨poolList es last⟩
def fileOf (pool : Array CpInfo) (this : Nat) (attrs : Array Attribute := #[]) (ms : Array MethodInfo := #[]) (fl : Nat := 33) (sup : Nat := 0) (ifs : Array Nat := #[]) (fds : Array FieldInfo := #[]) : ClassFile where
  minorVersion := 0
  majorVersion := 65
  constantPool := pool
  accessFlags := fl
  thisClass := this
  superClass := sup
  interfaces := ifs
  fields := fds
  methods := ms
  attributes := attrs
def plain (name : String) (sup : Option ClassId) : Class where
  name := name
  kind := .ordinary
  loader := none
  accessFlags := 33
  super := sup
  interfaces := #[]
  cf := none
  fields := #[]
  methods := #[]
  instanceTypes := #[]
  staticTypes := #[]
  resolved := #[]
  callSites := []
  init := .initialized
  statics := none
  mirror := none

def pool0 : Array CpInfo := pool [(5, u "<init>"), (0, u "()V"), (1, .class_ 10), (1, u "java/lang/Object")] 113

def k0m0 : Method := { name := "<init>", desc := "()V", sig := { parameters := [], returnType := none }, accessFlags := 1, code := none }
/-- java/lang/Object -/
def k0 : Class := { plain "java/lang/Object" none with
  accessFlags := 33
  interfaces := #[]
  cf := some (fileOf pool0 8 #[] #[{ accessFlags := 1, nameIndex := 5, descriptorIndex := 6, attributes := #[] }] 33 0 #[] #[])
  fields := #[]
  methods := #[k0m0]
  instanceTypes := #[]
  staticTypes := #[]
  resolved := Array.replicate 124 none
  statics := none }

def pool1 : Array CpInfo := pool [(2, .class_ 4), (1, u "java/lang/Object"), (0, u "<init>"), (0, u "()V"), (0, .integer 2147483647), (0, .methodref 9 10), (0, .class_ 11), (0, .nameAndType 12 13), (0, u "com/example/rackwise/rackwise/RackCosts"), (0, u "clientsOfRacks"), (0, u "([II)[[I"), (0, .methodref 15 16), (0, .class_ 17), (0, .nameAndType 18 19), (0, u "com/example/rackwise/rackwise/RackCostsClientsOfRacksPinLaw"), (0, u "rowOk"), (0, u "([IIIIIII)Z"), (0, .methodref 15 21), (0, .nameAndType 22 23), (0, u "placed"), (0, u "([[IIII)Z"), (0, .methodref 15 25), (0, .nameAndType 26 27), (0, u "same"), (0, u "(II)I"), (0, .methodref 15 29), (0, .nameAndType 30 31), (0, u "count"), (0, u "(IIIIII)I"), (2, u "law"), (0, u "(IIIIII)Z")] 7

def k1m0 : Method := { name := "<init>", desc := "()V", sig := { parameters := [], returnType := none }, accessFlags := 1, code := none }
def k1c1 : Code := { maxStack := 7, maxLocals := 14, code := code, exceptionTable := #[], attributes := #[] }
def k1m1 : Method := { name := "law", desc := "(IIIIII)Z", sig := { parameters := [.int, .int, .int, .int, .int, .int], returnType := some .boolean }, accessFlags := 9, code := some k1c1 }
def k1c2 : Code := { maxStack := 2, maxLocals := 2, code := method_3_code, exceptionTable := #[], attributes := #[] }
def k1m2 : Method := { name := "same", desc := "(II)I", sig := { parameters := [.int, .int], returnType := some .int }, accessFlags := 10, code := some k1c2 }
def k1c3 : Code := { maxStack := 2, maxLocals := 7, code := method_4_code, exceptionTable := #[], attributes := #[] }
def k1m3 : Method := { name := "count", desc := "(IIIIII)I", sig := { parameters := [.int, .int, .int, .int, .int, .int], returnType := some .int }, accessFlags := 10, code := some k1c3 }
def k1c4 : Code := { maxStack := 7, maxLocals := 7, code := method_5_code, exceptionTable := #[], attributes := #[] }
def k1m4 : Method := { name := "rowOk", desc := "([IIIIIII)Z", sig := { parameters := [(.array .int), .int, .int, .int, .int, .int, .int], returnType := some .boolean }, accessFlags := 10, code := some k1c4 }
def k1c5 : Code := { maxStack := 2, maxLocals := 5, code := method_6_code, exceptionTable := #[], attributes := #[] }
def k1m5 : Method := { name := "placed", desc := "([[IIII)Z", sig := { parameters := [(.array (.array .int)), .int, .int, .int], returnType := some .boolean }, accessFlags := 10, code := some k1c5 }
/-- com/example/rackwise/rackwise/RackCostsClientsOfRacksPinLaw -/
def k1 : Class := { plain "com/example/rackwise/rackwise/RackCostsClientsOfRacksPinLaw" (some 0) with
  accessFlags := 49
  interfaces := #[]
  cf := some (fileOf pool1 15 #[] #[{ accessFlags := 1, nameIndex := 5, descriptorIndex := 6, attributes := #[] }, { accessFlags := 9, nameIndex := 34, descriptorIndex := 35, attributes := #[] }, { accessFlags := 10, nameIndex := 26, descriptorIndex := 27, attributes := #[] }, { accessFlags := 10, nameIndex := 30, descriptorIndex := 31, attributes := #[] }, { accessFlags := 10, nameIndex := 18, descriptorIndex := 19, attributes := #[] }, { accessFlags := 10, nameIndex := 22, descriptorIndex := 23, attributes := #[] }] 49 2 #[] #[])
  fields := #[]
  methods := #[k1m0, k1m1, k1m2, k1m3, k1m4, k1m5]
  instanceTypes := #[]
  staticTypes := #[]
  resolved := Array.replicate 43 none
  statics := none }

def pool2 : Array CpInfo := pool [(2, .class_ 4), (1, u "java/lang/Object"), (0, u "<init>"), (0, u "()V"), (0, .class_ 8), (0, u "java/lang/Record")] 13

def k2m0 : Method := { name := "<init>", desc := "()V", sig := { parameters := [], returnType := none }, accessFlags := 4, code := none }
/-- java/lang/Record -/
def k2 : Class := { plain "java/lang/Record" (some 0) with
  accessFlags := 1057
  interfaces := #[]
  cf := some (fileOf pool2 7 #[] #[{ accessFlags := 4, nameIndex := 5, descriptorIndex := 6, attributes := #[] }] 1057 2 #[] #[])
  fields := #[]
  methods := #[k2m0]
  instanceTypes := #[]
  staticTypes := #[]
  resolved := Array.replicate 22 none
  statics := none }

def pool3 : Array CpInfo := pool [(2, .class_ 4), (1, u "java/lang/Record"), (3, .class_ 10), (1, u "com/example/rackwise/rackwise/RackCosts"), (14, .class_ 27), (1, u "[I"), (4, u "[[J"), (4, u "[J"), (2, u "rackOfClient"), (2, u "inRack"), (2, u "home"), (2, u "atHome"), (52, u "clientsOfRacks"), (0, u "([II)[[I"), (15, .class_ 120), (0, u "com/example/rackwise/rackwise/RackCosts$SameRow"), (31, u "NO_HOME"), (0, u "I")] 72

def k3c0 : Code := { maxStack := 6, maxLocals := 7, code := prog_99_method_9_code, exceptionTable := #[], attributes := #[] }
def k3m0 : Method := { name := "clientsOfRacks", desc := "([II)[[I", sig := { parameters := [(.array .int), .int], returnType := some (.array (.array .int)) }, accessFlags := 8, code := some k3c0 }
/-- com/example/rackwise/rackwise/RackCosts -/
def k3 : Class := { plain "com/example/rackwise/rackwise/RackCosts" (some 2) with
  accessFlags := 48
  interfaces := #[]
  cf := some (fileOf pool3 8 #[.nestMembers #[119]] #[{ accessFlags := 8, nameIndex := 102, descriptorIndex := 103, attributes := #[] }] 48 2 #[] #[{ accessFlags := 18, nameIndex := 40, descriptorIndex := 27, attributes := #[] }, { accessFlags := 18, nameIndex := 43, descriptorIndex := 32, attributes := #[] }, { accessFlags := 18, nameIndex := 46, descriptorIndex := 27, attributes := #[] }, { accessFlags := 18, nameIndex := 49, descriptorIndex := 37, attributes := #[] }, { accessFlags := 24, nameIndex := 152, descriptorIndex := 153, attributes := #[] }])
  fields := #[{ name := "rackOfClient", type := (.array .int), accessFlags := 18, slot := 0, constantValue := 0 }, { name := "inRack", type := (.array (.array .long)), accessFlags := 18, slot := 1, constantValue := 0 }, { name := "home", type := (.array .int), accessFlags := 18, slot := 2, constantValue := 0 }, { name := "atHome", type := (.array .long), accessFlags := 18, slot := 3, constantValue := 0 }, { name := "NO_HOME", type := .int, accessFlags := 24, slot := 0, constantValue := 0 }]
  methods := #[k3m0]
  instanceTypes := #[(.array .int), (.array (.array .long)), (.array .int), (.array .long)]
  staticTypes := #[.int]
  resolved := Array.replicate 226 none
  statics := none }

def pool4 : Array CpInfo := pool [(1, u "java/lang/Cloneable"), (0, .class_ 1), (0, u "java/lang/Object"), (0, .class_ 3)] 3

/-- java/lang/Cloneable -/
def k4 : Class := { plain "java/lang/Cloneable" (some 0) with
  accessFlags := 1537
  interfaces := #[]
  cf := some (fileOf pool4 2 #[] #[] 1537 4 #[] #[])
  fields := #[]
  methods := #[]
  instanceTypes := #[]
  staticTypes := #[]
  resolved := Array.replicate 8 none
  statics := none }

def pool5 : Array CpInfo := pool [(1, u "java/io/Serializable"), (0, .class_ 1), (0, u "java/lang/Object"), (0, .class_ 3)] 3

/-- java/io/Serializable -/
def k5 : Class := { plain "java/io/Serializable" (some 0) with
  accessFlags := 1537
  interfaces := #[]
  cf := some (fileOf pool5 2 #[] #[] 1537 4 #[] #[])
  fields := #[]
  methods := #[]
  instanceTypes := #[]
  staticTypes := #[]
  resolved := Array.replicate 8 none
  statics := none }

/-- the primitive byte -/
def k6 : Class := { plain "byte" none with kind := .primitive 'B', accessFlags := 0x411 }
/-- [B -/
def k7 : Class := { plain "[B" (some 0) with kind := .array 6 .byte, interfaces := #[4, 5], accessFlags := 1041 }

/-- the primitive int -/
def k8 : Class := { plain "int" none with kind := .primitive 'I', accessFlags := 0x411 }
/-- [I -/
def k9 : Class := { plain "[I" (some 0) with kind := .array 8 .int, interfaces := #[4, 5], accessFlags := 1041 }

def heap : Heap := #[]
def k10 : Class := { plain "[[I" (some 0) with kind := .array 9 (.array .int), interfaces := #[4, 5], accessFlags := 1041 }
def classes : Array Class := #[k0, k1, k2, k3, k4, k5, k6, k7, k8, k9, k10]
def interned : List (Array UInt16 × Addr) := []
def slotsUsed : Nat := 0
def theMethod : MethodId := ⟨1, 1⟩
def args0 : Array Value := #[.int 1, .int 2, .int 3, .int 4, .int 5, .int 6]
def aboutOver (below : List Frame) : State where
  vm := { classes := classes, interned := interned.toArray }
  heap := heap
  slotsUsed := slotsUsed
  threads := #[{ frames := .invoking theMethod args0 :: below }]
def below0 : List Frame := [.native { method := ⟨0, 0⟩, args := #[] }]
def about1 : State := aboutOver below0
def p0 : Program := .bare "" "" ""
def e0 : Env := launch0.env 0 0 0
theorem w_frames : about1.frames = Frame.invoking theMethod args0 :: below0 := rfl
set_option maxRecDepth 65536 in
theorem w_args : argsFit about1.vm theMethod args0 = true := by decide +kernel
set_option maxRecDepth 65536 in
theorem w_heap : heapFits about1 = true := by decide +kernel
set_option maxRecDepth 65536 in
theorem w_runnable : about1.curStatus? = some .runnable := by decide +kernel
set_option maxRecDepth 65536 in
theorem w_alone : about1.alone = true := by decide +kernel
set_option maxRecDepth 65536 in
theorem w_named : about1.methodNamed? x = some theMethod := by decide +kernel
set_option maxRecDepth 65536 in
theorem w_hears : about1.hears theMethod below0 = true := by decide +kernel
set_option maxRecDepth 65536 in
theorem w_ripe : about1.ripe theMethod args0 below0 = true := by decide +kernel
theorem w_running : about1.status = .running := rfl
set_option maxRecDepth 65536 in
theorem w_room : about1.hasRoom e0.platform room_1 = true :=
  launch0.hasRoom_least _ room_1 (by decide +kernel) (by decide +kernel) (by decide +kernel) (by decide +kernel) (by decide +kernel) (by decide +kernel)
theorem allAtoms_all (ts : List Jvm.Cond) (a : Array Jvm.Value) (st : Jvm.State) : (allAtoms ts).before a st = ts.all (fun c => c.before a st) := by
  induction ts with
  | nil => rfl
  | cons c t ih =>
    show (Jvm.Cond.and c (allAtoms t)).before a st = _
    rw [Jvm.Cond.before_and, ih, List.all_cons]
def words1 : List Jvm.Cond := Jvm.Cond.code x code maxLocals ret :: tables_1
/-- a 'code' word, met by the world's own term for the bytes: nothing is compared byte by byte -/
theorem code_word {y : MethodName} {bytes : ByteArray} {mx : Nat} {rt : Option FieldType} {a : Array Value} {s : State} {m : MethodId} {meth : Method} {c : Code} (h1 : s.methodNamed? y = some m) (h2 : s.vm.method? m = some meth) (h3 : meth.code = some c) (h4 : c.code = bytes)
    (h5 : (c.maxLocals == mx && c.exceptionTable.isEmpty && decide (c.maxStack ≤ mostOperands) && decide (meth.sig.returnType = rt) && !meth.locks && decide (parseMethodDescriptor y.desc = some meth.sig)) = true) : (Jvm.Cond.code y bytes mx rt).before a s = true := by
  simp only [Bool.and_eq_true, beq_iff_eq, Bool.not_eq_true', decide_eq_true_eq] at h5
  obtain ⟨⟨⟨⟨⟨g1, g2⟩, g3⟩, g4⟩, g5⟩, g6⟩ := h5
  simp [Cond.before, Cond.holds, Cond.value, h1, h2, h3, h4, g1, g2, g3, g4, g5, g6]
def isCode : Jvm.Cond → Bool
  | .code _ _ _ _ => true
  | _ => false
theorem all_split {L : List Jvm.Cond} {P : Jvm.Cond → Bool} (h1 : L.all (fun c => isCode c || P c) = true) (h2 : ∀ c ∈ L.filter isCode, P c = true) : L.all P = true := by
  refine List.all_eq_true.mpr fun c hc => ?_
  have h := List.all_eq_true.mp h1 c hc
  rcases Bool.eq_false_or_eq_true (isCode c) with hi | hi
  · exact h2 c (List.mem_filter.mpr ⟨hc, hi⟩)
  · simpa [hi] using h
set_option maxRecDepth 65536 in
theorem w_c0 : (Jvm.Cond.code x code maxLocals ret).before args0 about1 = true := code_word (m := ⟨1, 1⟩) (meth := k1m1) (c := k1c1) (by decide +kernel) rfl rfl rfl (by decide +kernel)
set_option maxRecDepth 65536 in
theorem w_c1 : (Jvm.Cond.code ({ cls := "com/example/rackwise/rackwise/RackCosts", name := "clientsOfRacks", desc := "([II)[[I" } : Jvm.MethodName) prog_99_method_9_code (7 : Nat) (Option.some (Jvm.ClassFile.FieldType.array (Jvm.ClassFile.FieldType.array Jvm.ClassFile.FieldType.int)))).before args0 about1 = true := code_word (m := ⟨3, 0⟩) (meth := k3m0) (c := k3c0) (by decide +kernel) rfl rfl rfl (by decide +kernel)
set_option maxRecDepth 65536 in
theorem w_c2 : (Jvm.Cond.code ({ cls := "com/example/rackwise/rackwise/RackCostsClientsOfRacksPinLaw", name := "rowOk", desc := "([IIIIIII)Z" } : Jvm.MethodName) method_5_code (7 : Nat) (Option.some Jvm.ClassFile.FieldType.boolean)).before args0 about1 = true := code_word (m := ⟨1, 4⟩) (meth := k1m4) (c := k1c4) (by decide +kernel) rfl rfl rfl (by decide +kernel)
set_option maxRecDepth 65536 in
theorem w_c3 : (Jvm.Cond.code ({ cls := "com/example/rackwise/rackwise/RackCostsClientsOfRacksPinLaw", name := "count", desc := "(IIIIII)I" } : Jvm.MethodName) method_4_code (7 : Nat) (Option.some Jvm.ClassFile.FieldType.int)).before args0 about1 = true := code_word (m := ⟨1, 3⟩) (meth := k1m3) (c := k1c3) (by decide +kernel) rfl rfl rfl (by decide +kernel)
set_option maxRecDepth 65536 in
theorem w_c4 : (Jvm.Cond.code ({ cls := "com/example/rackwise/rackwise/RackCostsClientsOfRacksPinLaw", name := "placed", desc := "([[IIII)Z" } : Jvm.MethodName) method_6_code (5 : Nat) (Option.some Jvm.ClassFile.FieldType.boolean)).before args0 about1 = true := code_word (m := ⟨1, 5⟩) (meth := k1m5) (c := k1c5) (by decide +kernel) rfl rfl rfl (by decide +kernel)
set_option maxRecDepth 65536 in
theorem w_c5 : (Jvm.Cond.code ({ cls := "com/example/rackwise/rackwise/RackCostsClientsOfRacksPinLaw", name := "same", desc := "(II)I" } : Jvm.MethodName) method_3_code (2 : Nat) (Option.some Jvm.ClassFile.FieldType.int)).before args0 about1 = true := code_word (m := ⟨1, 2⟩) (meth := k1m2) (c := k1c2) (by decide +kernel) rfl rfl rfl (by decide +kernel)
def codes1 : List Jvm.Cond := [Jvm.Cond.code x code maxLocals ret, Jvm.Cond.code ({ cls := "com/example/rackwise/rackwise/RackCosts", name := "clientsOfRacks", desc := "([II)[[I" } : Jvm.MethodName) prog_99_method_9_code (7 : Nat) (Option.some (Jvm.ClassFile.FieldType.array (Jvm.ClassFile.FieldType.array Jvm.ClassFile.FieldType.int))), Jvm.Cond.code ({ cls := "com/example/rackwise/rackwise/RackCostsClientsOfRacksPinLaw", name := "rowOk", desc := "([IIIIIII)Z" } : Jvm.MethodName) method_5_code (7 : Nat) (Option.some Jvm.ClassFile.FieldType.boolean), Jvm.Cond.code ({ cls := "com/example/rackwise/rackwise/RackCostsClientsOfRacksPinLaw", name := "count", desc := "(IIIIII)I" } : Jvm.MethodName) method_4_code (7 : Nat) (Option.some Jvm.ClassFile.FieldType.int), Jvm.Cond.code ({ cls := "com/example/rackwise/rackwise/RackCostsClientsOfRacksPinLaw", name := "placed", desc := "([[IIII)Z" } : Jvm.MethodName) method_6_code (5 : Nat) (Option.some Jvm.ClassFile.FieldType.boolean), Jvm.Cond.code ({ cls := "com/example/rackwise/rackwise/RackCostsClientsOfRacksPinLaw", name := "same", desc := "(II)I" } : Jvm.MethodName) method_3_code (2 : Nat) (Option.some Jvm.ClassFile.FieldType.int)]
set_option maxRecDepth 65536 in
theorem codes_eq : words1.filter isCode = codes1 := rfl
theorem w_codes : ∀ c ∈ words1.filter isCode, c.before args0 about1 = true := by
  rw [codes_eq]
  intro c hc
  simp only [codes1, List.mem_cons, List.not_mem_nil, or_false] at hc
  rcases hc with rfl | rfl | rfl | rfl | rfl | rfl
  · exact w_c0
  · exact w_c1
  · exact w_c2
  · exact w_c3
  · exact w_c4
  · exact w_c5
set_option maxRecDepth 65536 in
theorem w_t1 : words1.all (fun c => isCode c || c.before args0 about1) = true := by decide +kernel
theorem w_tables : (allAtoms (Jvm.Cond.code x code maxLocals ret :: tables_1)).before args0 about1 = true := by
  rw [allAtoms_all]
  show words1.all (fun c => c.before args0 about1) = true
  refine all_split ?_ w_codes
  rw [w_t1]
set_option maxRecDepth 65536 in
theorem w_case : (Jvm.Cond.and given_1 narrow_1).before args0 about1 = true := by decide +kernel
theorem w_applies : (headSpec (Jvm.Cond.code x code maxLocals ret :: tables_1) room_1).applies x e0.platform about1 = true :=
  (Spec.applies_iff w_frames).mpr ⟨w_running, w_runnable, w_alone, w_named, w_hears, w_ripe, w_room, w_tables⟩
theorem atStart : AtStart classFile x code maxLocals ret World_1 tables_1 room_1 Calls_1 rest_1 Pre_1 launch0 p0 e0 about1 theMethod args0 below0 :=
  ⟨lists_1, trivial, launch0.admits_env _ _ _, launch0.least_env, fairChoices_fair.cas, fairChoices_fair.clock, w_frames, w_args, w_heap, w_applies, trivial, trivial, w_case⟩
end start1
theorem witness_1 : WitnessClaimed_1 := ⟨start1.p0, start1.e0, start1.about1, start1.theMethod, start1.args0, start1.below0, start1.atStart⟩
end Jvm.Pilot.@@N@@
