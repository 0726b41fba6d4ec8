import JvmDerived
import JvmDerived.Pilot.@@N@@Statement
import JvmDerived.Pilot.@@N@@Code
set_option linter.unusedVariables false
set_option linter.unusedSimpArgs false
namespace Jvm.OwnGo
open Jvm Jvm.ClassFile Sem Op Lib Jvm.Free Jvm.Stand Jvm.LawKit Jvm.RoadKit
section Own
variable {p : Program} {l : Launch} {e : Env} {R : Room} {s : State} {m : MethodId} {args : Array Value} {below : List Frame} {meth : Method} {c : Code} {T : State} {locs : List Loc} {cells slots : Nat} {Q : Option Value → Heap → List Loc → Prop} {C N : Nat}
/-- from A on the run comes to its return, and what it returns and leaves is as Q says -/
def Go (p : Program) (e : Env) (below : List Frame) (s : State) (Q : Option Value → Heap → List Loc → Prop) (C N : Nat) (A : State) : Prop :=
  ∃ s₂ o, Steps p.tables e below A s₂ ∧ s₂.status = .running ∧ Ended s₂ below o ∧ ∃ v L, o = .returned v ∧ Q v s₂.heap L ∧ FrameEnd s o s₂ L C N
theorem Go.st {A B : State} (h : ∀ t, Steps p.tables e below B t → Steps p.tables e below A t) (k : Go p e below s Q C N B) : Go p e below s Q C N A := by
  obtain ⟨s₂, o, h1, r⟩ := k
  exact ⟨s₂, o, h _ h1, r⟩
theorem Go.tr {A B : State} (h : Steps p.tables e below A B) (k : Go p e below s Q C N B) : Go p e below s Q C N A := k.st fun _ q => h.trans q
theorem Go.retI (X : Stand p l e R s m args below meth c T locs cells slots) (hx : p.tables.exec = Jvm.exec) (hlk : meth.locks = false) (hret : meth.sig.returnType = some .int) {pc : Nat} {Ls : Array Slot} {z : Int32} {rest : List Value} (hd : decode c.code pc = .ok (.ireturn, 1))
    (q : Q (some (.int z)) T.heap locs) (hc : cells ≤ C) (hn : slots ≤ N) : Go p e below s Q C N (T.setTop (mkF m pc Ls (.int z :: rest))) := by
  obtain ⟨fs, hr, hrun, hended, hW, hsame⟩ := X.leave (v := some (.int z)) (fun h => by rw [hret] at h; cases h) hlk
  exact ⟨_, _, retOut X hx hret rfl (Or.inl ⟨rfl, Or.inl rfl, _, rfl⟩) hd hr, hrun, hended, _, _, rfl, q, ⟨_, rfl⟩, hW, hsame.mono hc hn⟩
theorem Go.retN (X : Stand p l e R s m args below meth c T locs cells slots) (hx : p.tables.exec = Jvm.exec) (hlk : meth.locks = false) {t : FieldType} (ht : t = .boolean ∨ t = .byte ∨ t = .char ∨ t = .short) (hret : meth.sig.returnType = some t) {pc : Nat} {Ls : Array Slot} {z z' : Int32} {rest : List Value} (hd : decode c.code pc = .ok (.ireturn, 1))
    (hz : nar t z = z') (q : Q (some (.int z')) T.heap locs) (hc : cells ≤ C) (hn : slots ≤ N) : Go p e below s Q C N (T.setTop (mkF m pc Ls (.int z :: rest))) := by
  subst hz
  obtain ⟨fs, hr, hrun, hended, hW, hsame⟩ := X.leave (v := some (.int (nar t z))) (fun h => by rw [hret] at h; cases h) hlk
  exact ⟨_, _, Jvm.RoadKit.retN X hx hret ht hd hr, hrun, hended, _, _, rfl, q, ⟨_, rfl⟩, hW, hsame.mono hc hn⟩
theorem Go.retJ (X : Stand p l e R s m args below meth c T locs cells slots) (hx : p.tables.exec = Jvm.exec) (hlk : meth.locks = false) (hret : meth.sig.returnType = some .long) {pc : Nat} {Ls : Array Slot} {z : Int64} {rest : List Value} (hd : decode c.code pc = .ok (.lreturn, 1))
    (q : Q (some (.long z)) T.heap locs) (hc : cells ≤ C) (hn : slots ≤ N) : Go p e below s Q C N (T.setTop (mkF m pc Ls (.long z :: rest))) := by
  obtain ⟨fs, hr, hrun, hended, hW, hsame⟩ := X.leave (v := some (.long z)) (fun h => by rw [hret] at h; cases h) hlk
  exact ⟨_, _, retOut X hx hret rfl (Or.inr (Or.inl ⟨rfl, rfl, _, rfl⟩)) hd hr, hrun, hended, _, _, rfl, q, ⟨_, rfl⟩, hW, hsame.mono hc hn⟩
theorem nar_ref {t : FieldType} {w : Value} (hw : w.isRef = true) : narrow t w = w := by
  cases t <;> cases w <;> first | rfl | (simp [Value.isRef] at hw)
theorem Go.retA (X : Stand p l e R s m args below meth c T locs cells slots) (hx : p.tables.exec = Jvm.exec) (hlk : meth.locks = false) {t : FieldType} (ht : t.isReference = true) (hret : meth.sig.returnType = some t) {pc : Nat} {Ls : Array Slot} {w : Value} {rest : List Value} (hw : w.isRef = true) (hd : decode c.code pc = .ok (.areturn, 1))
    (q : Q (some w) T.heap locs) (hc : cells ≤ C) (hn : slots ≤ N) : Go p e below s Q C N (T.setTop (mkF m pc Ls (w :: rest))) := by
  obtain ⟨fs, hr, hrun, hended, hW, hsame⟩ := X.leave (v := some w) (fun h => by rw [hret] at h; cases h) hlk
  exact ⟨_, _, retOut X hx hret (nar_ref hw) (Or.inr (Or.inr (Or.inr (Or.inr ⟨rfl, ht, hw⟩)))) hd hr, hrun, hended, _, _, rfl, q, ⟨_, rfl⟩, hW, hsame.mono hc hn⟩
theorem Go.retV (X : Stand p l e R s m args below meth c T locs cells slots) (hx : p.tables.exec = Jvm.exec) (hlk : meth.locks = false) (hret : meth.sig.returnType = none) {pc : Nat} {Ls : Array Slot} (hd : decode c.code pc = .ok (.return_, 1))
    (q : Q none T.heap locs) (hc : cells ≤ C) (hn : slots ≤ N) : Go p e below s Q C N (T.setTop (mkF m pc Ls [])) := by
  obtain ⟨fs, hr, hrun, hended, hW, hsame⟩ := X.leave (v := none) (fun _ => rfl) hlk
  exact ⟨_, _, X.returnOut hx hret hd hr, hrun, hended, _, _, rfl, q, ⟨_, rfl⟩, hW, hsame.mono hc hn⟩
theorem up {k n : Nat} (X : Stand p l e R s m args below meth c T locs cells slots) (hc : cells ≤ k) (hn : slots ≤ n) : Stand p l e R s m args below meth c T locs k n := { X with same := X.same.mono hc hn }
end Own
/-- a fact that the arithmetic leaves alone till it is opened -/
def Hid (P : Prop) : Prop := P
section Num
variable {x y : Int32} {u v : Int64} {a b : Int}
theorem ltI (ha : x.toInt = a) (hb : y.toInt = b) (h : a < b) : x < y := by rw [Int32.lt_iff_toInt_lt, ha, hb]; exact h
theorem nltI (ha : x.toInt = a) (hb : y.toInt = b) (h : ¬ a < b) : ¬ x < y := by rw [Int32.lt_iff_toInt_lt, ha, hb]; exact h
theorem eqI (ha : x.toInt = a) (hb : y.toInt = b) (h : a = b) : x = y := Int32.toInt_inj.mp (by rw [ha, hb]; exact h)
theorem neI (ha : x.toInt = a) (hb : y.toInt = b) (h : ¬ a = b) : ¬ x = y := fun q => h (by rw [← ha, ← hb, q])
theorem ltJ (ha : u.toInt = a) (hb : v.toInt = b) (h : a < b) : u < v := by rw [Int64.lt_iff_toInt_lt, ha, hb]; exact h
theorem nltJ (ha : u.toInt = a) (hb : v.toInt = b) (h : ¬ a < b) : ¬ u < v := by rw [Int64.lt_iff_toInt_lt, ha, hb]; exact h
theorem eqJ (ha : u.toInt = a) (hb : v.toInt = b) (h : a = b) : u = v := Int64.toInt_inj.mp (by rw [ha, hb]; exact h)
theorem neJ (ha : u.toInt = a) (hb : v.toInt = b) (h : ¬ a = b) : ¬ u = v := fun q => h (by rw [← ha, ← hb, q])
theorem bool_nar (h : x.toInt = 0 ∨ x.toInt = 1) : nar .boolean x = x := by
  rcases h with h | h
  · rw [Int32.toInt_inj.mp (h.trans (by decide : (0 : Int) = (0 : Int32).toInt))]; decide
  · rw [Int32.toInt_inj.mp (h.trans (by decide : (1 : Int) = (1 : Int32).toInt))]; decide
end Num
section Words
variable {Z : State} {args : Array Value} {t : Term} {C n d : String} {a : Addr}
theorem fld_int {k : Int32} (ht : t.eval args Z none [] Z = some (.ref a)) (h : (Cond.eq (Term.field t C n d) (Term.int k)).value args Z none Z [] = some true) : Fld Z Z.heap a C n d (.int k) := by
  obtain ⟨u, v, e1, e2, k1, k2⟩ := cmp_v (Or.inl h)
  have e3 : v = .int k := Option.some.inj (e2.symm.trans (Term.int_eval k))
  subst e3
  obtain ⟨w, rfl⟩ : ∃ w, u = .int w := k2
  have q := gotT (Cond.eq_ints e1 (Term.int_eval k)) h
  subst q
  exact Fld.start (by rw [← fld_at (args := args) (first := Z) (o := none) (idx := []) ht]; exact e1)
theorem sta_long {k : Int64} (h : (Cond.eq (Term.static C n d) (Term.long k)).value args Z none Z [] = some true) : (Term.static C n d).eval args Z none [] Z = some (.long k) := by
  obtain ⟨u, v, e1, e2, k1, k2⟩ := cmp_v (Or.inl h)
  have e3 : v = .long k := Option.some.inj (e2.symm.trans rfl)
  subst e3
  obtain ⟨w, rfl⟩ : ∃ w, u = .long w := k2
  have q := gotT (eq_L (y := k) e1 rfl) h
  subst q
  exact e1
theorem sta_int {k : Int32} (h : (Cond.eq (Term.static C n d) (Term.int k)).value args Z none Z [] = some true) : (Term.static C n d).eval args Z none [] Z = some (.int k) := by
  obtain ⟨u, v, e1, e2, k1, k2⟩ := cmp_v (Or.inl h)
  have e3 : v = .int k := Option.some.inj (e2.symm.trans rfl)
  subst e3
  obtain ⟨w, rfl⟩ : ∃ w, u = .int w := k2
  have q := gotT (Cond.eq_ints e1 (Term.int_eval k)) h
  subst q
  exact e1
/-- a cell that is no class's statics -/
def Exi (h : Heap) (x : Addr) : Prop := ∃ c : Cell, h[x]? = some c ∧ c.vm.isStatics = false
theorem exi_exa {h : Heap} (F : Exa Z h a C) : Exi h a := by obtain ⟨c, k, h1, -, -, h4, -⟩ := F; exact ⟨c, h1, h4⟩
theorem sta_keep {h h' : Heap} {v : Value} {ws : List Addr} (F : Sta Z h C n d v) (K : Keep h h' ws) (q : ∀ x ∈ ws, Exi h x) : Sta Z h' C n d v := by
  obtain ⟨cf, i, k, f, st, cell, h1, h2, h3, h4, h5, h6, h7⟩ := F
  refine ⟨cf, i, k, f, st, cell, h1, h2, h3, h4, K.2.1 st cell h5 (fun hm => ?_), h6, h7⟩
  obtain ⟨c, e1, e2⟩ := q st hm
  cases h5.symm.trans e1
  rw [h6] at e2; cases e2
theorem self_sel {s : State} {as as' : Array Value} {y z : MethodName} (hs : (Cond.selects C z z).before as s = true) (hc : z.cls = y.cls) (hp : s.PrivateAt y) (hi : (Cond.instanceMethod y).before as' s = true) (hy : y.cls ≠ "java/lang/invoke/MethodHandle" ∧ y.cls ≠ "java/lang/invoke/VarHandle") : (Cond.selects y.cls y y).before as' s = true := by
  obtain ⟨c, r, m, h1, h2, h3, h4, mk, h5, h6⟩ := Cond.selects_spec hs
  exact selects_self_of_private (hc ▸ findClass_of_methodNamed h3) h5 h6 hp hi hy
end Words
end Jvm.OwnGo
namespace Jvm.OwnGo
open Jvm Jvm.ClassFile Sem Op Lib Jvm.Free Jvm.Stand Jvm.LawKit Jvm.RoadKit
section Vecs
variable {p : Program} {l : Launch} {e : Env} {R : Room} {s : State} {m : MethodId} {args : Array Value} {below : List Frame} {meth : Method} {c : Code} {T : State} {locs : List Loc} {cells slots : Nat} {Z : State} {h h' : Heap} {a b : Addr} {ty : FieldType} {n j x : Int32} {y : Int64} {f : Nat → Value} {v : Value} {sl : Nat} {ws : List Addr}
/-- an array at a, of length n, whose i-th place holds f i -/
def Vec (Z : State) (h : Heap) (a : Addr) (ty : FieldType) (n : Int32) (f : Nat → Value) : Prop := ∃ c : Cell, Arr Z h a c ty ∧ c.slots.size = n.toInt.toNat ∧ 0 ≤ n.toInt ∧ ∀ i : Nat, (i : Int) < n.toInt → c.slots[i]? = some (f i)
def ints (f : Nat → Int32) : Nat → Value := fun i => .int (f i)
def longs (f : Nat → Int64) : Nat → Value := fun i => .long (f i)
def updF {α : Type} (f : Nat → α) (k : Nat) (v : α) : Nat → α := fun i => if i = k then v else f i
theorem upd_same {α : Type} (f : Nat → α) (k : Nat) (v : α) : updF f k v k = v := if_pos rfl
theorem upd_ne {α : Type} (f : Nat → α) {k i : Nat} (v : α) (q : i ≠ k) : updF f k v i = f i := if_neg q
def lst {α : Type} [Inhabited α] (l : List α) : Nat → α := fun i => l.getD i default
theorem upd_lst {α : Type} [Inhabited α] (l : List α) (k : Nat) (v : α) (hk : k < l.length) : updF (lst l) k v = lst (l.set k v) := by
  funext i
  simp only [updF, lst, List.getD_eq_getElem?_getD, List.getElem?_set]
  by_cases q : i = k
  · subst q; simp [hk]
  · simp [q, Ne.symm q]
theorem upd_ints (f : Nat → Int32) (k : Nat) (v : Int32) : updF (ints f) k (.int v) = ints (updF f k v) := by
  funext i; simp only [updF, ints]; split <;> rfl
theorem upd_longs (f : Nat → Int64) (k : Nat) (v : Int64) : updF (longs f) k (.long v) = longs (updF f k v) := by
  funext i; simp only [updF, longs]; split <;> rfl
theorem Vec.lt (F : Vec Z h a ty n f) : a < h.size := by obtain ⟨c, A, -⟩ := F; exact A.lt
theorem Vec.ext (E : Ext h h') (F : Vec Z h a ty n f) : Vec Z h' a ty n f := by obtain ⟨c, A, r⟩ := F; exact ⟨c, A.ext E, r⟩
theorem Vec.other (W : Wr h h' b sl v) (F : Vec Z h a ty n f) (q : a ≠ b) : Vec Z h' a ty n f := by obtain ⟨c, A, r⟩ := F; exact ⟨c, A.other W q, r⟩
theorem Vec.keep (F : Vec Z h a ty n f) (K : Keep h h' ws) (q : a ∉ ws) : Vec Z h' a ty n f := by obtain ⟨c, A, r⟩ := F; exact ⟨c, ⟨K.2.1 a c A.1 q, A.2⟩, r⟩
theorem exi_vec (F : Vec Z h a ty n f) : Exi h a := by obtain ⟨c, A, -⟩ := F; exact ⟨c, A.1, A.plain⟩
theorem nat_cl (j : Int32) : j.toNatClampNeg = j.toInt.toNat := rfl
theorem not_neg (q : 0 ≤ j.toInt) : ¬ j < 0 := by
  have z : (0 : Int32).toInt = 0 := by decide
  rw [Int32.lt_iff_toInt_lt, z]; omega
theorem of_neg (q : ¬ j < 0) : 0 ≤ j.toInt := by
  have z : (0 : Int32).toInt = 0 := by decide
  rw [Int32.lt_iff_toInt_lt, z] at q; omega
theorem inb {k : Nat} (q : k = n.toInt.toNat) (h1 : 0 ≤ j.toInt) (h2 : j.toInt < n.toInt) : ¬ (j < 0 ∨ k ≤ j.toNatClampNeg) := by
  rintro (w | w)
  · exact not_neg h1 w
  · rw [nat_cl, q] at w; omega
theorem Vec.new {k : ClassId} (A : Arr Z h a (newA k ty n) ty) (q : 0 ≤ n.toInt) : Vec Z h a ty n (fun _ => defaultValue ty) := by
  refine ⟨_, A, sz_new _ _ _, q, fun i hi => ?_⟩
  have hi' : i < n.toNatClampNeg := by rw [nat_cl]; omega
  simp [newA, hi']
theorem Vec.of {f' : Nat → Value} (F : Vec Z h a ty n f) (q : ∀ i : Nat, (i : Int) < n.toInt → f i = f' i) : Vec Z h a ty n f' := by
  obtain ⟨c, A, h1, h2, h3⟩ := F
  exact ⟨c, A, h1, h2, fun i hi => by rw [← q i hi]; exact h3 i hi⟩
theorem Vec.of_eq {f' : Nat → Value} (F : Vec Z h a ty n f) (q : f = f') : Vec Z h a ty n f' := q ▸ F
theorem rep_z : ∀ (k i : Nat), (List.replicate k (0 : Int32)).getD i default = 0
  | 0, _ => rfl
  | _ + 1, 0 => rfl
  | k + 1, i + 1 => rep_z k i
theorem rep_zL : ∀ (k i : Nat), (List.replicate k (0 : Int64)).getD i default = 0
  | 0, _ => rfl
  | _ + 1, 0 => rfl
  | k + 1, i + 1 => rep_zL k i
theorem Vec.zerosI (k : Nat) (F : Vec Z h a ty n (fun _ => .int 0)) : Vec Z h a ty n (ints (lst (List.replicate k (0 : Int32)))) := F.of fun i _ => congrArg Value.int (rep_z k i).symm
theorem Vec.zerosJ (k : Nat) (F : Vec Z h a ty n (fun _ => .long 0)) : Vec Z h a ty n (longs (lst (List.replicate k (0 : Int64)))) := F.of fun i _ => congrArg Value.long (rep_zL k i).symm
theorem Vec.set {k : Nat} (F : Vec Z h a ty n f) (W : Wr h h' a k v) : Vec Z h' a ty n (updF f k v) := by
  obtain ⟨c, A, h1, h2, h3⟩ := F
  refine ⟨_, A.same W, by rw [sz_set]; exact h1, h2, fun i hi => ?_⟩
  by_cases q : i = k
  · subst q
    have hi' : i < c.slots.size := by rw [h1]; omega
    simp [Cell.setSlot, updF, hi']
  · rw [upd_ne f v q, ← h3 i hi]
    exact Array.getElem?_setIfInBounds_ne (Ne.symm q)
theorem Vec.len (X : Stand p l e R s m args below meth c T locs cells slots) (hx : p.tables.exec = Jvm.exec) (hZ : Z.Warmed39 s.vm) (eT : T.heap = h) (F : Vec Z h a ty n f) {g : JFrame} (hg : g.method = m) {rest : List Value} (hs : g.stack = .ref a :: rest) (hd : decode c.code g.pc = .ok (.arraylength, 1)) :
    ∀ t, Steps p.tables e below (T.setTop { g with pc := g.pc + 1, stack := .int n :: rest }) t → Steps p.tables e below (T.setTop g) t := by
  obtain ⟨cl, A, h1, h2, h3⟩ := F
  intro t k
  refine X.arraylength hx (by rw [eT]; exact A.1) (State.isArrayOf_alike hZ.alike A.2.1) hg hs hd _ ?_
  rw [len_of h1 (not_neg h2)]
  exact k
theorem Vec.ildI {f : Nat → Int32} (X : Stand p l e R s m args below meth c T locs cells slots) (hx : p.tables.exec = Jvm.exec) (hZ : Z.Warmed39 s.vm) (eT : T.heap = h) (F : Vec Z h a .int n (ints f)) (h1 : 0 ≤ j.toInt) (h2 : j.toInt < n.toInt) {g : JFrame} (hg : g.method = m) {rest : List Value} (hs : g.stack = .int j :: .ref a :: rest) (hd : decode c.code g.pc = .ok (.iaload, 1)) :
    ∀ t, Steps p.tables e below (T.setTop { g with pc := g.pc + 1, stack := .int (f j.toInt.toNat) :: rest }) t → Steps p.tables e below (T.setTop g) t := by
  obtain ⟨cl, A, q1, q2, q3⟩ := F
  exact X.iaload hx (j := j) (v := .int (f j.toInt.toNat)) (by rw [eT]; exact A.1) (State.isArrayOf_alike hZ.alike A.2.1) A.2.2 (inb q1 h1 h2) (q3 j.toInt.toNat (by omega)) hg hs hd
theorem Vec.ildB {f : Nat → Int32} (X : Stand p l e R s m args below meth c T locs cells slots) (hx : p.tables.exec = Jvm.exec) (hZ : Z.Warmed39 s.vm) (eT : T.heap = h) (F : Vec Z h a .byte n (ints f)) (h1 : 0 ≤ j.toInt) (h2 : j.toInt < n.toInt) {g : JFrame} (hg : g.method = m) {rest : List Value} (hs : g.stack = .int j :: .ref a :: rest) (hd : decode c.code g.pc = .ok (.baload, 1)) :
    ∀ t, Steps p.tables e below (T.setTop { g with pc := g.pc + 1, stack := .int (f j.toInt.toNat) :: rest }) t → Steps p.tables e below (T.setTop g) t := by
  obtain ⟨cl, A, q1, q2, q3⟩ := F
  exact X.baloadBytes hx (j := j) (v := .int (f j.toInt.toNat)) (by rw [eT]; exact A.1) (State.isArrayOf_alike hZ.alike A.2.1) A.2.2 (inb q1 h1 h2) (q3 j.toInt.toNat (by omega)) hg hs hd
theorem Vec.ildJ {f : Nat → Int64} (X : Stand p l e R s m args below meth c T locs cells slots) (hx : p.tables.exec = Jvm.exec) (hZ : Z.Warmed39 s.vm) (eT : T.heap = h) (F : Vec Z h a .long n (longs f)) (h1 : 0 ≤ j.toInt) (h2 : j.toInt < n.toInt) {g : JFrame} (hg : g.method = m) {rest : List Value} (hs : g.stack = .int j :: .ref a :: rest) (hd : decode c.code g.pc = .ok (.laload, 1)) :
    ∀ t, Steps p.tables e below (T.setTop { g with pc := g.pc + 1, stack := .long (f j.toInt.toNat) :: rest }) t → Steps p.tables e below (T.setTop g) t := by
  obtain ⟨cl, A, q1, q2, q3⟩ := F
  exact X.laload hx (j := j) (v := .long (f j.toInt.toNat)) (by rw [eT]; exact A.1) (State.isArrayOf_alike hZ.alike A.2.1) A.2.2 (inb q1 h1 h2) (q3 j.toInt.toNat (by omega)) hg hs hd
theorem Vec.istI {f : Nat → Int32} (X : Stand p l e R s m args below meth c T locs cells slots) (hx : p.tables.exec = Jvm.exec) (hZ : Z.Warmed39 s.vm) (eT : T.heap = h) (F : Vec Z h a .int n (ints f)) (h1 : 0 ≤ j.toInt) (h2 : j.toInt < n.toInt) {g : JFrame} (hg : g.method = m) {rest : List Value} (hs : g.stack = .int x :: .int j :: .ref a :: rest) (hd : decode c.code g.pc = .ok (.iastore, 1)) :
    ∃ T' h', Stand p l e R s m args below meth c T' (locs ++ [⟨a, j.toInt.toNat⟩]) cells slots ∧ T'.heap = h' ∧ Wr h h' a j.toInt.toNat (.int x) ∧ Vec Z h' a .int n (ints (updF f j.toInt.toNat x)) ∧ ∀ t, Steps p.tables e below (T'.setTop { g with pc := g.pc + 1, stack := rest }) t → Steps p.tables e below (T.setTop g) t := by
  obtain ⟨cl, A, q1, q2, q3⟩ := id F
  obtain ⟨T', h', X', e', W', st'⟩ := stI X hx hZ eT A (inb q1 h1 h2) hg hs hd
  exact ⟨T', h', X', e', W', upd_ints f _ x ▸ F.set W', st'⟩
theorem Vec.istB {f : Nat → Int32} (X : Stand p l e R s m args below meth c T locs cells slots) (hx : p.tables.exec = Jvm.exec) (hZ : Z.Warmed39 s.vm) (eT : T.heap = h) (F : Vec Z h a .byte n (ints f)) (h1 : 0 ≤ j.toInt) (h2 : j.toInt < n.toInt) {g : JFrame} (hg : g.method = m) {rest : List Value} (hs : g.stack = .int x :: .int j :: .ref a :: rest) (hd : decode c.code g.pc = .ok (.bastore, 1)) :
    ∃ T' h', Stand p l e R s m args below meth c T' (locs ++ [⟨a, j.toInt.toNat⟩]) cells slots ∧ T'.heap = h' ∧ Wr h h' a j.toInt.toNat (.int x.toInt8.toInt32) ∧ Vec Z h' a .byte n (ints (updF f j.toInt.toNat x.toInt8.toInt32)) ∧ ∀ t, Steps p.tables e below (T'.setTop { g with pc := g.pc + 1, stack := rest }) t → Steps p.tables e below (T.setTop g) t := by
  obtain ⟨cl, A, q1, q2, q3⟩ := id F
  obtain ⟨T', h', X', e', W', st'⟩ := stB X hx hZ eT A (inb q1 h1 h2) hg hs hd
  exact ⟨T', h', X', e', W', upd_ints f _ x.toInt8.toInt32 ▸ F.set W', st'⟩
theorem Vec.istJ {f : Nat → Int64} (X : Stand p l e R s m args below meth c T locs cells slots) (hx : p.tables.exec = Jvm.exec) (hZ : Z.Warmed39 s.vm) (eT : T.heap = h) (F : Vec Z h a .long n (longs f)) (h1 : 0 ≤ j.toInt) (h2 : j.toInt < n.toInt) {g : JFrame} (hg : g.method = m) {rest : List Value} (hs : g.stack = .long y :: .int j :: .ref a :: rest) (hd : decode c.code g.pc = .ok (.lastore, 1)) :
    ∃ T' h', Stand p l e R s m args below meth c T' (locs ++ [⟨a, j.toInt.toNat⟩]) cells slots ∧ T'.heap = h' ∧ Wr h h' a j.toInt.toNat (.long y) ∧ Vec Z h' a .long n (longs (updF f j.toInt.toNat y)) ∧ ∀ t, Steps p.tables e below (T'.setTop { g with pc := g.pc + 1, stack := rest }) t → Steps p.tables e below (T.setTop g) t := by
  obtain ⟨cl, A, q1, q2, q3⟩ := id F
  obtain ⟨T', h', X', e', W', st'⟩ := stJ X hx hZ eT A (inb q1 h1 h2) hg hs hd
  exact ⟨T', h', X', e', W', upd_longs f _ y ▸ F.set W', st'⟩
end Vecs
end Jvm.OwnGo
namespace Jvm.OwnGo
section U8
/-- the byte c is taken in the state p, l, m, and the next state is p', l', m' -/
def UA (p l m c p' l' m' : Int) : Prop := (0 < p ∧ l ≤ c ∧ c ≤ m ∧ p' = p - 1 ∧ l' = 128 ∧ m' = 191) ∨ (¬ 0 < p ∧ c < 128 ∧ p' = p ∧ l' = l ∧ m' = m) ∨ (¬ 0 < p ∧ 194 ≤ c ∧ c ≤ 223 ∧ p' = 1 ∧ l' = l ∧ m' = m) ∨
  (¬ 0 < p ∧ 224 ≤ c ∧ c ≤ 239 ∧ p' = 2 ∧ ((c = 224 ∧ l' = 160) ∨ (¬ c = 224 ∧ l' = 128)) ∧ ((c = 237 ∧ m' = 159) ∨ (¬ c = 237 ∧ m' = 191))) ∨
  (¬ 0 < p ∧ 240 ≤ c ∧ c ≤ 244 ∧ p' = 3 ∧ ((c = 240 ∧ l' = 144) ∨ (¬ c = 240 ∧ l' = 128)) ∧ ((c = 244 ∧ m' = 143) ∨ (¬ c = 244 ∧ m' = 191)))
/-- the byte c is refused -/
def UR (p l m c : Int) : Prop := (0 < p ∧ (c < l ∨ m < c)) ∨ (¬ 0 < p ∧ 128 ≤ c ∧ (c < 194 ∨ 244 < c))
/-- n bytes from the place i on: r is -1, or the place of the first one refused -/
def URun (B : Nat → Int) : Nat → Nat → Int → Int → Int → Int → Int → Int → Int → Prop
  | 0, _, p, l, m, r, p', l', m' => r = -1 ∧ p' = p ∧ l' = l ∧ m' = m
  | n + 1, i, p, l, m, r, p', l', m' => (UR p l m (B i) ∧ r = i) ∨ ∃ p1 l1 m1, UA p l m (B i) p1 l1 m1 ∧ URun B n (i + 1) p1 l1 m1 r p' l' m'
/-- how many bytes a lead byte opens -/
def LenIs (l n : Int) : Prop := (l < 128 ∧ n = 1) ∨ (192 ≤ l ∧ l < 224 ∧ n = 2) ∨ (224 ≤ l ∧ l < 240 ∧ n = 3) ∨ (240 ≤ l ∧ l < 248 ∧ n = 4)
def SecOk (l c : Int) : Prop := 128 ≤ c ∧ c ≤ 191 ∧ (l = 224 → 160 ≤ c) ∧ (l = 237 → c ≤ 159) ∧ (l = 240 → 144 ≤ c) ∧ (l = 244 → c ≤ 143)
/-- the first k bytes of a code, its lead l, go on -/
def Vbl (k l c1 c2 c3 : Int) : Prop := (l < 128 ∨ (194 ≤ l ∧ l < 245)) ∧ (2 ≤ k → SecOk l c1) ∧ (3 ≤ k → 128 ≤ c2 ∧ c2 ≤ 191) ∧ (4 ≤ k → 128 ≤ c3 ∧ c3 ≤ 191)
/-- the machine's state beside the reference's s, behind i bytes -/
def Cpl (B : Nat → Int) (i : Nat) (s p l m : Int) : Prop := (s = i ∧ p = 0 ∧ l = 128 ∧ m = 191) ∨ ∃ (d : Nat) (n : Int), 0 < d ∧ d ≤ i ∧ s = (i - d : Nat) ∧ LenIs (B (i - d)) n ∧ p = n - d ∧ 0 < p ∧ Vbl d (B (i - d)) (B (i - d + 1)) (B (i - d + 2)) (B (i - d + 3)) ∧
  ((d = 1 ∧ ((B (i - d) = 224 ∧ l = 160) ∨ (B (i - d) = 240 ∧ l = 144) ∨ (¬ B (i - d) = 224 ∧ ¬ B (i - d) = 240 ∧ l = 128)) ∧ ((B (i - d) = 237 ∧ m = 159) ∨ (B (i - d) = 244 ∧ m = 143) ∨ (¬ B (i - d) = 237 ∧ ¬ B (i - d) = 244 ∧ m = 191))) ∨ (1 < d ∧ l = 128 ∧ m = 191))
/-- one step of the reference -/
def RefStep (B : Nat → Int) (i : Nat) (s s' : Int) : Prop := (s < 0 → s' = s) ∧ (0 ≤ s → ∀ p l m, Cpl B i s p l m → (UR p l m (B i) ∧ s' = -1 - i) ∨ ∃ p' l' m', UA p l m (B i) p' l' m' ∧ 0 ≤ s' ∧ Cpl B (i + 1) s' p' l' m')
/-- what step computes: s is the lead's place, k = i - s + 1 -/
def StepIs (B : Nat → Int) (i : Nat) (s s' : Int) : Prop := ∀ d : Nat, d ≤ i → s = (i - d : Nat) → (¬ (Vbl (d + 1 : Nat) (B (i - d)) (B (i - d + 1)) (B (i - d + 2)) (B (i - d + 3)) ∧ ∃ n, LenIs (B (i - d)) n) ∧ s' = -1 - i) ∨
  (Vbl (d + 1 : Nat) (B (i - d)) (B (i - d + 1)) (B (i - d + 2)) (B (i - d + 3)) ∧ ∃ n, LenIs (B (i - d)) n ∧ ((n = (d + 1 : Nat) ∧ s' = i + 1) ∨ (¬ n = (d + 1 : Nat) ∧ s' = s)))
theorem sec_key {L c l m : Int} (hL : 194 ≤ L ∧ L < 245) (hl : (L = 224 ∧ l = 160) ∨ (L = 240 ∧ l = 144) ∨ (¬ L = 224 ∧ ¬ L = 240 ∧ l = 128)) (hm : (L = 237 ∧ m = 159) ∨ (L = 244 ∧ m = 143) ∨ (¬ L = 237 ∧ ¬ L = 244 ∧ m = 191)) : SecOk L c ↔ (l ≤ c ∧ c ≤ m) := by
  unfold SecOk
  rcases hl with ⟨a, b⟩ | ⟨a, b⟩ | ⟨a, b, e⟩ <;> rcases hm with ⟨f, g⟩ | ⟨f, g⟩ | ⟨f, g, h⟩ <;> omega
set_option maxHeartbeats 4000000 in
theorem refStep {B : Nat → Int} {i : Nat} {s s' : Int} (h0 : ∀ j, 0 ≤ B j ∧ B j ≤ 255) (h1 : s < 0 → s' = s) (h2 : StepIs B i s s') : RefStep B i s s' := by
  refine ⟨h1, fun hs p l m hc => ?_⟩
  rcases hc with ⟨e1, rfl, rfl, rfl⟩ | ⟨d, n, d1, d2, e1, hn, e2, e3, hv, hl⟩
  · -- a new code begins
    have q := h2 0 (Nat.zero_le _) (by omega)
    simp only [Nat.sub_zero] at q
    have b0 := h0 i
    rcases q with ⟨q1, q2⟩ | ⟨q1, n, q2, q3⟩
    · refine Or.inl ⟨?_, q2⟩
      refine Or.inr ⟨by omega, ?_⟩
      by_cases w : B i < 128
      · exact absurd ⟨⟨Or.inl w, fun h => by omega, fun h => by omega, fun h => by omega⟩, 1, Or.inl ⟨w, rfl⟩⟩ q1
      · refine ⟨by omega, ?_⟩
        by_cases w2 : 194 ≤ B i ∧ B i < 245
        · refine absurd ⟨⟨Or.inr w2, fun h => by omega, fun h => by omega, fun h => by omega⟩, ?_⟩ q1
          by_cases a : B i < 224
          · exact ⟨2, Or.inr (Or.inl ⟨by omega, a, rfl⟩)⟩
          · by_cases b : B i < 240
            · exact ⟨3, Or.inr (Or.inr (Or.inl ⟨by omega, b, rfl⟩))⟩
            · exact ⟨4, Or.inr (Or.inr (Or.inr ⟨by omega, by omega, rfl⟩))⟩
        · omega
    · right
      have v1 := q1.1
      rcases q2 with ⟨a, rfl⟩ | ⟨a, b, rfl⟩ | ⟨a, b, rfl⟩ | ⟨a, b, rfl⟩
      · exact ⟨0, 128, 191, Or.inr (Or.inl ⟨by omega, a, rfl, rfl, rfl⟩), by omega, Or.inl ⟨by omega, rfl, rfl, rfl⟩⟩
      · refine ⟨1, 128, 191, Or.inr (Or.inr (Or.inl ⟨by omega, by omega, by omega, rfl, rfl, rfl⟩)), by omega, Or.inr ⟨1, 2, by omega, by omega, by omega, ?_, by omega, by omega, ?_, ?_⟩⟩
        · rw [Nat.add_sub_cancel]; exact Or.inr (Or.inl ⟨a, b, rfl⟩)
        · simpa using q1
        · refine Or.inl ⟨rfl, ?_⟩; rw [Nat.add_sub_cancel]; exact ⟨Or.inr (Or.inr ⟨by omega, by omega, rfl⟩), Or.inr (Or.inr ⟨by omega, by omega, rfl⟩)⟩
      · refine ⟨2, if B i = 224 then 160 else 128, if B i = 237 then 159 else 191, Or.inr (Or.inr (Or.inr (Or.inl ⟨by omega, by omega, by omega, rfl, by split <;> simp_all, by split <;> simp_all⟩))), by omega, Or.inr ⟨1, 3, by omega, by omega, by omega, ?_, by omega, by omega, ?_, ?_⟩⟩
        · rw [Nat.add_sub_cancel]; exact Or.inr (Or.inr (Or.inl ⟨a, b, rfl⟩))
        · simpa using q1
        · refine Or.inl ⟨rfl, ?_⟩; simp only [Nat.add_sub_cancel]; constructor <;> split <;> omega
      · refine ⟨3, if B i = 240 then 144 else 128, if B i = 244 then 143 else 191, Or.inr (Or.inr (Or.inr (Or.inr ⟨by omega, by omega, by omega, rfl, by split <;> simp_all, by split <;> simp_all⟩))), by omega, Or.inr ⟨1, 4, by omega, by omega, by omega, ?_, by omega, by omega, ?_, ?_⟩⟩
        · rw [Nat.add_sub_cancel]; exact Or.inr (Or.inr (Or.inr ⟨a, b, rfl⟩))
        · simpa using q1
        · refine Or.inl ⟨rfl, ?_⟩; simp only [Nat.add_sub_cancel]; constructor <;> split <;> omega
  · -- a code goes on
    obtain ⟨v1, v2, v3, v4⟩ := hv
    have lenU : ∀ n', LenIs (B (i - d)) n' → n' = n := by
      intro n' hn'; unfold LenIs at hn hn'; omega
    have hd : d = 1 ∨ d = 2 ∨ d = 3 := by unfold LenIs at hn; omega
    have key : Vbl (d + 1 : Nat) (B (i - d)) (B (i - d + 1)) (B (i - d + 2)) (B (i - d + 3)) ↔ (l ≤ B i ∧ B i ≤ m) := by
      rcases hd with rfl | rfl | rfl
      · have e : i - 1 + 1 = i := by omega
        rcases hl with ⟨-, hl1, hl2⟩ | ⟨hx, -⟩
        · have hL : 194 ≤ B (i - 1) ∧ B (i - 1) < 245 := by unfold LenIs at hn; omega
          rw [e, ← sec_key hL hl1 hl2]
          exact ⟨fun h => h.2.1 (by omega), fun h => ⟨v1, fun _ => h, fun h => by omega, fun h => by omega⟩⟩
        · omega
      · have e : i - 2 + 2 = i := by omega
        have v2' := v2 (by omega)
        obtain ⟨-, hl1, hl2⟩ : 1 < 2 ∧ l = 128 ∧ m = 191 := by rcases hl with ⟨hx, -⟩ | hx; · omega
                                                               · exact hx
        rw [e, hl1, hl2]
        exact ⟨fun h => h.2.2.1 (by omega), fun h => ⟨v1, fun _ => v2', fun _ => h, fun h => by omega⟩⟩
      · have e : i - 3 + 3 = i := by omega
        have v2' := v2 (by omega)
        have v3' := v3 (by omega)
        obtain ⟨-, hl1, hl2⟩ : 1 < 3 ∧ l = 128 ∧ m = 191 := by rcases hl with ⟨hx, -⟩ | hx; · omega
                                                               · exact hx
        rw [e, hl1, hl2]
        exact ⟨fun h => h.2.2.2 (by omega), fun h => ⟨v1, fun _ => v2', fun _ => v3', fun _ => h⟩⟩
    rcases h2 d d2 e1 with ⟨q1, q2⟩ | ⟨q1, n', q2, q3⟩
    · refine Or.inl ⟨Or.inl ⟨e3, ?_⟩, q2⟩
      have : ¬ (l ≤ B i ∧ B i ≤ m) := fun h => q1 ⟨key.mpr h, n, hn⟩
      omega
    · obtain rfl := lenU _ q2
      have hb := key.mp q1
      refine Or.inr ⟨p - 1, 128, 191, Or.inl ⟨e3, hb.1, hb.2, rfl, rfl, rfl⟩, by omega, ?_⟩
      rcases q3 with ⟨q3, q4⟩ | ⟨q3, q4⟩
      · exact Or.inl ⟨by omega, by omega, rfl, rfl⟩
      · have e : i + 1 - (d + 1) = i - d := by omega
        refine Or.inr ⟨d + 1, n', by omega, by omega, by omega, ?_, by omega, by omega, ?_, ?_⟩
        · rw [e]; exact hn
        · rw [e]; exact q1
        · exact Or.inr ⟨by omega, rfl, rfl⟩
theorem ref_run {B : Nat → Int} {S : Nat → Int} (hS : ∀ i, i < 4 → RefStep B i (S i) (S (i + 1))) : ∀ (n i : Nat) (p l m r p' l' m' : Int), i + n ≤ 4 → 0 ≤ S i → Cpl B i (S i) p l m → URun B n i p l m r p' l' m' →
    (r = -1 ∧ 0 ≤ S (i + n) ∧ Cpl B (i + n) (S (i + n)) p' l' m') ∨ ((i : Int) ≤ r ∧ r < i + n ∧ S (i + n) = -1 - r)
  | 0, i, p, l, m, r, p', l', m', _, h0, hc, ⟨e1, e2, e3, e4⟩ => by subst e1 e2 e3 e4; exact Or.inl ⟨rfl, h0, hc⟩
  | n + 1, i, p, l, m, r, p', l', m', hi, h0, hc, hr => by
    have hneg : ∀ k j, j + k ≤ 4 → S j < 0 → S (j + k) = S j := by
      intro k
      induction k with
      | zero => intro j _ _; rfl
      | succ k ih => intro j hj hs; have a := ih j (by omega) hs; have b := (hS (j + k) (by omega)).1 (by omega); rw [← Nat.add_assoc, b, a]
    have st := (hS i (by omega)).2 h0 p l m hc
    rcases hr with ⟨u1, u2⟩ | ⟨p1, l1, m1, u1, u2⟩
    · rcases st with ⟨s1, s2⟩ | ⟨p2, l2, m2, s1, s2, s3⟩
      · right
        have := hneg n (i + 1) (by omega) (by omega)
        rw [show i + (n + 1) = i + 1 + n by omega, this]
        exact ⟨by omega, by omega, by omega⟩
      · exfalso; unfold UR at u1; unfold UA at s1; omega
    · rcases st with ⟨s1, s2⟩ | ⟨p2, l2, m2, s1, s2, s3⟩
      · exfalso; unfold UR at s1; unfold UA at u1; omega
      · have e : p2 = p1 ∧ l2 = l1 ∧ m2 = m1 := by unfold UA at s1 u1; omega
        obtain ⟨rfl, rfl, rfl⟩ := e
        have q := ref_run hS n (i + 1) p2 l2 m2 r p' l' m' (by omega) s2 s3 u2
        rw [show i + (n + 1) = i + 1 + n by omega]
        rcases q with ⟨a, b⟩ | ⟨a, b, c⟩
        · exact Or.inl ⟨a, b⟩
        · exact Or.inr ⟨by omega, by omega, c⟩
theorem cpl_pos {B : Nat → Int} {i : Nat} {s p l m : Int} (h : Cpl B i s p l m) : (0 < p ↔ s < i) := by
  rcases h with ⟨a, b, -⟩ | ⟨d, n, a, b, c, -, e, f, -⟩ <;> omega
end U8
end Jvm.OwnGo
namespace Jvm.OwnGo
section U9
variable {B B1 : Nat → Int} {S : Nat → Int} {n n' i i' : Nat} {p l m c p1 l1 m1 r p' l' m' : Int}
theorem urun_step (hn : n = n' + 1) (hi : i' = i + 1) (hc : B i = c) (hu : UA p l m c p1 l1 m1) (h : URun B n' i' p1 l1 m1 r p' l' m') : URun B n i p l m r p' l' m' := by
  subst hn hi hc; exact Or.inr ⟨p1, l1, m1, hu, h⟩
theorem urun_rej (hn : n = n' + 1) (hc : B i = c) (hu : UR p l m c) (hr : r = i) : URun B n i p l m r p' l' m' := by
  subst hn hc; exact Or.inl ⟨hu, hr⟩
theorem urun_end (hn : n = 0) : URun B n i p l m (-1) p l m := by subst hn; exact ⟨rfl, rfl, rfl, rfl⟩
theorem urun_shift (hB : ∀ j, j < 4 → B1 (j + 1) = B j) : ∀ (n i : Nat) (p l m r p' l' m' : Int), i + n ≤ 4 → URun B1 n (i + 1) p l m r p' l' m' → ∃ r', URun B n i p l m r' p' l' m' ∧ ((r = -1 ∧ r' = -1) ∨ (0 ≤ r' ∧ r = r' + 1))
  | 0, i, p, l, m, r, p', l', m', _, h => ⟨-1, ⟨rfl, h.2⟩, Or.inl ⟨h.1, rfl⟩⟩
  | n + 1, i, p, l, m, r, p', l', m', hi, h => by
    have hb := hB i (by omega)
    rcases h with ⟨h1, h2⟩ | ⟨p1, l1, m1, h1, h2⟩
    · exact ⟨i, Or.inl ⟨hb ▸ h1, rfl⟩, Or.inr ⟨by omega, by omega⟩⟩
    · obtain ⟨r', q1, q2⟩ := urun_shift hB n (i + 1) p1 l1 m1 r p' l' m' (by omega) h2
      exact ⟨r', Or.inr ⟨p1, l1, m1, hb ▸ h1, q1⟩, q2⟩
theorem ref_neg (hS : ∀ i, i < 4 → RefStep B i (S i) (S (i + 1))) : ∀ k j, j + k ≤ 4 → S j < 0 → S (j + k) = S j := by
  intro k
  induction k with
  | zero => intro j _ _; rfl
  | succ k ih => intro j hj hs; have a := ih j (by omega) hs; have b := (hS (j + k) (by omega)).1 (by omega); rw [← Nat.add_assoc, b, a]
/-- the first part's run against the reference -/
theorem fin1 (hS : ∀ i, i < 4 → RefStep B i (S i) (S (i + 1))) (h0 : S 0 = 0) (hB : ∀ j, j < 4 → B1 (j + 1) = B j) {k : Nat} (hk : k ≤ 4) (hr : URun B1 k 1 0 128 191 r p l m) :
    (r = -1 ∧ 0 ≤ S k ∧ (0 < p ↔ S k < k) ∧ Cpl B k (S k) p l m) ∨ (0 ≤ r - 1 ∧ r - 1 < k ∧ S k = -1 - (r - 1) ∧ S 4 = -1 - (r - 1)) := by
  obtain ⟨r', q1, q2⟩ := urun_shift hB k 0 0 128 191 r p l m (by omega) hr
  have q := ref_run hS k 0 0 128 191 r' p l m (by omega) (by omega) (Or.inl ⟨by simpa using h0, rfl, rfl, rfl⟩) q1
  rw [Nat.zero_add] at q
  rcases q with ⟨a, b, d⟩ | ⟨a, b, d⟩
  · exact Or.inl ⟨by omega, b, cpl_pos d, d⟩
  · refine Or.inr ⟨by omega, by omega, by omega, ?_⟩
    have e := ref_neg hS (4 - k) k (by omega) (by omega)
    rw [show k + (4 - k) = 4 by omega] at e
    omega
theorem fin2 (hS : ∀ i, i < 4 → RefStep B i (S i) (S (i + 1))) (hB : ∀ j, j < 4 → B1 (j + 1) = B j) {k n i : Nat} (hk : k ≤ 4) (hn : n = 4 - k) (hi : i = k + 1) (h0 : 0 ≤ S k) (hc : Cpl B k (S k) p1 l1 m1) (hr : URun B1 n i p1 l1 m1 r p l m) :
    (r = -1 ∧ 0 ≤ S 4 ∧ (0 < p ↔ S 4 < 4)) ∨ (k ≤ r - 1 ∧ r - 1 < 4 ∧ S 4 = -1 - (r - 1)) := by
  subst hn hi
  obtain ⟨r', q1, q2⟩ := urun_shift hB (4 - k) k p1 l1 m1 r p l m (by omega) hr
  have q := ref_run hS (4 - k) k p1 l1 m1 r' p l m (by omega) h0 hc q1
  rw [show k + (4 - k) = 4 by omega] at q
  rcases q with ⟨a, b, d⟩ | ⟨a, b, d⟩
  · exact Or.inl ⟨by omega, b, by have := cpl_pos d; omega⟩
  · exact Or.inr ⟨by omega, by omega, by omega⟩
theorem cpl_len {d : Nat} (hd : 0 < d) (hi : d ≤ i) {s : Int} (hs : s = (i - d : Nat)) (h : ∃ p l m, Cpl B i s p l m) : ∃ n, LenIs (B (i - d)) n ∧ (d : Int) < n := by
  obtain ⟨p, l, m, h⟩ := h
  rcases h with ⟨e, -⟩ | ⟨d', n, a, b, e, f, g, k, -⟩
  · omega
  · obtain rfl : d' = d := by omega
    exact ⟨n, f, by omega⟩
def BB (b0 b1 b2 b3 : Int32) : Nat → Int := fun j => (lst [b0, b1, b2, b3] j).toInt
def SS (s1 s2 s3 s4 : Int32) : Nat → Int := fun j => (lst [(0 : Int32), s1, s2, s3, s4] j).toInt
theorem BB_rng {b0 b1 b2 b3 : Int32} (h0 : 0 ≤ b0.toInt ∧ b0.toInt ≤ 255) (h1 : 0 ≤ b1.toInt ∧ b1.toInt ≤ 255) (h2 : 0 ≤ b2.toInt ∧ b2.toInt ≤ 255) (h3 : 0 ≤ b3.toInt ∧ b3.toInt ≤ 255) : ∀ j, 0 ≤ BB b0 b1 b2 b3 j ∧ BB b0 b1 b2 b3 j ≤ 255
  | 0 => h0 | 1 => h1 | 2 => h2 | 3 => h3 | _ + 4 => (by decide : 0 ≤ (default : Int32).toInt ∧ (default : Int32).toInt ≤ 255)
theorem SS_steps {s1 s2 s3 s4 : Int32} (h0 : RefStep B 0 0 s1.toInt) (h1 : RefStep B 1 s1.toInt s2.toInt) (h2 : RefStep B 2 s2.toInt s3.toInt) (h3 : RefStep B 3 s3.toInt s4.toInt) : ∀ i, i < 4 → RefStep B i (SS s1 s2 s3 s4 i) (SS s1 s2 s3 s4 (i + 1))
  | 0, _ => h0 | 1, _ => h1 | 2, _ => h2 | 3, _ => h3 | _ + 4, h => absurd h (by omega)
theorem next_cpl {s s' : Int} (h : RefStep B i s s') (hs : s < 0 ∨ ∃ p l m, Cpl B i s p l m) (h0 : ∀ p l m, Cpl B i s p l m → 0 ≤ s) : s' < 0 ∨ ∃ p l m, Cpl B (i + 1) s' p l m := by
  rcases hs with a | ⟨p, l, m, a⟩
  · exact Or.inl (by have := h.1 a; omega)
  · rcases h.2 (h0 p l m a) p l m a with ⟨-, b⟩ | ⟨p', l', m', -, -, b⟩
    · exact Or.inl (by omega)
    · exact Or.inr ⟨p', l', m', b⟩
theorem cpl_nn {s : Int} (h : Cpl B i s p l m) : 0 ≤ s := by
  rcases h with ⟨e, -⟩ | ⟨d, n, a, b, e, -⟩ <;> omega
end U9
section Hi
theorem of_small (x : Int32) (h : 0 ≤ x.toInt ∧ x.toInt < 256) : ∃ k : Nat, k < 256 ∧ x = Int32.ofNat k ∧ x.toInt = k := by
  refine ⟨x.toInt.toNat, by omega, ?_, by omega⟩
  apply Int32.toInt_inj.mp
  rw [Int32.toInt_ofNat_small (by omega)]; omega
theorem hi_all : ∀ k : Fin 256, (Int32.ofNat k.val &&& 128).toInt = (k.val / 128 * 128 : Nat) ∧ (Int32.ofNat k.val &&& 192).toInt = (k.val / 64 * 64 : Nat) ∧ (Int32.ofNat k.val &&& 224).toInt = (k.val / 32 * 32 : Nat) ∧ (Int32.ofNat k.val &&& 240).toInt = (k.val / 16 * 16 : Nat) ∧ (Int32.ofNat k.val &&& 248).toInt = (k.val / 8 * 8 : Nat) := by decide +kernel
theorem himask_128 (x : Int32) (h : 0 ≤ x.toInt ∧ x.toInt < 256) : (x &&& 128).toInt = x.toInt / 128 * 128 := by
  obtain ⟨k, a, rfl, c⟩ := of_small x h; have q := (hi_all ⟨k, a⟩).1; dsimp only at q; rw [q, c]; omega
theorem himask_192 (x : Int32) (h : 0 ≤ x.toInt ∧ x.toInt < 256) : (x &&& 192).toInt = x.toInt / 64 * 64 := by
  obtain ⟨k, a, rfl, c⟩ := of_small x h; have q := (hi_all ⟨k, a⟩).2.1; dsimp only at q; rw [q, c]; omega
theorem himask_224 (x : Int32) (h : 0 ≤ x.toInt ∧ x.toInt < 256) : (x &&& 224).toInt = x.toInt / 32 * 32 := by
  obtain ⟨k, a, rfl, c⟩ := of_small x h; have q := (hi_all ⟨k, a⟩).2.2.1; dsimp only at q; rw [q, c]; omega
theorem himask_240 (x : Int32) (h : 0 ≤ x.toInt ∧ x.toInt < 256) : (x &&& 240).toInt = x.toInt / 16 * 16 := by
  obtain ⟨k, a, rfl, c⟩ := of_small x h; have q := (hi_all ⟨k, a⟩).2.2.2.1; dsimp only at q; rw [q, c]; omega
theorem himask_248 (x : Int32) (h : 0 ≤ x.toInt ∧ x.toInt < 256) : (x &&& 248).toInt = x.toInt / 8 * 8 := by
  obtain ⟨k, a, rfl, c⟩ := of_small x h; have q := (hi_all ⟨k, a⟩).2.2.2.2; dsimp only at q; rw [q, c]; omega
end Hi
end Jvm.OwnGo
namespace Jvm.OwnGo
section U10
variable {p l m c p' l' m' : Int}
theorem ua1 (h1 : 0 < p) (h2 : l ≤ c) (h3 : c ≤ m) (h4 : p' = p - 1) (h5 : l' = 128) (h6 : m' = 191) : UA p l m c p' l' m' := Or.inl ⟨h1, h2, h3, h4, h5, h6⟩
theorem ua2 (h1 : ¬ 0 < p) (h2 : c < 128) (h4 : p' = p) (h5 : l' = l) (h6 : m' = m) : UA p l m c p' l' m' := Or.inr (Or.inl ⟨h1, h2, h4, h5, h6⟩)
theorem ua3 (h1 : ¬ 0 < p) (h2 : 194 ≤ c) (h3 : c ≤ 223) (h4 : p' = 1) (h5 : l' = l) (h6 : m' = m) : UA p l m c p' l' m' := Or.inr (Or.inr (Or.inl ⟨h1, h2, h3, h4, h5, h6⟩))
theorem ua4 (h1 : ¬ 0 < p) (h2 : 224 ≤ c) (h3 : c ≤ 239) (h4 : p' = 2) {d : Int} (hd : d = c) (h5 : (d = 224 ∧ l' = 160) ∨ (¬ d = 224 ∧ l' = 128)) (h6 : (d = 237 ∧ m' = 159) ∨ (¬ d = 237 ∧ m' = 191)) : UA p l m c p' l' m' := by
  subst hd; exact Or.inr (Or.inr (Or.inr (Or.inl ⟨h1, h2, h3, h4, h5, h6⟩)))
theorem ua5 (h1 : ¬ 0 < p) (h2 : 240 ≤ c) (h3 : c ≤ 244) (h4 : p' = 3) {d : Int} (hd : d = c) (h5 : (d = 240 ∧ l' = 144) ∨ (¬ d = 240 ∧ l' = 128)) (h6 : (d = 244 ∧ m' = 143) ∨ (¬ d = 244 ∧ m' = 191)) : UA p l m c p' l' m' := by
  subst hd; exact Or.inr (Or.inr (Or.inr (Or.inr ⟨h1, h2, h3, h4, h5, h6⟩)))
end U10
end Jvm.OwnGo
namespace Jvm.OwnGo
section U11
variable {B B1 : Nat → Int} {S : Nat → Int} {i : Nat} {r p l m : Int}
theorem ref_late (hS : ∀ i, i < 4 → RefStep B i (S i) (S (i + 1))) : ∀ n k, k + n = 4 → 0 ≤ S k → (∃ p l m, Cpl B k (S k) p l m) → S 4 < 0 → (k : Int) ≤ -1 - S 4
  | 0, k, hk, h0, _, h4 => by obtain rfl : k = 4 := by omega
                              omega
  | n + 1, k, hk, h0, ⟨p, l, m, hc⟩, h4 => by
    rcases (hS k (by omega)).2 h0 p l m hc with ⟨-, q⟩ | ⟨p', l', m', -, q1, q2⟩
    · have e := ref_neg hS n (k + 1) (by omega) (by omega)
      rw [show k + 1 + n = 4 by omega] at e
      omega
    · have := ref_late hS n (k + 1) (by omega) q1 ⟨p', l', m', q2⟩ h4
      omega
theorem stepIs_of {s s' : Int} (h : 0 ≤ s → StepIs B i s s') : StepIs B i s s' := fun d hd hs => h (by omega) d hd hs
theorem by_rng {y0 y1 y2 y3 y4 y5 : Int32} (h0 : -128 ≤ y0.toInt ∧ y0.toInt < 128) (h1 : -128 ≤ y1.toInt ∧ y1.toInt < 128) (h2 : -128 ≤ y2.toInt ∧ y2.toInt < 128) (h3 : -128 ≤ y3.toInt ∧ y3.toInt < 128) (h4 : -128 ≤ y4.toInt ∧ y4.toInt < 128) (h5 : -128 ≤ y5.toInt ∧ y5.toInt < 128) : ∀ j : Nat, -128 ≤ ((lst [y0, y1, y2, y3, y4, y5]) j).toInt ∧ ((lst [y0, y1, y2, y3, y4, y5]) j).toInt < 128
  | 0 => h0 | 1 => h1 | 2 => h2 | 3 => h3 | 4 => h4 | 5 => h5 | _ + 6 => (by decide : -128 ≤ (default : Int32).toInt ∧ (default : Int32).toInt < 128)
theorem by_eq {b0 b1 b2 b3 y0 y1 y2 y3 y4 y5 : Int32} (h1 : y1.toInt % 256 = b0.toInt) (h2 : y2.toInt % 256 = b1.toInt) (h3 : y3.toInt % 256 = b2.toInt) (h4 : y4.toInt % 256 = b3.toInt) : ∀ j, j < 4 → (fun j : Nat => ((lst [y0, y1, y2, y3, y4, y5]) j).toInt % 256) (j + 1) = BB b0 b1 b2 b3 j
  | 0, _ => h1 | 1, _ => h2 | 2, _ => h3 | 3, _ => h4 | _ + 4, h => absurd h (by omega)
end U11
end Jvm.OwnGo
namespace Jvm.OwnGo
def LenGe (l k : Int) : Prop := (k ≤ 1 ∧ l < 128) ∨ (k ≤ 2 ∧ 192 ≤ l ∧ l < 224) ∨ (k ≤ 3 ∧ 224 ≤ l ∧ l < 240) ∨ (k ≤ 4 ∧ 240 ≤ l ∧ l < 248)
theorem lenGe {l n k : Int} (h : LenIs l n) (q : k ≤ n) : LenGe l k := by unfold LenIs at h; unfold LenGe; omega
end Jvm.OwnGo
namespace Jvm.OwnGo
open Jvm Jvm.RoadKit
theorem neg_l {r : Int32} (h : r.toInt < 0) : (r.toInt < 0 ∧ ((-1 : Int32) - r).toInt = -1 - r.toInt) ∨ (0 ≤ r.toInt ∧ ((-1 : Int32) - r).toInt = -1) := by
  have f1 := rng32 r
  have f2 : (-1 : Int32).toInt = -1 := by decide
  have f3 := c_isub (-1 : Int32) r
  have f4 := rng32 ((-1 : Int32) - r)
  omega
theorem fin_p {pp t k r j S : Int} (hp : (0 < pp ∧ r = 1) ∨ (¬ 0 < pp ∧ r = 0)) (hj : (0 ≤ t ∧ t < k ∧ j = 1) ∨ (¬ (0 ≤ t ∧ t < k) ∧ j = 0)) (h3 : 0 < pp ↔ S < k) (h4 : 0 ≤ S) (hs : S = t) : r = j := by omega
theorem fin_e {P : Prop} {kn rr r2 e k s4 S4 ok : Int} (hg : (rr = -1 ∧ 0 ≤ S4 ∧ P) ∨ (kn ≤ rr - 1 ∧ rr - 1 < 4 ∧ S4 = -1 - (rr - 1))) (hf : (rr = -1 ∧ r2 = -1) ∨ (0 ≤ rr ∧ r2 = rr - ok)) (hone : ok = 1 + k) (he : (s4 < 0 ∧ e = -1 - s4) ∨ (0 ≤ s4 ∧ e = -1)) (hS4 : S4 = s4) (h0 : ¬ e < 0) : r2 = e - k := by
  rcases hg with ⟨a, b, -⟩ | ⟨a, b, d⟩ <;> omega
theorem fin_m {P : Prop} {kn rr r2 e s4 S4 ok : Int} (hg : (rr = -1 ∧ 0 ≤ S4 ∧ P) ∨ (kn ≤ rr - 1 ∧ rr - 1 < 4 ∧ S4 = -1 - (rr - 1))) (hk : 0 ≤ kn) (hf : (rr = -1 ∧ r2 = -1) ∨ (0 ≤ rr ∧ r2 = rr - ok)) (he : (s4 < 0 ∧ e = -1 - s4) ∨ (0 ≤ s4 ∧ e = -1)) (hS4 : S4 = s4) (h0 : e < 0) : r2 = -1 := by
  rcases hg with ⟨a, b, -⟩ | ⟨a, b, d⟩ <;> omega
theorem fin_g {P : Prop} {kn rr e s4 S4 : Int} (hg : (rr = -1 ∧ 0 ≤ S4 ∧ P) ∨ (kn ≤ rr - 1 ∧ rr - 1 < 4 ∧ S4 = -1 - (rr - 1))) (hk : 0 ≤ kn) (he : (s4 < 0 ∧ e = -1 - s4) ∨ (0 ≤ s4 ∧ e = -1)) (hS4 : S4 = s4) (h0 : e < 0) : 0 ≤ S4 ∧ P := by
  rcases hg with ⟨a, b, c⟩ | ⟨a, b, d⟩
  · exact ⟨b, c⟩
  · exfalso; omega
theorem neg_r {r : Int32} (h : ¬ r.toInt < 0) : (r.toInt < 0 ∧ (-1 : Int32).toInt = -1 - r.toInt) ∨ (0 ≤ r.toInt ∧ (-1 : Int32).toInt = -1) := Or.inr ⟨by omega, by decide⟩
end Jvm.OwnGo
namespace Jvm.Pilot.@@N@@
open Jvm Jvm.ClassFile Sem Op Lib Jvm.Free Jvm.Stand Jvm.LawKit Jvm.RoadKit Bundle Jvm.OwnGo Jvm.Pilot.@@N@@.Jvm.D
theorem d5_0 : decode jdk_29_method_69_code 0 = .ok (.iload_n 0, 1) := by decide +kernel
theorem d5_1 : decode jdk_29_method_69_code 1 = .ok (.iload_n 1, 1) := by decide +kernel
theorem d5_2 : decode jdk_29_method_69_code 2 = .ok (.if_icmp .gt 7, 3) := by decide +kernel
theorem d5_9 : decode jdk_29_method_69_code 9 = .ok (.iload_n 1, 1) := by decide +kernel
theorem d5_10 : decode jdk_29_method_69_code 10 = .ok (.ireturn, 1) := by decide +kernel
theorem d5_5 : decode jdk_29_method_69_code 5 = .ok (.iload_n 0, 1) := by decide +kernel
theorem d5_6 : decode jdk_29_method_69_code 6 = .ok (.goto 4, 3) := by decide +kernel
theorem ef_rm5 (m : MethodId) (a : Int32) (b : Int32) : entryFrame m #[(.int a), (.int b)] 2 = mkF m 0 #[.val (.int a), .val (.int b)] [] := by first | (simp [entryFrame, mkF, argsToLocals, Value.category]; done) | rfl
def Q5 (Z : State) (a : Int32) (b : Int32) (h0 : Heap) (n0 : Nat) (vv : Option Value) (h : Heap) (LL : List Loc) : Prop := ∃ (r : Int32), vv = some (.int r) ∧ Fr n0 LL ∧ ((a.toInt ≤ b.toInt ∧ r.toInt = a.toInt) ∨ (b.toInt < a.toInt ∧ r.toInt = b.toInt)) ∧ h = h0
set_option maxRecDepth 65536 in
set_option maxHeartbeats 40000000 in
theorem rm5 (l : Launch) (Z : State) (a0 : Array Value) (hw : ∀ d ∈ tables_1, d.before a0 Z = true) (ws : List Jvm.Cond) (a : Int32) (b : Int32) (h0 : Heap) (n0 : Nat) (Z0 : n0 ≤ h0.size) :
    MetFree l (⟨"java/lang/Math", "min", "(II)I"⟩ : MethodName) (head1 (Jvm.Cond.code (⟨"java/lang/Math", "min", "(II)I"⟩ : MethodName) jdk_29_method_69_code 2 (some .int) :: ws) ({ frames := 0, cells := 0, slots := 0, locals := 0 } : Room)) (fun aa UU => aa = #[(.int a), (.int b)] ∧ Z.Warmed39 UU.vm ∧ UU.heap = h0) (fun _ _ _ _ _ => True) (fun _ UU oo UU' => ∃ vv LL, oo = .returned vv ∧ Q5 Z a b h0 n0 vv UU'.heap LL ∧ FrameEnd UU oo UU' LL 0 0) := by
  refine MetFree.of_bodySF (Jvm.Free.JP.mathPlain rfl (by decide +kernel)) hisR ?_
  intro p e s m args below meth c s₁ Bd hml0 hP hK
  obtain ⟨rfl, hZ, hh⟩ := hP
  have hx := Bd.exec
  have hby := Bd.bytes
  have hlk : meth.locks = false := BodyLoose.notSynchronized Bd
  have hml : c.maxLocals = 2 := hml0
  have hown : s.vm.findClass "java/lang/Math" = some m.cls := findClass_of_methodNamed Bd.named
  have hnm := (name_of_methodNamed Bd.named Bd.method).1
  have X0 : Stand p l e ({ frames := 0, cells := 0, slots := 0, locals := 0 } : Room) s m #[(.int a), (.int b)] below meth c s₁ [] 0 0 := Stand.of_body Bd
  have e0 : s₁.heap = h0 := by rw [← hh, Bd.state]; rfl
  have N0 := Fr.nil n0
  have K0 : Keep h0 h0 [] := Keep.refl h0 _
  refine (?_ : Go p e below s (Q5 Z a b h0 n0) 0 0 (s₁.setTop (entryFrame m #[(.int a), (.int b)] 2)))
  rw [ef_rm5]
  generalize hQ : Q5 Z a b h0 n0 = Q
  show Go p e below s Q 0 0 (s₁.setTop (mkF m 0 #[.val (.int a), .val (.int b)] []))
  have f1 := rng32 a
  have f2 := rng32 b
  refine Go.st (fun _ k => XS.iloadN X0.here hx rfl (hb hby d5_0) rfl k) ?_
  refine Go.st (fun _ k => XS.iloadN X0.here hx rfl (hb hby d5_1) rfl k) ?_
  by_cases c3 : b.toInt < a.toInt
  ·
    refine Go.st (fun _ k => XS.icmpYes X0.here hx rfl (pc0 := 2) (pc' := 9) rfl (hb hby d5_2) rfl (tlt (ltI rfl rfl c3)).2.2.1 (by decide) (by decide) k) ?_
    refine Go.st (fun _ k => XS.iloadN X0.here hx rfl (hb hby d5_9) rfl k) ?_
    show Go p e below s Q 0 0 (s₁.setTop (mkF m 10 #[.val (.int a), .val (.int b)] [(.int b)]))
    exact Go.retI X0 hx hlk Bd.returns (hb hby d5_10) (by rw [← hQ, e0]; exact ⟨b, rfl, N0, (by omega), rfl⟩) (by decide) (by decide)
  ·
    refine Go.st (fun _ k => XS.icmpNo X0.here hx rfl (hb hby d5_2) rfl (flt (nltI rfl rfl c3)).2.2.1 k) ?_
    refine Go.st (fun _ k => XS.iloadN X0.here hx rfl (hb hby d5_5) rfl k) ?_
    refine Go.st (fun _ k => XS.goto X0.here hx rfl (pc0 := 6) (pc' := 10) rfl (hb hby d5_6) (by decide) (by decide) k) ?_
    show Go p e below s Q 0 0 (s₁.setTop (mkF m 10 #[.val (.int a), .val (.int b)] [(.int a)]))
    exact Go.retI X0 hx hlk Bd.returns (hb hby d5_10) (by rw [← hQ, e0]; exact ⟨a, rfl, N0, (by omega), rfl⟩) (by decide) (by decide)
theorem d4_0 : decode jdk_29_method_65_code 0 = .ok (.iload_n 0, 1) := by decide +kernel
theorem d4_1 : decode jdk_29_method_65_code 1 = .ok (.iload_n 1, 1) := by decide +kernel
theorem d4_2 : decode jdk_29_method_65_code 2 = .ok (.if_icmp .lt 7, 3) := by decide +kernel
theorem d4_9 : decode jdk_29_method_65_code 9 = .ok (.iload_n 1, 1) := by decide +kernel
theorem d4_10 : decode jdk_29_method_65_code 10 = .ok (.ireturn, 1) := by decide +kernel
theorem d4_5 : decode jdk_29_method_65_code 5 = .ok (.iload_n 0, 1) := by decide +kernel
theorem d4_6 : decode jdk_29_method_65_code 6 = .ok (.goto 4, 3) := by decide +kernel
theorem ef_rm4 (m : MethodId) (a : Int32) (b : Int32) : entryFrame m #[(.int a), (.int b)] 2 = mkF m 0 #[.val (.int a), .val (.int b)] [] := by first | (simp [entryFrame, mkF, argsToLocals, Value.category]; done) | rfl
def Q4 (Z : State) (a : Int32) (b : Int32) (h0 : Heap) (n0 : Nat) (vv : Option Value) (h : Heap) (LL : List Loc) : Prop := ∃ (r : Int32), vv = some (.int r) ∧ Fr n0 LL ∧ ((b.toInt ≤ a.toInt ∧ r.toInt = a.toInt) ∨ (a.toInt < b.toInt ∧ r.toInt = b.toInt)) ∧ h = h0
set_option maxRecDepth 65536 in
set_option maxHeartbeats 40000000 in
theorem rm4 (l : Launch) (Z : State) (a0 : Array Value) (hw : ∀ d ∈ tables_1, d.before a0 Z = true) (ws : List Jvm.Cond) (a : Int32) (b : Int32) (h0 : Heap) (n0 : Nat) (Z0 : n0 ≤ h0.size) :
    MetFree l (⟨"java/lang/Math", "max", "(II)I"⟩ : MethodName) (head1 (Jvm.Cond.code (⟨"java/lang/Math", "max", "(II)I"⟩ : MethodName) jdk_29_method_65_code 2 (some .int) :: ws) ({ frames := 0, cells := 0, slots := 0, locals := 0 } : Room)) (fun aa UU => aa = #[(.int a), (.int b)] ∧ Z.Warmed39 UU.vm ∧ UU.heap = h0) (fun _ _ _ _ _ => True) (fun _ UU oo UU' => ∃ vv LL, oo = .returned vv ∧ Q4 Z a b h0 n0 vv UU'.heap LL ∧ FrameEnd UU oo UU' LL 0 0) := by
  refine MetFree.of_bodySF (Jvm.Free.JP.mathPlain rfl (by decide +kernel)) hisR ?_
  intro p e s m args below meth c s₁ Bd hml0 hP hK
  obtain ⟨rfl, hZ, hh⟩ := hP
  have hx := Bd.exec
  have hby := Bd.bytes
  have hlk : meth.locks = false := BodyLoose.notSynchronized Bd
  have hml : c.maxLocals = 2 := hml0
  have hown : s.vm.findClass "java/lang/Math" = some m.cls := findClass_of_methodNamed Bd.named
  have hnm := (name_of_methodNamed Bd.named Bd.method).1
  have X0 : Stand p l e ({ frames := 0, cells := 0, slots := 0, locals := 0 } : Room) s m #[(.int a), (.int b)] below meth c s₁ [] 0 0 := Stand.of_body Bd
  have e0 : s₁.heap = h0 := by rw [← hh, Bd.state]; rfl
  have N0 := Fr.nil n0
  have K0 : Keep h0 h0 [] := Keep.refl h0 _
  refine (?_ : Go p e below s (Q4 Z a b h0 n0) 0 0 (s₁.setTop (entryFrame m #[(.int a), (.int b)] 2)))
  rw [ef_rm4]
  generalize hQ : Q4 Z a b h0 n0 = Q
  show Go p e below s Q 0 0 (s₁.setTop (mkF m 0 #[.val (.int a), .val (.int b)] []))
  have f1 := rng32 a
  have f2 := rng32 b
  refine Go.st (fun _ k => XS.iloadN X0.here hx rfl (hb hby d4_0) rfl k) ?_
  refine Go.st (fun _ k => XS.iloadN X0.here hx rfl (hb hby d4_1) rfl k) ?_
  by_cases c3 : a.toInt < b.toInt
  ·
    refine Go.st (fun _ k => XS.icmpYes X0.here hx rfl (pc0 := 2) (pc' := 9) rfl (hb hby d4_2) rfl (tlt (ltI rfl rfl c3)).1 (by decide) (by decide) k) ?_
    refine Go.st (fun _ k => XS.iloadN X0.here hx rfl (hb hby d4_9) rfl k) ?_
    show Go p e below s Q 0 0 (s₁.setTop (mkF m 10 #[.val (.int a), .val (.int b)] [(.int b)]))
    exact Go.retI X0 hx hlk Bd.returns (hb hby d4_10) (by rw [← hQ, e0]; exact ⟨b, rfl, N0, (by omega), rfl⟩) (by decide) (by decide)
  ·
    refine Go.st (fun _ k => XS.icmpNo X0.here hx rfl (hb hby d4_2) rfl (flt (nltI rfl rfl c3)).1 k) ?_
    refine Go.st (fun _ k => XS.iloadN X0.here hx rfl (hb hby d4_5) rfl k) ?_
    refine Go.st (fun _ k => XS.goto X0.here hx rfl (pc0 := 6) (pc' := 10) rfl (hb hby d4_6) (by decide) (by decide) k) ?_
    show Go p e below s Q 0 0 (s₁.setTop (mkF m 10 #[.val (.int a), .val (.int b)] [(.int a)]))
    exact Go.retI X0 hx hlk Bd.returns (hb hby d4_10) (by rw [← hQ, e0]; exact ⟨a, rfl, N0, (by omega), rfl⟩) (by decide) (by decide)
theorem pn_0 : plainName "com/example/ballast/ballast/json/Utf8CheckPinLaw" = true := by first | (simp [plainName, overriddenIn]; done) | decide +kernel
theorem d3_0 : decode method_2_code 0 = .ok (.iload_n 0, 1) := by decide +kernel
theorem d3_1 : decode method_2_code 1 = .ok (.sipush 128, 3) := by decide +kernel
theorem d3_4 : decode method_2_code 4 = .ok (.iand, 1) := by decide +kernel
theorem d3_5 : decode method_2_code 5 = .ok (.ifCond .ne 5, 3) := by decide +kernel
theorem liI_128 : (128 : Int32).toInt = 128 := by decide
theorem liI_0 : (0 : Int32).toInt = 0 := by decide
theorem d3_8 : decode method_2_code 8 = .ok (.iconst 1, 1) := by decide +kernel
theorem liI_1 : (1 : Int32).toInt = 1 := by decide
theorem d3_9 : decode method_2_code 9 = .ok (.ireturn, 1) := by decide +kernel
theorem d3_10 : decode method_2_code 10 = .ok (.iload_n 0, 1) := by decide +kernel
theorem d3_11 : decode method_2_code 11 = .ok (.sipush 224, 3) := by decide +kernel
theorem d3_14 : decode method_2_code 14 = .ok (.iand, 1) := by decide +kernel
theorem d3_15 : decode method_2_code 15 = .ok (.sipush 192, 3) := by decide +kernel
theorem d3_18 : decode method_2_code 18 = .ok (.if_icmp .ne 5, 3) := by decide +kernel
theorem liI_224 : (224 : Int32).toInt = 224 := by decide
theorem liI_192 : (192 : Int32).toInt = 192 := by decide
theorem d3_21 : decode method_2_code 21 = .ok (.iconst 2, 1) := by decide +kernel
theorem liI_2 : (2 : Int32).toInt = 2 := by decide
theorem d3_22 : decode method_2_code 22 = .ok (.ireturn, 1) := by decide +kernel
theorem d3_23 : decode method_2_code 23 = .ok (.iload_n 0, 1) := by decide +kernel
theorem d3_24 : decode method_2_code 24 = .ok (.sipush 240, 3) := by decide +kernel
theorem d3_27 : decode method_2_code 27 = .ok (.iand, 1) := by decide +kernel
theorem d3_28 : decode method_2_code 28 = .ok (.sipush 224, 3) := by decide +kernel
theorem d3_31 : decode method_2_code 31 = .ok (.if_icmp .ne 5, 3) := by decide +kernel
theorem liI_240 : (240 : Int32).toInt = 240 := by decide
theorem d3_34 : decode method_2_code 34 = .ok (.iconst 3, 1) := by decide +kernel
theorem liI_3 : (3 : Int32).toInt = 3 := by decide
theorem d3_35 : decode method_2_code 35 = .ok (.ireturn, 1) := by decide +kernel
theorem d3_36 : decode method_2_code 36 = .ok (.iload_n 0, 1) := by decide +kernel
theorem d3_37 : decode method_2_code 37 = .ok (.sipush 248, 3) := by decide +kernel
theorem d3_40 : decode method_2_code 40 = .ok (.iand, 1) := by decide +kernel
theorem d3_41 : decode method_2_code 41 = .ok (.sipush 240, 3) := by decide +kernel
theorem d3_44 : decode method_2_code 44 = .ok (.if_icmp .ne 5, 3) := by decide +kernel
theorem liI_248 : (248 : Int32).toInt = 248 := by decide
theorem d3_47 : decode method_2_code 47 = .ok (.iconst 4, 1) := by decide +kernel
theorem liI_4 : (4 : Int32).toInt = 4 := by decide
theorem d3_48 : decode method_2_code 48 = .ok (.ireturn, 1) := by decide +kernel
theorem d3_49 : decode method_2_code 49 = .ok (.iconst 0, 1) := by decide +kernel
theorem d3_50 : decode method_2_code 50 = .ok (.ireturn, 1) := by decide +kernel
theorem ef_rm3 (m : MethodId) (a : Int32) : entryFrame m #[(.int a)] 1 = mkF m 0 #[.val (.int a)] [] := by first | (simp [entryFrame, mkF, argsToLocals, Value.category]; done) | rfl
def Q3 (Z : State) (a : Int32) (h0 : Heap) (n0 : Nat) (vv : Option Value) (h : Heap) (LL : List Loc) : Prop := ∃ (r : Int32), vv = some (.int r) ∧ Fr n0 LL ∧ ((LenIs a.toInt r.toInt) ∨ (((128 ≤ a.toInt ∧ a.toInt < 192) ∨ 248 ≤ a.toInt) ∧ r.toInt = 0)) ∧ h = h0
set_option maxRecDepth 65536 in
set_option maxHeartbeats 40000000 in
theorem rm3 (l : Launch) (Z : State) (a0 : Array Value) (hw : ∀ d ∈ tables_1, d.before a0 Z = true) (ws : List Jvm.Cond) (a : Int32) (h0 : Heap) (n0 : Nat) (Z0 : n0 ≤ h0.size) (ha : 0 ≤ a.toInt ∧ a.toInt < 256) :
    MetFree l (⟨"com/example/ballast/ballast/json/Utf8CheckPinLaw", "len", "(I)I"⟩ : MethodName) (head1 (Jvm.Cond.code (⟨"com/example/ballast/ballast/json/Utf8CheckPinLaw", "len", "(I)I"⟩ : MethodName) method_2_code 1 (some .int) :: ws) ({ frames := 0, cells := 0, slots := 0, locals := 0 } : Room)) (fun aa UU => aa = #[(.int a)] ∧ Z.Warmed39 UU.vm ∧ UU.heap = h0) (fun _ _ _ _ _ => True) (fun _ UU oo UU' => ∃ vv LL, oo = .returned vv ∧ Q3 Z a h0 n0 vv UU'.heap LL ∧ FrameEnd UU oo UU' LL 0 0) := by
  refine MetFree.of_bodySF (plainFor_of_name pn_0) hisR ?_
  intro p e s m args below meth c s₁ Bd hml0 hP hK
  obtain ⟨rfl, hZ, hh⟩ := hP
  have hx := Bd.exec
  have hby := Bd.bytes
  have hlk : meth.locks = false := BodyLoose.notSynchronized Bd
  have hml : c.maxLocals = 1 := hml0
  have hown : s.vm.findClass "com/example/ballast/ballast/json/Utf8CheckPinLaw" = some m.cls := findClass_of_methodNamed Bd.named
  have hnm := (name_of_methodNamed Bd.named Bd.method).1
  have X0 : Stand p l e ({ frames := 0, cells := 0, slots := 0, locals := 0 } : Room) s m #[(.int a)] below meth c s₁ [] 0 0 := Stand.of_body Bd
  have e0 : s₁.heap = h0 := by rw [← hh, Bd.state]; rfl
  have N0 := Fr.nil n0
  have K0 : Keep h0 h0 [] := Keep.refl h0 _
  refine (?_ : Go p e below s (Q3 Z a h0 n0) 0 0 (s₁.setTop (entryFrame m #[(.int a)] 1)))
  rw [ef_rm3]
  generalize hQ : Q3 Z a h0 n0 = Q
  show Go p e below s Q 0 0 (s₁.setTop (mkF m 0 #[.val (.int a)] []))
  have f1 := rng32 a
  refine Go.st (fun _ k => XS.iloadN X0.here hx rfl (hb hby d3_0) rfl k) ?_
  refine Go.st (fun _ k => XS.sipush X0.here hx rfl (hb hby d3_1) k) ?_
  refine Go.st (fun _ k => XS.iand X0.here hx rfl (hb hby d3_4) rfl k) ?_
  have f2 := liI_128
  have f3 := himask_128 a (by omega)
  have f4 := liI_0
  by_cases c5 : (a &&& (128 : Int32)).toInt = 0
  ·
    refine Go.st (fun _ k => XS.ifNo X0.here hx rfl (hb hby d3_5) rfl ((if0 _ _).trans (teq (eqI rfl liI_0 c5)).2) k) ?_
    refine Go.st (fun _ k => XS.iconst X0.here hx rfl (hb hby d3_8) k) ?_
    show Go p e below s Q 0 0 (s₁.setTop (mkF m 9 #[.val (.int a)] [(.int (1 : Int32))]))
    have f6 := liI_1
    exact Go.retI X0 hx hlk Bd.returns (hb hby d3_9) (by rw [← hQ, e0]; exact ⟨(1 : Int32), rfl, N0, (by unfold LenIs; omega), rfl⟩) (by decide) (by decide)
  ·
    refine Go.st (fun _ k => XS.ifYes X0.here hx rfl (pc0 := 5) (pc' := 10) rfl (hb hby d3_5) rfl ((if0 _ _).trans (feq (neI rfl liI_0 c5)).2) (by decide) (by decide) k) ?_
    refine Go.st (fun _ k => XS.iloadN X0.here hx rfl (hb hby d3_10) rfl k) ?_
    refine Go.st (fun _ k => XS.sipush X0.here hx rfl (hb hby d3_11) k) ?_
    show Go p e below s Q 0 0 (s₁.setTop (mkF m 14 #[.val (.int a)] [(.int (224 : Int32)), (.int a)]))
    refine Go.st (fun _ k => XS.iand X0.here hx rfl (hb hby d3_14) rfl k) ?_
    refine Go.st (fun _ k => XS.sipush X0.here hx rfl (hb hby d3_15) k) ?_
    have f7 := liI_224
    have f8 := himask_224 a (by omega)
    have f9 := liI_192
    by_cases c10 : (a &&& (224 : Int32)).toInt = 192
    ·
      refine Go.st (fun _ k => XS.icmpNo X0.here hx rfl (hb hby d3_18) rfl (teq (eqI rfl liI_192 c10)).2 k) ?_
      refine Go.st (fun _ k => XS.iconst X0.here hx rfl (hb hby d3_21) k) ?_
      show Go p e below s Q 0 0 (s₁.setTop (mkF m 22 #[.val (.int a)] [(.int (2 : Int32))]))
      have f11 := liI_2
      exact Go.retI X0 hx hlk Bd.returns (hb hby d3_22) (by rw [← hQ, e0]; exact ⟨(2 : Int32), rfl, N0, (by unfold LenIs; omega), rfl⟩) (by decide) (by decide)
    ·
      refine Go.st (fun _ k => XS.icmpYes X0.here hx rfl (pc0 := 18) (pc' := 23) rfl (hb hby d3_18) rfl (feq (neI rfl liI_192 c10)).2 (by decide) (by decide) k) ?_
      refine Go.st (fun _ k => XS.iloadN X0.here hx rfl (hb hby d3_23) rfl k) ?_
      refine Go.st (fun _ k => XS.sipush X0.here hx rfl (hb hby d3_24) k) ?_
      refine Go.st (fun _ k => XS.iand X0.here hx rfl (hb hby d3_27) rfl k) ?_
      show Go p e below s Q 0 0 (s₁.setTop (mkF m 28 #[.val (.int a)] [(.int (a &&& (240 : Int32)))]))
      refine Go.st (fun _ k => XS.sipush X0.here hx rfl (hb hby d3_28) k) ?_
      have f12 := liI_240
      have f13 := himask_240 a (by omega)
      by_cases c14 : (a &&& (240 : Int32)).toInt = 224
      ·
        refine Go.st (fun _ k => XS.icmpNo X0.here hx rfl (hb hby d3_31) rfl (teq (eqI rfl liI_224 c14)).2 k) ?_
        refine Go.st (fun _ k => XS.iconst X0.here hx rfl (hb hby d3_34) k) ?_
        show Go p e below s Q 0 0 (s₁.setTop (mkF m 35 #[.val (.int a)] [(.int (3 : Int32))]))
        have f15 := liI_3
        exact Go.retI X0 hx hlk Bd.returns (hb hby d3_35) (by rw [← hQ, e0]; exact ⟨(3 : Int32), rfl, N0, (by unfold LenIs; omega), rfl⟩) (by decide) (by decide)
      ·
        refine Go.st (fun _ k => XS.icmpYes X0.here hx rfl (pc0 := 31) (pc' := 36) rfl (hb hby d3_31) rfl (feq (neI rfl liI_224 c14)).2 (by decide) (by decide) k) ?_
        refine Go.st (fun _ k => XS.iloadN X0.here hx rfl (hb hby d3_36) rfl k) ?_
        refine Go.st (fun _ k => XS.sipush X0.here hx rfl (hb hby d3_37) k) ?_
        refine Go.st (fun _ k => XS.iand X0.here hx rfl (hb hby d3_40) rfl k) ?_
        refine Go.st (fun _ k => XS.sipush X0.here hx rfl (hb hby d3_41) k) ?_
        show Go p e below s Q 0 0 (s₁.setTop (mkF m 44 #[.val (.int a)] [(.int (240 : Int32)), (.int (a &&& (248 : Int32)))]))
        have f16 := liI_248
        have f17 := himask_248 a (by omega)
        by_cases c18 : (a &&& (248 : Int32)).toInt = 240
        ·
          refine Go.st (fun _ k => XS.icmpNo X0.here hx rfl (hb hby d3_44) rfl (teq (eqI rfl liI_240 c18)).2 k) ?_
          refine Go.st (fun _ k => XS.iconst X0.here hx rfl (hb hby d3_47) k) ?_
          show Go p e below s Q 0 0 (s₁.setTop (mkF m 48 #[.val (.int a)] [(.int (4 : Int32))]))
          have f19 := liI_4
          exact Go.retI X0 hx hlk Bd.returns (hb hby d3_48) (by rw [← hQ, e0]; exact ⟨(4 : Int32), rfl, N0, (by unfold LenIs; omega), rfl⟩) (by decide) (by decide)
        ·
          refine Go.st (fun _ k => XS.icmpYes X0.here hx rfl (pc0 := 44) (pc' := 49) rfl (hb hby d3_44) rfl (feq (neI rfl liI_240 c18)).2 (by decide) (by decide) k) ?_
          refine Go.st (fun _ k => XS.iconst X0.here hx rfl (hb hby d3_49) k) ?_
          show Go p e below s Q 0 0 (s₁.setTop (mkF m 50 #[.val (.int a)] [(.int (0 : Int32))]))
          exact Go.retI X0 hx hlk Bd.returns (hb hby d3_50) (by rw [← hQ, e0]; exact ⟨(0 : Int32), rfl, N0, (by unfold LenIs; omega), rfl⟩) (by decide) (by decide)
theorem d2_0 : decode method_3_code 0 = .ok (.aload_n 0, 1) := by decide +kernel
theorem d2_1 : decode method_3_code 1 = .ok (.iload_n 1, 1) := by decide +kernel
theorem d2_2 : decode method_3_code 2 = .ok (.iaload, 1) := by decide +kernel
theorem pd_0 : parseMethodDescriptor "(I)I" = some ⟨[.int], some .int⟩ := by decide +kernel
theorem d2_3 : decode method_3_code 3 = .ok (.invokestatic 7, 3) := by decide +kernel
theorem d2_6 : decode method_3_code 6 = .ok (.istore_n 3, 1) := by decide +kernel
theorem d2_7 : decode method_3_code 7 = .ok (.iload_n 3, 1) := by decide +kernel
theorem d2_8 : decode method_3_code 8 = .ok (.ifCond .ne 5, 3) := by decide +kernel
theorem d2_11 : decode method_3_code 11 = .ok (.iconst 0, 1) := by decide +kernel
theorem d2_12 : decode method_3_code 12 = .ok (.ireturn, 1) := by decide +kernel
theorem d2_13 : decode method_3_code 13 = .ok (.aload_n 0, 1) := by decide +kernel
theorem d2_14 : decode method_3_code 14 = .ok (.iload_n 1, 1) := by decide +kernel
theorem d2_15 : decode method_3_code 15 = .ok (.iaload, 1) := by decide +kernel
theorem d2_16 : decode method_3_code 16 = .ok (.iload_n 3, 1) := by decide +kernel
theorem d2_17 : decode method_3_code 17 = .ok (.iconst 1, 1) := by decide +kernel
theorem d2_18 : decode method_3_code 18 = .ok (.if_icmp .ne 8, 3) := by decide +kernel
theorem d2_21 : decode method_3_code 21 = .ok (.bipush 127, 2) := by decide +kernel
theorem d2_23 : decode method_3_code 23 = .ok (.goto 25, 3) := by decide +kernel
theorem d2_48 : decode method_3_code 48 = .ok (.iand, 1) := by decide +kernel
theorem d2_49 : decode method_3_code 49 = .ok (.istore 4, 2) := by decide +kernel
theorem liI_127 : (127 : Int32).toInt = 127 := by decide
theorem d2_51 : decode method_3_code 51 = .ok (.iload_n 2, 1) := by decide +kernel
theorem d2_52 : decode method_3_code 52 = .ok (.iconst 2, 1) := by decide +kernel
theorem d2_53 : decode method_3_code 53 = .ok (.if_icmp .lt 37, 3) := by decide +kernel
theorem d2_90 : decode method_3_code 90 = .ok (.iload_n 2, 1) := by decide +kernel
theorem d2_91 : decode method_3_code 91 = .ok (.iconst 3, 1) := by decide +kernel
theorem d2_92 : decode method_3_code 92 = .ok (.if_icmp .lt 37, 3) := by decide +kernel
theorem d2_129 : decode method_3_code 129 = .ok (.iload_n 2, 1) := by decide +kernel
theorem d2_130 : decode method_3_code 130 = .ok (.iconst 4, 1) := by decide +kernel
theorem d2_131 : decode method_3_code 131 = .ok (.if_icmp .lt 37, 3) := by decide +kernel
theorem d2_168 : decode method_3_code 168 = .ok (.bipush 6, 2) := by decide +kernel
theorem d2_170 : decode method_3_code 170 = .ok (.iload_n 3, 1) := by decide +kernel
theorem d2_171 : decode method_3_code 171 = .ok (.iload_n 2, 1) := by decide +kernel
theorem d2_172 : decode method_3_code 172 = .ok (.isub, 1) := by decide +kernel
theorem d2_173 : decode method_3_code 173 = .ok (.imul, 1) := by decide +kernel
theorem d2_174 : decode method_3_code 174 = .ok (.istore 5, 2) := by decide +kernel
theorem d2_176 : decode method_3_code 176 = .ok (.iload 4, 2) := by decide +kernel
theorem d2_178 : decode method_3_code 178 = .ok (.iload 5, 2) := by decide +kernel
theorem d2_180 : decode method_3_code 180 = .ok (.ishl, 1) := by decide +kernel
theorem d2_181 : decode method_3_code 181 = .ok (.istore 6, 2) := by decide +kernel
theorem d2_183 : decode method_3_code 183 = .ok (.iload 6, 2) := by decide +kernel
theorem d2_185 : decode method_3_code 185 = .ok (.iconst 1, 1) := by decide +kernel
theorem d2_186 : decode method_3_code 186 = .ok (.iload 5, 2) := by decide +kernel
theorem d2_188 : decode method_3_code 188 = .ok (.ishl, 1) := by decide +kernel
theorem d2_189 : decode method_3_code 189 = .ok (.iconst 1, 1) := by decide +kernel
theorem d2_190 : decode method_3_code 190 = .ok (.isub, 1) := by decide +kernel
theorem d2_191 : decode method_3_code 191 = .ok (.ior, 1) := by decide +kernel
theorem d2_192 : decode method_3_code 192 = .ok (.istore 7, 2) := by decide +kernel
theorem d2_194 : decode method_3_code 194 = .ok (.iload_n 3, 1) := by decide +kernel
theorem d2_195 : decode method_3_code 195 = .ok (.iconst 1, 1) := by decide +kernel
theorem d2_196 : decode method_3_code 196 = .ok (.if_icmp .ne 7, 3) := by decide +kernel
theorem d2_199 : decode method_3_code 199 = .ok (.iconst 0, 1) := by decide +kernel
theorem d2_200 : decode method_3_code 200 = .ok (.goto 27, 3) := by decide +kernel
theorem d2_227 : decode method_3_code 227 = .ok (.istore 8, 2) := by decide +kernel
theorem d2_229 : decode method_3_code 229 = .ok (.iload_n 3, 1) := by decide +kernel
theorem d2_230 : decode method_3_code 230 = .ok (.iconst 1, 1) := by decide +kernel
theorem d2_231 : decode method_3_code 231 = .ok (.if_icmp .ne 8, 3) := by decide +kernel
theorem d2_234 : decode method_3_code 234 = .ok (.bipush 127, 2) := by decide +kernel
theorem d2_236 : decode method_3_code 236 = .ok (.goto 26, 3) := by decide +kernel
theorem d2_262 : decode method_3_code 262 = .ok (.istore 9, 2) := by decide +kernel
theorem d2_264 : decode method_3_code 264 = .ok (.iload 6, 2) := by decide +kernel
theorem d2_266 : decode method_3_code 266 = .ok (.iload 8, 2) := by decide +kernel
theorem pd_1 : parseMethodDescriptor "(II)I" = some ⟨[.int, .int], some .int⟩ := by decide +kernel
theorem d2_268 : decode method_3_code 268 = .ok (.invokestatic 16, 3) := by decide +kernel
theorem d2_271 : decode method_3_code 271 = .ok (.istore 10, 2) := by decide +kernel
theorem d2_273 : decode method_3_code 273 = .ok (.iload 7, 2) := by decide +kernel
theorem d2_275 : decode method_3_code 275 = .ok (.iload 9, 2) := by decide +kernel
theorem d2_277 : decode method_3_code 277 = .ok (.invokestatic 22, 3) := by decide +kernel
theorem d2_280 : decode method_3_code 280 = .ok (.istore 11, 2) := by decide +kernel
theorem d2_282 : decode method_3_code 282 = .ok (.iload 10, 2) := by decide +kernel
theorem d2_284 : decode method_3_code 284 = .ok (.iload 11, 2) := by decide +kernel
theorem d2_286 : decode method_3_code 286 = .ok (.if_icmp .gt 21, 3) := by decide +kernel
theorem d2_307 : decode method_3_code 307 = .ok (.iconst 0, 1) := by decide +kernel
theorem d2_308 : decode method_3_code 308 = .ok (.ireturn, 1) := by decide +kernel
theorem d2_289 : decode method_3_code 289 = .ok (.iload 10, 2) := by decide +kernel
theorem d2_291 : decode method_3_code 291 = .ok (.ldc 25, 2) := by decide +kernel
theorem d2_293 : decode method_3_code 293 = .ok (.if_icmp .lt 10, 3) := by decide +kernel
theorem liI_55296 : (55296 : Int32).toInt = 55296 := by decide
theorem d2_303 : decode method_3_code 303 = .ok (.iconst 1, 1) := by decide +kernel
theorem d2_304 : decode method_3_code 304 = .ok (.goto 4, 3) := by decide +kernel
theorem d2_296 : decode method_3_code 296 = .ok (.iload 11, 2) := by decide +kernel
theorem d2_298 : decode method_3_code 298 = .ok (.ldc 26, 2) := by decide +kernel
theorem d2_300 : decode method_3_code 300 = .ok (.if_icmp .le 7, 3) := by decide +kernel
theorem liI_57343 : (57343 : Int32).toInt = 57343 := by decide
theorem d2_26 : decode method_3_code 26 = .ok (.iload_n 3, 1) := by decide +kernel
theorem d2_27 : decode method_3_code 27 = .ok (.iconst 2, 1) := by decide +kernel
theorem d2_28 : decode method_3_code 28 = .ok (.if_icmp .ne 8, 3) := by decide +kernel
theorem d2_31 : decode method_3_code 31 = .ok (.bipush 31, 2) := by decide +kernel
theorem d2_33 : decode method_3_code 33 = .ok (.goto 15, 3) := by decide +kernel
theorem liI_31 : (31 : Int32).toInt = 31 := by decide
theorem liI_6 : (6 : Int32).toInt = 6 := by decide
theorem liI_63 : (63 : Int32).toInt = 63 := by decide
theorem d2_203 : decode method_3_code 203 = .ok (.iload_n 3, 1) := by decide +kernel
theorem d2_204 : decode method_3_code 204 = .ok (.iconst 2, 1) := by decide +kernel
theorem d2_205 : decode method_3_code 205 = .ok (.if_icmp .ne 9, 3) := by decide +kernel
theorem d2_208 : decode method_3_code 208 = .ok (.sipush 128, 3) := by decide +kernel
theorem d2_211 : decode method_3_code 211 = .ok (.goto 16, 3) := by decide +kernel
theorem d2_239 : decode method_3_code 239 = .ok (.iload_n 3, 1) := by decide +kernel
theorem d2_240 : decode method_3_code 240 = .ok (.iconst 2, 1) := by decide +kernel
theorem d2_241 : decode method_3_code 241 = .ok (.if_icmp .ne 9, 3) := by decide +kernel
theorem d2_244 : decode method_3_code 244 = .ok (.sipush 2047, 3) := by decide +kernel
theorem d2_247 : decode method_3_code 247 = .ok (.goto 15, 3) := by decide +kernel
theorem liI_2047 : (2047 : Int32).toInt = 2047 := by decide
theorem d2_36 : decode method_3_code 36 = .ok (.iload_n 3, 1) := by decide +kernel
theorem d2_37 : decode method_3_code 37 = .ok (.iconst 3, 1) := by decide +kernel
theorem d2_38 : decode method_3_code 38 = .ok (.if_icmp .ne 8, 3) := by decide +kernel
theorem d2_41 : decode method_3_code 41 = .ok (.bipush 15, 2) := by decide +kernel
theorem d2_43 : decode method_3_code 43 = .ok (.goto 5, 3) := by decide +kernel
theorem liI_15 : (15 : Int32).toInt = 15 := by decide
theorem liI_12 : (12 : Int32).toInt = 12 := by decide
theorem liI_4095 : (4095 : Int32).toInt = 4095 := by decide
theorem d2_214 : decode method_3_code 214 = .ok (.iload_n 3, 1) := by decide +kernel
theorem d2_215 : decode method_3_code 215 = .ok (.iconst 3, 1) := by decide +kernel
theorem d2_216 : decode method_3_code 216 = .ok (.if_icmp .ne 9, 3) := by decide +kernel
theorem d2_219 : decode method_3_code 219 = .ok (.sipush 2048, 3) := by decide +kernel
theorem d2_222 : decode method_3_code 222 = .ok (.goto 5, 3) := by decide +kernel
theorem d2_250 : decode method_3_code 250 = .ok (.iload_n 3, 1) := by decide +kernel
theorem d2_251 : decode method_3_code 251 = .ok (.iconst 3, 1) := by decide +kernel
theorem d2_252 : decode method_3_code 252 = .ok (.if_icmp .ne 8, 3) := by decide +kernel
theorem d2_255 : decode method_3_code 255 = .ok (.ldc 14, 2) := by decide +kernel
theorem d2_257 : decode method_3_code 257 = .ok (.goto 5, 3) := by decide +kernel
theorem liI_2048 : (2048 : Int32).toInt = 2048 := by decide
theorem liI_65535 : (65535 : Int32).toInt = 65535 := by decide
theorem d2_46 : decode method_3_code 46 = .ok (.bipush 7, 2) := by decide +kernel
theorem liI_7 : (7 : Int32).toInt = 7 := by decide
theorem liI_18 : (18 : Int32).toInt = 18 := by decide
theorem liI_262143 : (262143 : Int32).toInt = 262143 := by decide
theorem d2_225 : decode method_3_code 225 = .ok (.ldc 13, 2) := by decide +kernel
theorem d2_260 : decode method_3_code 260 = .ok (.ldc 15, 2) := by decide +kernel
theorem liI_65536 : (65536 : Int32).toInt = 65536 := by decide
theorem liI_1114111 : (1114111 : Int32).toInt = 1114111 := by decide
theorem ef_rmv_1 (m : MethodId) (ar : Addr) (s0 : Int32) : entryFrame m #[(.ref ar), (.int s0), (.int (1 : Int32))] 12 = mkF m 0 #[.val (.ref ar), .val (.int s0), .val (.int (1 : Int32)), .unset, .unset, .unset, .unset, .unset, .unset, .unset, .unset, .unset] [] := by first | (simp [entryFrame, mkF, argsToLocals, Value.category]; done) | rfl
def Qv_1 (Z : State) (ar : Addr) (s0 : Int32) (f : Nat → Int32) (c0 : Int32) (c1 : Int32) (c2 : Int32) (c3 : Int32) (h0 : Heap) (n0 : Nat) (vv : Option Value) (h : Heap) (LL : List Loc) : Prop := ∃ (r : Int32), vv = some (.int r) ∧ Fr n0 LL ∧ ((r.toInt = 1 ∧ Vbl 1 c0.toInt c1.toInt c2.toInt c3.toInt ∧ ∃ n, LenIs c0.toInt n) ∨ (r.toInt = 0 ∧ ¬ (Vbl 1 c0.toInt c1.toInt c2.toInt c3.toInt ∧ ∃ n, LenIs c0.toInt n))) ∧ h = h0
set_option maxRecDepth 65536 in
set_option maxHeartbeats 40000000 in
theorem rmv_1 (l : Launch) (Z : State) (a0 : Array Value) (hw : ∀ d ∈ tables_1, d.before a0 Z = true) (ws : List Jvm.Cond) (ar : Addr) (s0 : Int32) (f : Nat → Int32) (c0 : Int32) (c1 : Int32) (c2 : Int32) (c3 : Int32) (h0 : Heap) (n0 : Nat) (Z0 : n0 ≤ h0.size) (hV : Vec Z h0 ar .int (4 : Int32) (ints f)) (hr : ∀ j : Nat, 0 ≤ (f j).toInt ∧ (f j).toInt ≤ 255) (hs0 : 0 ≤ s0.toInt ∧ s0.toInt + 1 ≤ 4) (hc0 : f (s0.toInt.toNat + 0) = c0) :
    MetFree l (⟨"com/example/ballast/ballast/json/Utf8CheckPinLaw", "viable", "([III)Z"⟩ : MethodName) (head1 (Jvm.Cond.code (⟨"com/example/ballast/ballast/json/Utf8CheckPinLaw", "viable", "([III)Z"⟩ : MethodName) method_3_code 12 (some .boolean) :: ws) ({ frames := 1, cells := 0, slots := 0, locals := 13 } : Room)) (fun aa UU => aa = #[(.ref ar), (.int s0), (.int (1 : Int32))] ∧ Z.Warmed39 UU.vm ∧ UU.heap = h0) (fun _ _ _ _ _ => True) (fun _ UU oo UU' => ∃ vv LL, oo = .returned vv ∧ Qv_1 Z ar s0 f c0 c1 c2 c3 h0 n0 vv UU'.heap LL ∧ FrameEnd UU oo UU' LL 0 0) := by
  refine MetFree.of_bodySF (plainFor_of_name pn_0) hisR ?_
  intro p e s m args below meth c s₁ Bd hml0 hP hK
  obtain ⟨rfl, hZ, hh⟩ := hP
  have hx := Bd.exec
  have hby := Bd.bytes
  have hlk : meth.locks = false := BodyLoose.notSynchronized Bd
  have hml : c.maxLocals = 12 := hml0
  have hown : s.vm.findClass "com/example/ballast/ballast/json/Utf8CheckPinLaw" = some m.cls := findClass_of_methodNamed Bd.named
  have hnm := (name_of_methodNamed Bd.named Bd.method).1
  have X0 : Stand p l e ({ frames := 1, cells := 0, slots := 0, locals := 13 } : Room) s m #[(.ref ar), (.int s0), (.int (1 : Int32))] below meth c s₁ [] 0 0 := Stand.of_body Bd
  have e0 : s₁.heap = h0 := by rw [← hh, Bd.state]; rfl
  have N0 := Fr.nil n0
  have K0 : Keep h0 h0 [] := Keep.refl h0 _
  refine (?_ : Go p e below s (Qv_1 Z ar s0 f c0 c1 c2 c3 h0 n0) 0 0 (s₁.setTop (entryFrame m #[(.ref ar), (.int s0), (.int (1 : Int32))] 12)))
  rw [ef_rmv_1]
  generalize hQ : Qv_1 Z ar s0 f c0 c1 c2 c3 h0 n0 = Q
  have hrr0 : 0 ≤ c0.toInt ∧ c0.toInt ≤ 255 := by rw [← hc0]; exact hr _
  show Go p e below s Q 0 0 (s₁.setTop (mkF m 0 #[.val (.ref ar), .val (.int s0), .val (.int (1 : Int32)), .unset, .unset, .unset, .unset, .unset, .unset, .unset, .unset, .unset] []))
  have f1 := rng32 s0
  have f2 := liI_1
  refine Go.st (fun _ k => XS.aloadN X0.here hx rfl (hb hby d2_0) rfl rfl k) ?_
  refine Go.st (fun _ k => XS.iloadN X0.here hx rfl (hb hby d2_1) rfl k) ?_
  have f4 := liI_4
  have r5 : 0 ≤ s0.toInt := by omega
  have r6 : s0.toInt < (4 : Int32).toInt := by omega
  refine Go.st (Vec.ildI X0 hx hZ e0 hV (j := s0) r5 r6 (g := (mkF m 2 #[.val (.ref ar), .val (.int s0), .val (.int (1 : Int32)), .unset, .unset, .unset, .unset, .unset, .unset, .unset, .unset, .unset] [(.int s0), (.ref ar)])) rfl rfl (hb hby d2_2)) ?_
  show Go p e below s Q 0 0 (s₁.setTop (mkF m 3 #[.val (.ref ar), .val (.int s0), .val (.int (1 : Int32)), .unset, .unset, .unset, .unset, .unset, .unset, .unset, .unset, .unset] [(.int (f s0.toInt.toNat))]))
  have f8 := rng32 (f s0.toInt.toNat)
  have p9 : 0 ≤ (f s0.toInt.toNat).toInt ∧ (f s0.toInt.toNat).toInt < 256 := by have := hr s0.toInt.toNat; omega
  obtain ⟨_, _, ⟨T7, L7, k7, n7⟩, -, X7, ⟨Lc7, hQ7, l7, y7, z7⟩, st7⟩ := Jvm.LawKit.callS X0 hx (y := (⟨"com/example/ballast/ballast/json/Utf8CheckPinLaw", "len", "(I)I"⟩ : MethodName)) hown (mvT hZ (hw _ (List.mem_of_getElem? (i := 10) rfl))) (mvT hZ (hw _ (List.mem_of_getElem? (i := 11) rfl))) (mvT hZ (hw _ (List.mem_of_getElem? (i := 5) rfl))) (mvT hZ (hw _ (List.mem_of_getElem? (i := 12) rfl))) (by decide) (backOf (W := 0) (rm3 l Z a0 hw [] (f s0.toInt.toNat) h0 n0 (Nat.le_trans Z0 K0.1) p9) hZ (hw _ (List.mem_of_getElem? (i := 12) rfl)) (hw _ (List.mem_of_getElem? (i := 5) rfl)) (by decide) (by decide)) (g := (mkF m 3 #[.val (.ref ar), .val (.int s0), .val (.int (1 : Int32)), .unset, .unset, .unset, .unset, .unset, .unset, .unset, .unset, .unset] [(.int (f s0.toInt.toNat))])) rfl (by rw [hml]; rfl) (argsL := [(.int (f s0.toInt.toNat))]) (rest := []) (lenOf pd_0 rfl) rfl (by show 2 * 0 + _ ≤ _; exact Nat.le_of_eq rfl) (hb hby d2_3) (fun _ _ => ⟨rfl, e0, (by decide : 0 + 0 ≤ _), (by decide : 0 + 0 ≤ _)⟩)
  dsimp only [Pt.U, Pt.locs, Pt.cells, Pt.slots] at X7 l7 y7 z7 st7 hQ7
  subst y7 z7
  obtain ⟨r_10, rfl, N7q, f11, e7⟩ := hQ7
  have N7 : Fr n0 L7 := by rw [l7]; exact Fr.app N0 N7q
  refine Go.st st7 ?_
  show Go p e below s Q 0 0 (T7.setTop (mkF m 6 #[.val (.ref ar), .val (.int s0), .val (.int (1 : Int32)), .unset, .unset, .unset, .unset, .unset, .unset, .unset, .unset, .unset] [(.int r_10)]))
  have f12 := rng32 r_10
  have hL := f11
  unfold LenIs at hL
  have hc0' : (f s0.toInt.toNat).toInt = c0.toInt := by rw [← hc0]; rfl
  refine Go.st (fun _ k => XS.istoreN X7.here hx rfl (hb hby d2_6) rfl (l' := #[.val (.ref ar), .val (.int s0), .val (.int (1 : Int32)), .val (.int r_10), .unset, .unset, .unset, .unset, .unset, .unset, .unset, .unset]) rfl k) ?_
  refine Go.st (fun _ k => XS.iloadN X7.here hx rfl (hb hby d2_7) rfl k) ?_
  have f13 := liI_0
  by_cases c14 : r_10.toInt = 0
  ·
    refine Go.st (fun _ k => XS.ifNo X7.here hx rfl (hb hby d2_8) rfl ((if0 _ _).trans (teq (eqI rfl liI_0 c14)).2) k) ?_
    refine Go.st (fun _ k => XS.iconst X7.here hx rfl (hb hby d2_11) k) ?_
    show Go p e below s Q 0 0 (T7.setTop (mkF m 12 #[.val (.ref ar), .val (.int s0), .val (.int (1 : Int32)), .val (.int r_10), .unset, .unset, .unset, .unset, .unset, .unset, .unset, .unset] [(.int (0 : Int32))]))
    exact Go.retN X7 hx hlk (by simp) Bd.returns (hb hby d2_12) (z' := (0 : Int32)) (by decide) (by rw [← hQ, e7]; exact ⟨(0 : Int32), rfl, N7, (by refine Or.inr ⟨by omega, ?_⟩; rintro ⟨hv, nn, hn⟩; unfold Vbl SecOk at hv; unfold LenIs at hn; omega), rfl⟩) (by decide) (by decide)
  ·
    refine Go.st (fun _ k => XS.ifYes X7.here hx rfl (pc0 := 8) (pc' := 13) rfl (hb hby d2_8) rfl ((if0 _ _).trans (feq (neI rfl liI_0 c14)).2) (by decide) (by decide) k) ?_
    show Go p e below s Q 0 0 (T7.setTop (mkF m 13 #[.val (.ref ar), .val (.int s0), .val (.int (1 : Int32)), .val (.int r_10), .unset, .unset, .unset, .unset, .unset, .unset, .unset, .unset] []))
    have cs15 : r_10.toInt = 1 ∨ r_10.toInt = 2 ∨ r_10.toInt = 3 ∨ r_10.toInt = 4 := by omega
    rcases cs15 with cs16 | cs17 | cs18 | cs19
    ·
      have cs16' : r_10 = (1 : Int32) := eqI cs16 liI_1 rfl
      subst cs16'
      show Go p e below s Q 0 0 (T7.setTop (mkF m 13 #[.val (.ref ar), .val (.int s0), .val (.int (1 : Int32)), .val (.int (1 : Int32)), .unset, .unset, .unset, .unset, .unset, .unset, .unset, .unset] []))
      have f20 : 0 ≤ c0.toInt ∧ c0.toInt < 128 := by omega
      clear f1 f2 f4 f8 f11 f12 hL f13 c14
      refine Go.st (fun _ k => XS.aloadN X7.here hx rfl (hb hby d2_13) rfl rfl k) ?_
      refine Go.st (fun _ k => XS.iloadN X7.here hx rfl (hb hby d2_14) rfl k) ?_
      have f22 := rng32 s0
      have f23 := liI_4
      have r24 : 0 ≤ s0.toInt := by omega
      have r25 : s0.toInt < (4 : Int32).toInt := by omega
      refine Go.st (Vec.ildI X7 hx hZ e7 hV (j := s0) r24 r25 (g := (mkF m 15 #[.val (.ref ar), .val (.int s0), .val (.int (1 : Int32)), .val (.int (1 : Int32)), .unset, .unset, .unset, .unset, .unset, .unset, .unset, .unset] [(.int s0), (.ref ar)])) rfl rfl (hb hby d2_15)) ?_
      show Go p e below s Q 0 0 (T7.setTop (mkF m 16 #[.val (.ref ar), .val (.int s0), .val (.int (1 : Int32)), .val (.int (1 : Int32)), .unset, .unset, .unset, .unset, .unset, .unset, .unset, .unset] [(.int (f s0.toInt.toNat))]))
      refine Go.st (fun _ k => XS.iloadN X7.here hx rfl (hb hby d2_16) rfl k) ?_
      refine Go.st (fun _ k => XS.iconst X7.here hx rfl (hb hby d2_17) k) ?_
      refine Go.st (fun _ k => XS.icmpNo X7.here hx rfl (hb hby d2_18) rfl (teq (eqI liI_1 liI_1 (by decide))).2 k) ?_
      refine Go.st (fun _ k => XS.bipush X7.here hx rfl (hb hby d2_21) k) ?_
      refine Go.st (fun _ k => XS.goto X7.here hx rfl (pc0 := 23) (pc' := 48) rfl (hb hby d2_23) (by decide) (by decide) k) ?_
      refine Go.st (fun _ k => XS.iand X7.here hx rfl (hb hby d2_48) rfl k) ?_
      show Go p e below s Q 0 0 (T7.setTop (mkF m 49 #[.val (.ref ar), .val (.int s0), .val (.int (1 : Int32)), .val (.int (1 : Int32)), .unset, .unset, .unset, .unset, .unset, .unset, .unset, .unset] [(.int ((f s0.toInt.toNat) &&& (127 : Int32)))]))
      refine Go.st (fun _ k => XS.istore X7.here hx rfl (hb hby d2_49) rfl (l' := #[.val (.ref ar), .val (.int s0), .val (.int (1 : Int32)), .val (.int (1 : Int32)), .val (.int ((f s0.toInt.toNat) &&& (127 : Int32))), .unset, .unset, .unset, .unset, .unset, .unset, .unset]) rfl k) ?_
      show Go p e below s Q 0 0 (T7.setTop (mkF m 51 #[.val (.ref ar), .val (.int s0), .val (.int (1 : Int32)), .val (.int (1 : Int32)), .val (.int ((f s0.toInt.toNat) &&& (127 : Int32))), .unset, .unset, .unset, .unset, .unset, .unset, .unset] []))
      have f26 := rng32 (f s0.toInt.toNat)
      have f27 := liI_127
      have f28 : ((f s0.toInt.toNat) &&& (127 : Int32)).toInt = (f s0.toInt.toNat).toInt % 128 := c_mask (f s0.toInt.toNat) (127 : Int32) 7 (by decide) (by decide)
      generalize hv_v29 : ((f s0.toInt.toNat) &&& (127 : Int32)) = v29 at f28 ⊢
      refine Go.st (fun _ k => XS.iloadN X7.here hx rfl (hb hby d2_51) rfl k) ?_
      refine Go.st (fun _ k => XS.iconst X7.here hx rfl (hb hby d2_52) k) ?_
      refine Go.st (fun _ k => XS.icmpYes X7.here hx rfl (pc0 := 53) (pc' := 90) rfl (hb hby d2_53) rfl (tlt (ltI liI_1 liI_2 (by decide))).1 (by decide) (by decide) k) ?_
      refine Go.st (fun _ k => XS.iloadN X7.here hx rfl (hb hby d2_90) rfl k) ?_
      refine Go.st (fun _ k => XS.iconst X7.here hx rfl (hb hby d2_91) k) ?_
      refine Go.st (fun _ k => XS.icmpYes X7.here hx rfl (pc0 := 92) (pc' := 129) rfl (hb hby d2_92) rfl (tlt (ltI liI_1 liI_3 (by decide))).1 (by decide) (by decide) k) ?_
      show Go p e below s Q 0 0 (T7.setTop (mkF m 129 #[.val (.ref ar), .val (.int s0), .val (.int (1 : Int32)), .val (.int (1 : Int32)), .val (.int v29), .unset, .unset, .unset, .unset, .unset, .unset, .unset] []))
      refine Go.st (fun _ k => XS.iloadN X7.here hx rfl (hb hby d2_129) rfl k) ?_
      refine Go.st (fun _ k => XS.iconst X7.here hx rfl (hb hby d2_130) k) ?_
      refine Go.st (fun _ k => XS.icmpYes X7.here hx rfl (pc0 := 131) (pc' := 168) rfl (hb hby d2_131) rfl (tlt (ltI liI_1 liI_4 (by decide))).1 (by decide) (by decide) k) ?_
      refine Go.st (fun _ k => XS.bipush X7.here hx rfl (hb hby d2_168) k) ?_
      refine Go.st (fun _ k => XS.iloadN X7.here hx rfl (hb hby d2_170) rfl k) ?_
      refine Go.st (fun _ k => XS.iloadN X7.here hx rfl (hb hby d2_171) rfl k) ?_
      show Go p e below s Q 0 0 (T7.setTop (mkF m 172 #[.val (.ref ar), .val (.int s0), .val (.int (1 : Int32)), .val (.int (1 : Int32)), .val (.int v29), .unset, .unset, .unset, .unset, .unset, .unset, .unset] [(.int (1 : Int32)), (.int (1 : Int32)), (.int (6 : Int32))]))
      refine Go.st (fun _ k => XS.isub X7.here hx rfl (hb hby d2_172) rfl k) ?_
      refine Go.st (fun _ k => XS.imul X7.here hx rfl (hb hby d2_173) rfl k) ?_
      refine Go.st (fun _ k => XS.istore X7.here hx rfl (hb hby d2_174) rfl (l' := #[.val (.ref ar), .val (.int s0), .val (.int (1 : Int32)), .val (.int (1 : Int32)), .val (.int v29), .val (.int (0 : Int32)), .unset, .unset, .unset, .unset, .unset, .unset]) rfl k) ?_
      refine Go.st (fun _ k => XS.iload X7.here hx rfl (hb hby d2_176) rfl k) ?_
      refine Go.st (fun _ k => XS.iload X7.here hx rfl (hb hby d2_178) rfl k) ?_
      refine Go.st (fun _ k => XS.ishl X7.here hx rfl (hb hby d2_180) rfl k) ?_
      show Go p e below s Q 0 0 (T7.setTop (mkF m 181 #[.val (.ref ar), .val (.int s0), .val (.int (1 : Int32)), .val (.int (1 : Int32)), .val (.int v29), .val (.int (0 : Int32)), .unset, .unset, .unset, .unset, .unset, .unset] [(.int (v29 <<< ((0 : Int32) &&& 31)))]))
      refine Go.st (fun _ k => XS.istore X7.here hx rfl (hb hby d2_181) rfl (l' := #[.val (.ref ar), .val (.int s0), .val (.int (1 : Int32)), .val (.int (1 : Int32)), .val (.int v29), .val (.int (0 : Int32)), .val (.int (v29 <<< ((0 : Int32) &&& 31))), .unset, .unset, .unset, .unset, .unset]) rfl k) ?_
      show Go p e below s Q 0 0 (T7.setTop (mkF m 183 #[.val (.ref ar), .val (.int s0), .val (.int (1 : Int32)), .val (.int (1 : Int32)), .val (.int v29), .val (.int (0 : Int32)), .val (.int (v29 <<< ((0 : Int32) &&& 31))), .unset, .unset, .unset, .unset, .unset] []))
      have f30 := liI_0
      have f31 : ((v29 <<< ((0 : Int32) &&& 31)).toInt - v29.toInt * 1) % 4294967296 = 0 := c_ishl v29 (0 : Int32) 0 (by decide)
      have f32 := rng32 (v29 <<< ((0 : Int32) &&& 31))
      generalize hv_v33 : (v29 <<< ((0 : Int32) &&& 31)) = v33 at f31 f32 ⊢
      refine Go.st (fun _ k => XS.iload X7.here hx rfl (hb hby d2_183) rfl k) ?_
      refine Go.st (fun _ k => XS.iconst X7.here hx rfl (hb hby d2_185) k) ?_
      refine Go.st (fun _ k => XS.iload X7.here hx rfl (hb hby d2_186) rfl k) ?_
      refine Go.st (fun _ k => XS.ishl X7.here hx rfl (hb hby d2_188) rfl k) ?_
      refine Go.st (fun _ k => XS.iconst X7.here hx rfl (hb hby d2_189) k) ?_
      refine Go.st (fun _ k => XS.isub X7.here hx rfl (hb hby d2_190) rfl k) ?_
      show Go p e below s Q 0 0 (T7.setTop (mkF m 191 #[.val (.ref ar), .val (.int s0), .val (.int (1 : Int32)), .val (.int (1 : Int32)), .val (.int v29), .val (.int (0 : Int32)), .val (.int v33), .unset, .unset, .unset, .unset, .unset] [(.int (0 : Int32)), (.int v33)]))
      refine Go.st (fun _ k => XS.ior X7.here hx rfl (hb hby d2_191) rfl k) ?_
      refine Go.st (fun _ k => XS.istore X7.here hx rfl (hb hby d2_192) rfl (l' := #[.val (.ref ar), .val (.int s0), .val (.int (1 : Int32)), .val (.int (1 : Int32)), .val (.int v29), .val (.int (0 : Int32)), .val (.int v33), .val (.int (v33 ||| (0 : Int32))), .unset, .unset, .unset, .unset]) rfl k) ?_
      show Go p e below s Q 0 0 (T7.setTop (mkF m 194 #[.val (.ref ar), .val (.int s0), .val (.int (1 : Int32)), .val (.int (1 : Int32)), .val (.int v29), .val (.int (0 : Int32)), .val (.int v33), .val (.int (v33 ||| (0 : Int32))), .unset, .unset, .unset, .unset] []))
      have f34 := c_or v33 (0 : Int32) 0 (by decide) 1 (by decide) (by omega) (by omega) (by omega)
      have f35 := rng32 (v33 ||| (0 : Int32))
      generalize hv_v36 : (v33 ||| (0 : Int32)) = v36 at f34 f35 ⊢
      refine Go.st (fun _ k => XS.iloadN X7.here hx rfl (hb hby d2_194) rfl k) ?_
      refine Go.st (fun _ k => XS.iconst X7.here hx rfl (hb hby d2_195) k) ?_
      refine Go.st (fun _ k => XS.icmpNo X7.here hx rfl (hb hby d2_196) rfl (teq (eqI liI_1 liI_1 (by decide))).2 k) ?_
      refine Go.st (fun _ k => XS.iconst X7.here hx rfl (hb hby d2_199) k) ?_
      refine Go.st (fun _ k => XS.goto X7.here hx rfl (pc0 := 200) (pc' := 227) rfl (hb hby d2_200) (by decide) (by decide) k) ?_
      refine Go.st (fun _ k => XS.istore X7.here hx rfl (hb hby d2_227) rfl (l' := #[.val (.ref ar), .val (.int s0), .val (.int (1 : Int32)), .val (.int (1 : Int32)), .val (.int v29), .val (.int (0 : Int32)), .val (.int v33), .val (.int v36), .val (.int (0 : Int32)), .unset, .unset, .unset]) rfl k) ?_
      show Go p e below s Q 0 0 (T7.setTop (mkF m 229 #[.val (.ref ar), .val (.int s0), .val (.int (1 : Int32)), .val (.int (1 : Int32)), .val (.int v29), .val (.int (0 : Int32)), .val (.int v33), .val (.int v36), .val (.int (0 : Int32)), .unset, .unset, .unset] []))
      refine Go.st (fun _ k => XS.iloadN X7.here hx rfl (hb hby d2_229) rfl k) ?_
      refine Go.st (fun _ k => XS.iconst X7.here hx rfl (hb hby d2_230) k) ?_
      refine Go.st (fun _ k => XS.icmpNo X7.here hx rfl (hb hby d2_231) rfl (teq (eqI liI_1 liI_1 (by decide))).2 k) ?_
      refine Go.st (fun _ k => XS.bipush X7.here hx rfl (hb hby d2_234) k) ?_
      refine Go.st (fun _ k => XS.goto X7.here hx rfl (pc0 := 236) (pc' := 262) rfl (hb hby d2_236) (by decide) (by decide) k) ?_
      refine Go.st (fun _ k => XS.istore X7.here hx rfl (hb hby d2_262) rfl (l' := #[.val (.ref ar), .val (.int s0), .val (.int (1 : Int32)), .val (.int (1 : Int32)), .val (.int v29), .val (.int (0 : Int32)), .val (.int v33), .val (.int v36), .val (.int (0 : Int32)), .val (.int (127 : Int32)), .unset, .unset]) rfl k) ?_
      show Go p e below s Q 0 0 (T7.setTop (mkF m 264 #[.val (.ref ar), .val (.int s0), .val (.int (1 : Int32)), .val (.int (1 : Int32)), .val (.int v29), .val (.int (0 : Int32)), .val (.int v33), .val (.int v36), .val (.int (0 : Int32)), .val (.int (127 : Int32)), .unset, .unset] []))
      refine Go.st (fun _ k => XS.iload X7.here hx rfl (hb hby d2_264) rfl k) ?_
      refine Go.st (fun _ k => XS.iload X7.here hx rfl (hb hby d2_266) rfl k) ?_
      obtain ⟨_, _, ⟨T37, L37, k37, n37⟩, -, X37, ⟨Lc37, hQ37, l37, y37, z37⟩, st37⟩ := Jvm.LawKit.callS X7 hx (y := (⟨"java/lang/Math", "max", "(II)I"⟩ : MethodName)) hown (mvT hZ (hw _ (List.mem_of_getElem? (i := 13) rfl))) (mvT hZ (hw _ (List.mem_of_getElem? (i := 14) rfl))) (mvT hZ (hw _ (List.mem_of_getElem? (i := 15) rfl))) (mvT hZ (hw _ (List.mem_of_getElem? (i := 16) rfl))) (by decide) (backOf (W := 0) (rm4 l Z a0 hw [] v33 (0 : Int32) h0 n0 (Nat.le_trans Z0 K0.1) ) hZ (hw _ (List.mem_of_getElem? (i := 16) rfl)) (hw _ (List.mem_of_getElem? (i := 15) rfl)) (by decide) (by decide)) (g := (mkF m 268 #[.val (.ref ar), .val (.int s0), .val (.int (1 : Int32)), .val (.int (1 : Int32)), .val (.int v29), .val (.int (0 : Int32)), .val (.int v33), .val (.int v36), .val (.int (0 : Int32)), .val (.int (127 : Int32)), .unset, .unset] [(.int (0 : Int32)), (.int v33)])) rfl (by rw [hml]; rfl) (argsL := [(.int v33), (.int (0 : Int32))]) (rest := []) (lenOf pd_1 rfl) rfl (by show 2 * 0 + _ ≤ _; exact Nat.le_of_eq rfl) (hb hby d2_268) (fun _ _ => ⟨rfl, e7, (by decide : 0 + 0 ≤ _), (by decide : 0 + 0 ≤ _)⟩)
      dsimp only [Pt.U, Pt.locs, Pt.cells, Pt.slots] at X37 l37 y37 z37 st37 hQ37
      subst y37 z37
      obtain ⟨r_38, rfl, N37q, f39, e37⟩ := hQ37
      have N37 : Fr n0 L37 := by rw [l37]; exact Fr.app N7 N37q
      refine Go.st st37 ?_
      show Go p e below s Q 0 0 (T37.setTop (mkF m 271 #[.val (.ref ar), .val (.int s0), .val (.int (1 : Int32)), .val (.int (1 : Int32)), .val (.int v29), .val (.int (0 : Int32)), .val (.int v33), .val (.int v36), .val (.int (0 : Int32)), .val (.int (127 : Int32)), .unset, .unset] [(.int r_38)]))
      have f40 := rng32 r_38
      refine Go.st (fun _ k => XS.istore X37.here hx rfl (hb hby d2_271) rfl (l' := #[.val (.ref ar), .val (.int s0), .val (.int (1 : Int32)), .val (.int (1 : Int32)), .val (.int v29), .val (.int (0 : Int32)), .val (.int v33), .val (.int v36), .val (.int (0 : Int32)), .val (.int (127 : Int32)), .val (.int r_38), .unset]) rfl k) ?_
      refine Go.st (fun _ k => XS.iload X37.here hx rfl (hb hby d2_273) rfl k) ?_
      refine Go.st (fun _ k => XS.iload X37.here hx rfl (hb hby d2_275) rfl k) ?_
      obtain ⟨_, _, ⟨T41, L41, k41, n41⟩, -, X41, ⟨Lc41, hQ41, l41, y41, z41⟩, st41⟩ := Jvm.LawKit.callS X37 hx (y := (⟨"java/lang/Math", "min", "(II)I"⟩ : MethodName)) hown (mvT hZ (hw _ (List.mem_of_getElem? (i := 17) rfl))) (mvT hZ (hw _ (List.mem_of_getElem? (i := 18) rfl))) (mvT hZ (hw _ (List.mem_of_getElem? (i := 15) rfl))) (mvT hZ (hw _ (List.mem_of_getElem? (i := 19) rfl))) (by decide) (backOf (W := 0) (rm5 l Z a0 hw [] v36 (127 : Int32) h0 n0 (Nat.le_trans Z0 K0.1) ) hZ (hw _ (List.mem_of_getElem? (i := 19) rfl)) (hw _ (List.mem_of_getElem? (i := 15) rfl)) (by decide) (by decide)) (g := (mkF m 277 #[.val (.ref ar), .val (.int s0), .val (.int (1 : Int32)), .val (.int (1 : Int32)), .val (.int v29), .val (.int (0 : Int32)), .val (.int v33), .val (.int v36), .val (.int (0 : Int32)), .val (.int (127 : Int32)), .val (.int r_38), .unset] [(.int (127 : Int32)), (.int v36)])) rfl (by rw [hml]; rfl) (argsL := [(.int v36), (.int (127 : Int32))]) (rest := []) (lenOf pd_1 rfl) rfl (by show 2 * 0 + _ ≤ _; exact Nat.le_of_eq rfl) (hb hby d2_277) (fun _ _ => ⟨rfl, e37, (by decide : 0 + 0 ≤ _), (by decide : 0 + 0 ≤ _)⟩)
      dsimp only [Pt.U, Pt.locs, Pt.cells, Pt.slots] at X41 l41 y41 z41 st41 hQ41
      subst y41 z41
      obtain ⟨r_42, rfl, N41q, f43, e41⟩ := hQ41
      have N41 : Fr n0 L41 := by rw [l41]; exact Fr.app N37 N41q
      refine Go.st st41 ?_
      show Go p e below s Q 0 0 (T41.setTop (mkF m 280 #[.val (.ref ar), .val (.int s0), .val (.int (1 : Int32)), .val (.int (1 : Int32)), .val (.int v29), .val (.int (0 : Int32)), .val (.int v33), .val (.int v36), .val (.int (0 : Int32)), .val (.int (127 : Int32)), .val (.int r_38), .unset] [(.int r_42)]))
      have f44 := rng32 r_42
      refine Go.st (fun _ k => XS.istore X41.here hx rfl (hb hby d2_280) rfl (l' := #[.val (.ref ar), .val (.int s0), .val (.int (1 : Int32)), .val (.int (1 : Int32)), .val (.int v29), .val (.int (0 : Int32)), .val (.int v33), .val (.int v36), .val (.int (0 : Int32)), .val (.int (127 : Int32)), .val (.int r_38), .val (.int r_42)]) rfl k) ?_
      refine Go.st (fun _ k => XS.iload X41.here hx rfl (hb hby d2_282) rfl k) ?_
      refine Go.st (fun _ k => XS.iload X41.here hx rfl (hb hby d2_284) rfl k) ?_
      by_cases c45 : r_42.toInt < r_38.toInt
      ·
        refine Go.st (fun _ k => XS.icmpYes X41.here hx rfl (pc0 := 286) (pc' := 307) rfl (hb hby d2_286) rfl (tlt (ltI rfl rfl c45)).2.2.1 (by decide) (by decide) k) ?_
        refine Go.st (fun _ k => XS.iconst X41.here hx rfl (hb hby d2_307) k) ?_
        show Go p e below s Q 0 0 (T41.setTop (mkF m 308 #[.val (.ref ar), .val (.int s0), .val (.int (1 : Int32)), .val (.int (1 : Int32)), .val (.int v29), .val (.int (0 : Int32)), .val (.int v33), .val (.int v36), .val (.int (0 : Int32)), .val (.int (127 : Int32)), .val (.int r_38), .val (.int r_42)] [(.int (0 : Int32))]))
        exact Go.retN X41 hx hlk (by simp) Bd.returns (hb hby d2_308) (z' := (0 : Int32)) (by decide) (by rw [← hQ, e41]; exact ⟨(0 : Int32), rfl, N41, (by refine Or.inr ⟨by omega, ?_⟩; rintro ⟨hv, nn, hn⟩; unfold Vbl SecOk at hv; unfold LenIs at hn; omega), rfl⟩) (by decide) (by decide)
      ·
        refine Go.st (fun _ k => XS.icmpNo X41.here hx rfl (hb hby d2_286) rfl (flt (nltI rfl rfl c45)).2.2.1 k) ?_
        refine Go.st (fun _ k => XS.iload X41.here hx rfl (hb hby d2_289) rfl k) ?_
        refine Go.st (X41.ldcInt hx hown (mvT hZ (hw _ (List.mem_of_getElem? (i := 20) rfl))) (g := (mkF m 291 #[.val (.ref ar), .val (.int s0), .val (.int (1 : Int32)), .val (.int (1 : Int32)), .val (.int v29), .val (.int (0 : Int32)), .val (.int v33), .val (.int v36), .val (.int (0 : Int32)), .val (.int (127 : Int32)), .val (.int r_38), .val (.int r_42)] [(.int r_38)])) rfl (hb hby d2_291)) ?_
        show Go p e below s Q 0 0 (T41.setTop (mkF m 293 #[.val (.ref ar), .val (.int s0), .val (.int (1 : Int32)), .val (.int (1 : Int32)), .val (.int v29), .val (.int (0 : Int32)), .val (.int v33), .val (.int v36), .val (.int (0 : Int32)), .val (.int (127 : Int32)), .val (.int r_38), .val (.int r_42)] [(.int (55296 : Int32)), (.int r_38)]))
        have f46 := liI_55296
        by_cases c47 : r_38.toInt < 55296
        ·
          refine Go.st (fun _ k => XS.icmpYes X41.here hx rfl (pc0 := 293) (pc' := 303) rfl (hb hby d2_293) rfl (tlt (ltI rfl liI_55296 c47)).1 (by decide) (by decide) k) ?_
          refine Go.st (fun _ k => XS.iconst X41.here hx rfl (hb hby d2_303) k) ?_
          refine Go.st (fun _ k => XS.goto X41.here hx rfl (pc0 := 304) (pc' := 308) rfl (hb hby d2_304) (by decide) (by decide) k) ?_
          show Go p e below s Q 0 0 (T41.setTop (mkF m 308 #[.val (.ref ar), .val (.int s0), .val (.int (1 : Int32)), .val (.int (1 : Int32)), .val (.int v29), .val (.int (0 : Int32)), .val (.int v33), .val (.int v36), .val (.int (0 : Int32)), .val (.int (127 : Int32)), .val (.int r_38), .val (.int r_42)] [(.int (1 : Int32))]))
          have f48 := liI_1
          exact Go.retN X41 hx hlk (by simp) Bd.returns (hb hby d2_308) (z' := (1 : Int32)) (by decide) (by rw [← hQ, e41]; exact ⟨(1 : Int32), rfl, N41, (by exact Or.inl ⟨by omega, (by unfold Vbl SecOk; omega), 1, (by unfold LenIs; omega)⟩), rfl⟩) (by decide) (by decide)
        ·
          refine Go.st (fun _ k => XS.icmpNo X41.here hx rfl (hb hby d2_293) rfl (flt (nltI rfl liI_55296 c47)).1 k) ?_
          refine Go.st (fun _ k => XS.iload X41.here hx rfl (hb hby d2_296) rfl k) ?_
          refine Go.st (X41.ldcInt hx hown (mvT hZ (hw _ (List.mem_of_getElem? (i := 47) rfl))) (g := (mkF m 298 #[.val (.ref ar), .val (.int s0), .val (.int (1 : Int32)), .val (.int (1 : Int32)), .val (.int v29), .val (.int (0 : Int32)), .val (.int v33), .val (.int v36), .val (.int (0 : Int32)), .val (.int (127 : Int32)), .val (.int r_38), .val (.int r_42)] [(.int r_42)])) rfl (hb hby d2_298)) ?_
          show Go p e below s Q 0 0 (T41.setTop (mkF m 300 #[.val (.ref ar), .val (.int s0), .val (.int (1 : Int32)), .val (.int (1 : Int32)), .val (.int v29), .val (.int (0 : Int32)), .val (.int v33), .val (.int v36), .val (.int (0 : Int32)), .val (.int (127 : Int32)), .val (.int r_38), .val (.int r_42)] [(.int (57343 : Int32)), (.int r_42)]))
          have f49 := liI_57343
          by_cases c50 : 57343 < r_42.toInt
          ·
            refine Go.st (fun _ k => XS.icmpNo X41.here hx rfl (hb hby d2_300) rfl (tlt (ltI liI_57343 rfl c50)).2.2.2 k) ?_
            refine Go.st (fun _ k => XS.iconst X41.here hx rfl (hb hby d2_303) k) ?_
            refine Go.st (fun _ k => XS.goto X41.here hx rfl (pc0 := 304) (pc' := 308) rfl (hb hby d2_304) (by decide) (by decide) k) ?_
            show Go p e below s Q 0 0 (T41.setTop (mkF m 308 #[.val (.ref ar), .val (.int s0), .val (.int (1 : Int32)), .val (.int (1 : Int32)), .val (.int v29), .val (.int (0 : Int32)), .val (.int v33), .val (.int v36), .val (.int (0 : Int32)), .val (.int (127 : Int32)), .val (.int r_38), .val (.int r_42)] [(.int (1 : Int32))]))
            have f51 := liI_1
            exact Go.retN X41 hx hlk (by simp) Bd.returns (hb hby d2_308) (z' := (1 : Int32)) (by decide) (by rw [← hQ, e41]; exact ⟨(1 : Int32), rfl, N41, (by exact Or.inl ⟨by omega, (by unfold Vbl SecOk; omega), 1, (by unfold LenIs; omega)⟩), rfl⟩) (by decide) (by decide)
          ·
            refine Go.st (fun _ k => XS.icmpYes X41.here hx rfl (pc0 := 300) (pc' := 307) rfl (hb hby d2_300) rfl (flt (nltI liI_57343 rfl c50)).2.2.2 (by decide) (by decide) k) ?_
            refine Go.st (fun _ k => XS.iconst X41.here hx rfl (hb hby d2_307) k) ?_
            show Go p e below s Q 0 0 (T41.setTop (mkF m 308 #[.val (.ref ar), .val (.int s0), .val (.int (1 : Int32)), .val (.int (1 : Int32)), .val (.int v29), .val (.int (0 : Int32)), .val (.int v33), .val (.int v36), .val (.int (0 : Int32)), .val (.int (127 : Int32)), .val (.int r_38), .val (.int r_42)] [(.int (0 : Int32))]))
            exact Go.retN X41 hx hlk (by simp) Bd.returns (hb hby d2_308) (z' := (0 : Int32)) (by decide) (by rw [← hQ, e41]; exact ⟨(0 : Int32), rfl, N41, (by refine Or.inr ⟨by omega, ?_⟩; rintro ⟨hv, nn, hn⟩; unfold Vbl SecOk at hv; unfold LenIs at hn; omega), rfl⟩) (by decide) (by decide)
    ·
      have cs17' : r_10 = (2 : Int32) := eqI cs17 liI_2 rfl
      subst cs17'
      have f52 := liI_2
      show Go p e below s Q 0 0 (T7.setTop (mkF m 13 #[.val (.ref ar), .val (.int s0), .val (.int (1 : Int32)), .val (.int (2 : Int32)), .unset, .unset, .unset, .unset, .unset, .unset, .unset, .unset] []))
      have f53 : 192 ≤ c0.toInt ∧ c0.toInt < 224 := by omega
      clear f1 f2 f4 f8 f11 f12 hL f13 c14 f52
      refine Go.st (fun _ k => XS.aloadN X7.here hx rfl (hb hby d2_13) rfl rfl k) ?_
      refine Go.st (fun _ k => XS.iloadN X7.here hx rfl (hb hby d2_14) rfl k) ?_
      have f55 := rng32 s0
      have f56 := liI_4
      have r57 : 0 ≤ s0.toInt := by omega
      have r58 : s0.toInt < (4 : Int32).toInt := by omega
      refine Go.st (Vec.ildI X7 hx hZ e7 hV (j := s0) r57 r58 (g := (mkF m 15 #[.val (.ref ar), .val (.int s0), .val (.int (1 : Int32)), .val (.int (2 : Int32)), .unset, .unset, .unset, .unset, .unset, .unset, .unset, .unset] [(.int s0), (.ref ar)])) rfl rfl (hb hby d2_15)) ?_
      show Go p e below s Q 0 0 (T7.setTop (mkF m 16 #[.val (.ref ar), .val (.int s0), .val (.int (1 : Int32)), .val (.int (2 : Int32)), .unset, .unset, .unset, .unset, .unset, .unset, .unset, .unset] [(.int (f s0.toInt.toNat))]))
      refine Go.st (fun _ k => XS.iloadN X7.here hx rfl (hb hby d2_16) rfl k) ?_
      refine Go.st (fun _ k => XS.iconst X7.here hx rfl (hb hby d2_17) k) ?_
      refine Go.st (fun _ k => XS.icmpYes X7.here hx rfl (pc0 := 18) (pc' := 26) rfl (hb hby d2_18) rfl (feq (neI liI_2 liI_1 (by decide))).2 (by decide) (by decide) k) ?_
      refine Go.st (fun _ k => XS.iloadN X7.here hx rfl (hb hby d2_26) rfl k) ?_
      refine Go.st (fun _ k => XS.iconst X7.here hx rfl (hb hby d2_27) k) ?_
      refine Go.st (fun _ k => XS.icmpNo X7.here hx rfl (hb hby d2_28) rfl (teq (eqI liI_2 liI_2 (by decide))).2 k) ?_
      show Go p e below s Q 0 0 (T7.setTop (mkF m 31 #[.val (.ref ar), .val (.int s0), .val (.int (1 : Int32)), .val (.int (2 : Int32)), .unset, .unset, .unset, .unset, .unset, .unset, .unset, .unset] [(.int (f s0.toInt.toNat))]))
      refine Go.st (fun _ k => XS.bipush X7.here hx rfl (hb hby d2_31) k) ?_
      refine Go.st (fun _ k => XS.goto X7.here hx rfl (pc0 := 33) (pc' := 48) rfl (hb hby d2_33) (by decide) (by decide) k) ?_
      refine Go.st (fun _ k => XS.iand X7.here hx rfl (hb hby d2_48) rfl k) ?_
      refine Go.st (fun _ k => XS.istore X7.here hx rfl (hb hby d2_49) rfl (l' := #[.val (.ref ar), .val (.int s0), .val (.int (1 : Int32)), .val (.int (2 : Int32)), .val (.int ((f s0.toInt.toNat) &&& (31 : Int32))), .unset, .unset, .unset, .unset, .unset, .unset, .unset]) rfl k) ?_
      show Go p e below s Q 0 0 (T7.setTop (mkF m 51 #[.val (.ref ar), .val (.int s0), .val (.int (1 : Int32)), .val (.int (2 : Int32)), .val (.int ((f s0.toInt.toNat) &&& (31 : Int32))), .unset, .unset, .unset, .unset, .unset, .unset, .unset] []))
      have f59 := rng32 (f s0.toInt.toNat)
      have f60 := liI_31
      have f61 : ((f s0.toInt.toNat) &&& (31 : Int32)).toInt = (f s0.toInt.toNat).toInt % 32 := c_mask (f s0.toInt.toNat) (31 : Int32) 5 (by decide) (by decide)
      generalize hv_v62 : ((f s0.toInt.toNat) &&& (31 : Int32)) = v62 at f61 ⊢
      refine Go.st (fun _ k => XS.iloadN X7.here hx rfl (hb hby d2_51) rfl k) ?_
      refine Go.st (fun _ k => XS.iconst X7.here hx rfl (hb hby d2_52) k) ?_
      refine Go.st (fun _ k => XS.icmpYes X7.here hx rfl (pc0 := 53) (pc' := 90) rfl (hb hby d2_53) rfl (tlt (ltI liI_1 liI_2 (by decide))).1 (by decide) (by decide) k) ?_
      refine Go.st (fun _ k => XS.iloadN X7.here hx rfl (hb hby d2_90) rfl k) ?_
      refine Go.st (fun _ k => XS.iconst X7.here hx rfl (hb hby d2_91) k) ?_
      refine Go.st (fun _ k => XS.icmpYes X7.here hx rfl (pc0 := 92) (pc' := 129) rfl (hb hby d2_92) rfl (tlt (ltI liI_1 liI_3 (by decide))).1 (by decide) (by decide) k) ?_
      show Go p e below s Q 0 0 (T7.setTop (mkF m 129 #[.val (.ref ar), .val (.int s0), .val (.int (1 : Int32)), .val (.int (2 : Int32)), .val (.int v62), .unset, .unset, .unset, .unset, .unset, .unset, .unset] []))
      refine Go.st (fun _ k => XS.iloadN X7.here hx rfl (hb hby d2_129) rfl k) ?_
      refine Go.st (fun _ k => XS.iconst X7.here hx rfl (hb hby d2_130) k) ?_
      refine Go.st (fun _ k => XS.icmpYes X7.here hx rfl (pc0 := 131) (pc' := 168) rfl (hb hby d2_131) rfl (tlt (ltI liI_1 liI_4 (by decide))).1 (by decide) (by decide) k) ?_
      refine Go.st (fun _ k => XS.bipush X7.here hx rfl (hb hby d2_168) k) ?_
      refine Go.st (fun _ k => XS.iloadN X7.here hx rfl (hb hby d2_170) rfl k) ?_
      refine Go.st (fun _ k => XS.iloadN X7.here hx rfl (hb hby d2_171) rfl k) ?_
      show Go p e below s Q 0 0 (T7.setTop (mkF m 172 #[.val (.ref ar), .val (.int s0), .val (.int (1 : Int32)), .val (.int (2 : Int32)), .val (.int v62), .unset, .unset, .unset, .unset, .unset, .unset, .unset] [(.int (1 : Int32)), (.int (2 : Int32)), (.int (6 : Int32))]))
      refine Go.st (fun _ k => XS.isub X7.here hx rfl (hb hby d2_172) rfl k) ?_
      refine Go.st (fun _ k => XS.imul X7.here hx rfl (hb hby d2_173) rfl k) ?_
      refine Go.st (fun _ k => XS.istore X7.here hx rfl (hb hby d2_174) rfl (l' := #[.val (.ref ar), .val (.int s0), .val (.int (1 : Int32)), .val (.int (2 : Int32)), .val (.int v62), .val (.int (6 : Int32)), .unset, .unset, .unset, .unset, .unset, .unset]) rfl k) ?_
      refine Go.st (fun _ k => XS.iload X7.here hx rfl (hb hby d2_176) rfl k) ?_
      refine Go.st (fun _ k => XS.iload X7.here hx rfl (hb hby d2_178) rfl k) ?_
      refine Go.st (fun _ k => XS.ishl X7.here hx rfl (hb hby d2_180) rfl k) ?_
      show Go p e below s Q 0 0 (T7.setTop (mkF m 181 #[.val (.ref ar), .val (.int s0), .val (.int (1 : Int32)), .val (.int (2 : Int32)), .val (.int v62), .val (.int (6 : Int32)), .unset, .unset, .unset, .unset, .unset, .unset] [(.int (v62 <<< ((6 : Int32) &&& 31)))]))
      refine Go.st (fun _ k => XS.istore X7.here hx rfl (hb hby d2_181) rfl (l' := #[.val (.ref ar), .val (.int s0), .val (.int (1 : Int32)), .val (.int (2 : Int32)), .val (.int v62), .val (.int (6 : Int32)), .val (.int (v62 <<< ((6 : Int32) &&& 31))), .unset, .unset, .unset, .unset, .unset]) rfl k) ?_
      show Go p e below s Q 0 0 (T7.setTop (mkF m 183 #[.val (.ref ar), .val (.int s0), .val (.int (1 : Int32)), .val (.int (2 : Int32)), .val (.int v62), .val (.int (6 : Int32)), .val (.int (v62 <<< ((6 : Int32) &&& 31))), .unset, .unset, .unset, .unset, .unset] []))
      have f63 := liI_6
      have f64 : ((v62 <<< ((6 : Int32) &&& 31)).toInt - v62.toInt * 64) % 4294967296 = 0 := c_ishl v62 (6 : Int32) 6 (by decide)
      have f65 := rng32 (v62 <<< ((6 : Int32) &&& 31))
      generalize hv_v66 : (v62 <<< ((6 : Int32) &&& 31)) = v66 at f64 f65 ⊢
      refine Go.st (fun _ k => XS.iload X7.here hx rfl (hb hby d2_183) rfl k) ?_
      refine Go.st (fun _ k => XS.iconst X7.here hx rfl (hb hby d2_185) k) ?_
      refine Go.st (fun _ k => XS.iload X7.here hx rfl (hb hby d2_186) rfl k) ?_
      refine Go.st (fun _ k => XS.ishl X7.here hx rfl (hb hby d2_188) rfl k) ?_
      refine Go.st (fun _ k => XS.iconst X7.here hx rfl (hb hby d2_189) k) ?_
      refine Go.st (fun _ k => XS.isub X7.here hx rfl (hb hby d2_190) rfl k) ?_
      show Go p e below s Q 0 0 (T7.setTop (mkF m 191 #[.val (.ref ar), .val (.int s0), .val (.int (1 : Int32)), .val (.int (2 : Int32)), .val (.int v62), .val (.int (6 : Int32)), .val (.int v66), .unset, .unset, .unset, .unset, .unset] [(.int (63 : Int32)), (.int v66)]))
      refine Go.st (fun _ k => XS.ior X7.here hx rfl (hb hby d2_191) rfl k) ?_
      refine Go.st (fun _ k => XS.istore X7.here hx rfl (hb hby d2_192) rfl (l' := #[.val (.ref ar), .val (.int s0), .val (.int (1 : Int32)), .val (.int (2 : Int32)), .val (.int v62), .val (.int (6 : Int32)), .val (.int v66), .val (.int (v66 ||| (63 : Int32))), .unset, .unset, .unset, .unset]) rfl k) ?_
      show Go p e below s Q 0 0 (T7.setTop (mkF m 194 #[.val (.ref ar), .val (.int s0), .val (.int (1 : Int32)), .val (.int (2 : Int32)), .val (.int v62), .val (.int (6 : Int32)), .val (.int v66), .val (.int (v66 ||| (63 : Int32))), .unset, .unset, .unset, .unset] []))
      have f67 := liI_63
      have f68 := c_or v66 (63 : Int32) 6 (by decide) 64 (by decide) (by omega) (by omega) (by omega)
      have f69 := rng32 (v66 ||| (63 : Int32))
      generalize hv_v70 : (v66 ||| (63 : Int32)) = v70 at f68 f69 ⊢
      refine Go.st (fun _ k => XS.iloadN X7.here hx rfl (hb hby d2_194) rfl k) ?_
      refine Go.st (fun _ k => XS.iconst X7.here hx rfl (hb hby d2_195) k) ?_
      refine Go.st (fun _ k => XS.icmpYes X7.here hx rfl (pc0 := 196) (pc' := 203) rfl (hb hby d2_196) rfl (feq (neI liI_2 liI_1 (by decide))).2 (by decide) (by decide) k) ?_
      refine Go.st (fun _ k => XS.iloadN X7.here hx rfl (hb hby d2_203) rfl k) ?_
      refine Go.st (fun _ k => XS.iconst X7.here hx rfl (hb hby d2_204) k) ?_
      refine Go.st (fun _ k => XS.icmpNo X7.here hx rfl (hb hby d2_205) rfl (teq (eqI liI_2 liI_2 (by decide))).2 k) ?_
      show Go p e below s Q 0 0 (T7.setTop (mkF m 208 #[.val (.ref ar), .val (.int s0), .val (.int (1 : Int32)), .val (.int (2 : Int32)), .val (.int v62), .val (.int (6 : Int32)), .val (.int v66), .val (.int v70), .unset, .unset, .unset, .unset] []))
      refine Go.st (fun _ k => XS.sipush X7.here hx rfl (hb hby d2_208) k) ?_
      refine Go.st (fun _ k => XS.goto X7.here hx rfl (pc0 := 211) (pc' := 227) rfl (hb hby d2_211) (by decide) (by decide) k) ?_
      refine Go.st (fun _ k => XS.istore X7.here hx rfl (hb hby d2_227) rfl (l' := #[.val (.ref ar), .val (.int s0), .val (.int (1 : Int32)), .val (.int (2 : Int32)), .val (.int v62), .val (.int (6 : Int32)), .val (.int v66), .val (.int v70), .val (.int (128 : Int32)), .unset, .unset, .unset]) rfl k) ?_
      refine Go.st (fun _ k => XS.iloadN X7.here hx rfl (hb hby d2_229) rfl k) ?_
      refine Go.st (fun _ k => XS.iconst X7.here hx rfl (hb hby d2_230) k) ?_
      refine Go.st (fun _ k => XS.icmpYes X7.here hx rfl (pc0 := 231) (pc' := 239) rfl (hb hby d2_231) rfl (feq (neI liI_2 liI_1 (by decide))).2 (by decide) (by decide) k) ?_
      show Go p e below s Q 0 0 (T7.setTop (mkF m 239 #[.val (.ref ar), .val (.int s0), .val (.int (1 : Int32)), .val (.int (2 : Int32)), .val (.int v62), .val (.int (6 : Int32)), .val (.int v66), .val (.int v70), .val (.int (128 : Int32)), .unset, .unset, .unset] []))
      refine Go.st (fun _ k => XS.iloadN X7.here hx rfl (hb hby d2_239) rfl k) ?_
      refine Go.st (fun _ k => XS.iconst X7.here hx rfl (hb hby d2_240) k) ?_
      refine Go.st (fun _ k => XS.icmpNo X7.here hx rfl (hb hby d2_241) rfl (teq (eqI liI_2 liI_2 (by decide))).2 k) ?_
      refine Go.st (fun _ k => XS.sipush X7.here hx rfl (hb hby d2_244) k) ?_
      refine Go.st (fun _ k => XS.goto X7.here hx rfl (pc0 := 247) (pc' := 262) rfl (hb hby d2_247) (by decide) (by decide) k) ?_
      refine Go.st (fun _ k => XS.istore X7.here hx rfl (hb hby d2_262) rfl (l' := #[.val (.ref ar), .val (.int s0), .val (.int (1 : Int32)), .val (.int (2 : Int32)), .val (.int v62), .val (.int (6 : Int32)), .val (.int v66), .val (.int v70), .val (.int (128 : Int32)), .val (.int (2047 : Int32)), .unset, .unset]) rfl k) ?_
      show Go p e below s Q 0 0 (T7.setTop (mkF m 264 #[.val (.ref ar), .val (.int s0), .val (.int (1 : Int32)), .val (.int (2 : Int32)), .val (.int v62), .val (.int (6 : Int32)), .val (.int v66), .val (.int v70), .val (.int (128 : Int32)), .val (.int (2047 : Int32)), .unset, .unset] []))
      refine Go.st (fun _ k => XS.iload X7.here hx rfl (hb hby d2_264) rfl k) ?_
      refine Go.st (fun _ k => XS.iload X7.here hx rfl (hb hby d2_266) rfl k) ?_
      have f72 := liI_128
      obtain ⟨_, _, ⟨T71, L71, k71, n71⟩, -, X71, ⟨Lc71, hQ71, l71, y71, z71⟩, st71⟩ := Jvm.LawKit.callS X7 hx (y := (⟨"java/lang/Math", "max", "(II)I"⟩ : MethodName)) hown (mvT hZ (hw _ (List.mem_of_getElem? (i := 13) rfl))) (mvT hZ (hw _ (List.mem_of_getElem? (i := 14) rfl))) (mvT hZ (hw _ (List.mem_of_getElem? (i := 15) rfl))) (mvT hZ (hw _ (List.mem_of_getElem? (i := 16) rfl))) (by decide) (backOf (W := 0) (rm4 l Z a0 hw [] v66 (128 : Int32) h0 n0 (Nat.le_trans Z0 K0.1) ) hZ (hw _ (List.mem_of_getElem? (i := 16) rfl)) (hw _ (List.mem_of_getElem? (i := 15) rfl)) (by decide) (by decide)) (g := (mkF m 268 #[.val (.ref ar), .val (.int s0), .val (.int (1 : Int32)), .val (.int (2 : Int32)), .val (.int v62), .val (.int (6 : Int32)), .val (.int v66), .val (.int v70), .val (.int (128 : Int32)), .val (.int (2047 : Int32)), .unset, .unset] [(.int (128 : Int32)), (.int v66)])) rfl (by rw [hml]; rfl) (argsL := [(.int v66), (.int (128 : Int32))]) (rest := []) (lenOf pd_1 rfl) rfl (by show 2 * 0 + _ ≤ _; exact Nat.le_of_eq rfl) (hb hby d2_268) (fun _ _ => ⟨rfl, e7, (by decide : 0 + 0 ≤ _), (by decide : 0 + 0 ≤ _)⟩)
      dsimp only [Pt.U, Pt.locs, Pt.cells, Pt.slots] at X71 l71 y71 z71 st71 hQ71
      subst y71 z71
      obtain ⟨r_73, rfl, N71q, f74, e71⟩ := hQ71
      have N71 : Fr n0 L71 := by rw [l71]; exact Fr.app N7 N71q
      refine Go.st st71 ?_
      show Go p e below s Q 0 0 (T71.setTop (mkF m 271 #[.val (.ref ar), .val (.int s0), .val (.int (1 : Int32)), .val (.int (2 : Int32)), .val (.int v62), .val (.int (6 : Int32)), .val (.int v66), .val (.int v70), .val (.int (128 : Int32)), .val (.int (2047 : Int32)), .unset, .unset] [(.int r_73)]))
      have f75 := rng32 r_73
      refine Go.st (fun _ k => XS.istore X71.here hx rfl (hb hby d2_271) rfl (l' := #[.val (.ref ar), .val (.int s0), .val (.int (1 : Int32)), .val (.int (2 : Int32)), .val (.int v62), .val (.int (6 : Int32)), .val (.int v66), .val (.int v70), .val (.int (128 : Int32)), .val (.int (2047 : Int32)), .val (.int r_73), .unset]) rfl k) ?_
      refine Go.st (fun _ k => XS.iload X71.here hx rfl (hb hby d2_273) rfl k) ?_
      refine Go.st (fun _ k => XS.iload X71.here hx rfl (hb hby d2_275) rfl k) ?_
      have f77 := liI_2047
      obtain ⟨_, _, ⟨T76, L76, k76, n76⟩, -, X76, ⟨Lc76, hQ76, l76, y76, z76⟩, st76⟩ := Jvm.LawKit.callS X71 hx (y := (⟨"java/lang/Math", "min", "(II)I"⟩ : MethodName)) hown (mvT hZ (hw _ (List.mem_of_getElem? (i := 17) rfl))) (mvT hZ (hw _ (List.mem_of_getElem? (i := 18) rfl))) (mvT hZ (hw _ (List.mem_of_getElem? (i := 15) rfl))) (mvT hZ (hw _ (List.mem_of_getElem? (i := 19) rfl))) (by decide) (backOf (W := 0) (rm5 l Z a0 hw [] v70 (2047 : Int32) h0 n0 (Nat.le_trans Z0 K0.1) ) hZ (hw _ (List.mem_of_getElem? (i := 19) rfl)) (hw _ (List.mem_of_getElem? (i := 15) rfl)) (by decide) (by decide)) (g := (mkF m 277 #[.val (.ref ar), .val (.int s0), .val (.int (1 : Int32)), .val (.int (2 : Int32)), .val (.int v62), .val (.int (6 : Int32)), .val (.int v66), .val (.int v70), .val (.int (128 : Int32)), .val (.int (2047 : Int32)), .val (.int r_73), .unset] [(.int (2047 : Int32)), (.int v70)])) rfl (by rw [hml]; rfl) (argsL := [(.int v70), (.int (2047 : Int32))]) (rest := []) (lenOf pd_1 rfl) rfl (by show 2 * 0 + _ ≤ _; exact Nat.le_of_eq rfl) (hb hby d2_277) (fun _ _ => ⟨rfl, e71, (by decide : 0 + 0 ≤ _), (by decide : 0 + 0 ≤ _)⟩)
      dsimp only [Pt.U, Pt.locs, Pt.cells, Pt.slots] at X76 l76 y76 z76 st76 hQ76
      subst y76 z76
      obtain ⟨r_78, rfl, N76q, f79, e76⟩ := hQ76
      have N76 : Fr n0 L76 := by rw [l76]; exact Fr.app N71 N76q
      refine Go.st st76 ?_
      show Go p e below s Q 0 0 (T76.setTop (mkF m 280 #[.val (.ref ar), .val (.int s0), .val (.int (1 : Int32)), .val (.int (2 : Int32)), .val (.int v62), .val (.int (6 : Int32)), .val (.int v66), .val (.int v70), .val (.int (128 : Int32)), .val (.int (2047 : Int32)), .val (.int r_73), .unset] [(.int r_78)]))
      have f80 := rng32 r_78
      refine Go.st (fun _ k => XS.istore X76.here hx rfl (hb hby d2_280) rfl (l' := #[.val (.ref ar), .val (.int s0), .val (.int (1 : Int32)), .val (.int (2 : Int32)), .val (.int v62), .val (.int (6 : Int32)), .val (.int v66), .val (.int v70), .val (.int (128 : Int32)), .val (.int (2047 : Int32)), .val (.int r_73), .val (.int r_78)]) rfl k) ?_
      refine Go.st (fun _ k => XS.iload X76.here hx rfl (hb hby d2_282) rfl k) ?_
      refine Go.st (fun _ k => XS.iload X76.here hx rfl (hb hby d2_284) rfl k) ?_
      by_cases c81 : r_78.toInt < r_73.toInt
      ·
        refine Go.st (fun _ k => XS.icmpYes X76.here hx rfl (pc0 := 286) (pc' := 307) rfl (hb hby d2_286) rfl (tlt (ltI rfl rfl c81)).2.2.1 (by decide) (by decide) k) ?_
        refine Go.st (fun _ k => XS.iconst X76.here hx rfl (hb hby d2_307) k) ?_
        show Go p e below s Q 0 0 (T76.setTop (mkF m 308 #[.val (.ref ar), .val (.int s0), .val (.int (1 : Int32)), .val (.int (2 : Int32)), .val (.int v62), .val (.int (6 : Int32)), .val (.int v66), .val (.int v70), .val (.int (128 : Int32)), .val (.int (2047 : Int32)), .val (.int r_73), .val (.int r_78)] [(.int (0 : Int32))]))
        have f82 := liI_0
        exact Go.retN X76 hx hlk (by simp) Bd.returns (hb hby d2_308) (z' := (0 : Int32)) (by decide) (by rw [← hQ, e76]; exact ⟨(0 : Int32), rfl, N76, (by refine Or.inr ⟨by omega, ?_⟩; rintro ⟨hv, nn, hn⟩; unfold Vbl SecOk at hv; unfold LenIs at hn; omega), rfl⟩) (by decide) (by decide)
      ·
        refine Go.st (fun _ k => XS.icmpNo X76.here hx rfl (hb hby d2_286) rfl (flt (nltI rfl rfl c81)).2.2.1 k) ?_
        refine Go.st (fun _ k => XS.iload X76.here hx rfl (hb hby d2_289) rfl k) ?_
        refine Go.st (X76.ldcInt hx hown (mvT hZ (hw _ (List.mem_of_getElem? (i := 20) rfl))) (g := (mkF m 291 #[.val (.ref ar), .val (.int s0), .val (.int (1 : Int32)), .val (.int (2 : Int32)), .val (.int v62), .val (.int (6 : Int32)), .val (.int v66), .val (.int v70), .val (.int (128 : Int32)), .val (.int (2047 : Int32)), .val (.int r_73), .val (.int r_78)] [(.int r_73)])) rfl (hb hby d2_291)) ?_
        show Go p e below s Q 0 0 (T76.setTop (mkF m 293 #[.val (.ref ar), .val (.int s0), .val (.int (1 : Int32)), .val (.int (2 : Int32)), .val (.int v62), .val (.int (6 : Int32)), .val (.int v66), .val (.int v70), .val (.int (128 : Int32)), .val (.int (2047 : Int32)), .val (.int r_73), .val (.int r_78)] [(.int (55296 : Int32)), (.int r_73)]))
        have f83 := liI_55296
        by_cases c84 : r_73.toInt < 55296
        ·
          refine Go.st (fun _ k => XS.icmpYes X76.here hx rfl (pc0 := 293) (pc' := 303) rfl (hb hby d2_293) rfl (tlt (ltI rfl liI_55296 c84)).1 (by decide) (by decide) k) ?_
          refine Go.st (fun _ k => XS.iconst X76.here hx rfl (hb hby d2_303) k) ?_
          refine Go.st (fun _ k => XS.goto X76.here hx rfl (pc0 := 304) (pc' := 308) rfl (hb hby d2_304) (by decide) (by decide) k) ?_
          show Go p e below s Q 0 0 (T76.setTop (mkF m 308 #[.val (.ref ar), .val (.int s0), .val (.int (1 : Int32)), .val (.int (2 : Int32)), .val (.int v62), .val (.int (6 : Int32)), .val (.int v66), .val (.int v70), .val (.int (128 : Int32)), .val (.int (2047 : Int32)), .val (.int r_73), .val (.int r_78)] [(.int (1 : Int32))]))
          have f85 := liI_1
          exact Go.retN X76 hx hlk (by simp) Bd.returns (hb hby d2_308) (z' := (1 : Int32)) (by decide) (by rw [← hQ, e76]; exact ⟨(1 : Int32), rfl, N76, (by exact Or.inl ⟨by omega, (by unfold Vbl SecOk; omega), 2, (by unfold LenIs; omega)⟩), rfl⟩) (by decide) (by decide)
        ·
          refine Go.st (fun _ k => XS.icmpNo X76.here hx rfl (hb hby d2_293) rfl (flt (nltI rfl liI_55296 c84)).1 k) ?_
          refine Go.st (fun _ k => XS.iload X76.here hx rfl (hb hby d2_296) rfl k) ?_
          refine Go.st (X76.ldcInt hx hown (mvT hZ (hw _ (List.mem_of_getElem? (i := 47) rfl))) (g := (mkF m 298 #[.val (.ref ar), .val (.int s0), .val (.int (1 : Int32)), .val (.int (2 : Int32)), .val (.int v62), .val (.int (6 : Int32)), .val (.int v66), .val (.int v70), .val (.int (128 : Int32)), .val (.int (2047 : Int32)), .val (.int r_73), .val (.int r_78)] [(.int r_78)])) rfl (hb hby d2_298)) ?_
          show Go p e below s Q 0 0 (T76.setTop (mkF m 300 #[.val (.ref ar), .val (.int s0), .val (.int (1 : Int32)), .val (.int (2 : Int32)), .val (.int v62), .val (.int (6 : Int32)), .val (.int v66), .val (.int v70), .val (.int (128 : Int32)), .val (.int (2047 : Int32)), .val (.int r_73), .val (.int r_78)] [(.int (57343 : Int32)), (.int r_78)]))
          have f86 := liI_57343
          by_cases c87 : 57343 < r_78.toInt
          ·
            refine Go.st (fun _ k => XS.icmpNo X76.here hx rfl (hb hby d2_300) rfl (tlt (ltI liI_57343 rfl c87)).2.2.2 k) ?_
            refine Go.st (fun _ k => XS.iconst X76.here hx rfl (hb hby d2_303) k) ?_
            refine Go.st (fun _ k => XS.goto X76.here hx rfl (pc0 := 304) (pc' := 308) rfl (hb hby d2_304) (by decide) (by decide) k) ?_
            show Go p e below s Q 0 0 (T76.setTop (mkF m 308 #[.val (.ref ar), .val (.int s0), .val (.int (1 : Int32)), .val (.int (2 : Int32)), .val (.int v62), .val (.int (6 : Int32)), .val (.int v66), .val (.int v70), .val (.int (128 : Int32)), .val (.int (2047 : Int32)), .val (.int r_73), .val (.int r_78)] [(.int (1 : Int32))]))
            have f88 := liI_1
            exact Go.retN X76 hx hlk (by simp) Bd.returns (hb hby d2_308) (z' := (1 : Int32)) (by decide) (by rw [← hQ, e76]; exact ⟨(1 : Int32), rfl, N76, (by exact Or.inl ⟨by omega, (by unfold Vbl SecOk; omega), 2, (by unfold LenIs; omega)⟩), rfl⟩) (by decide) (by decide)
          ·
            refine Go.st (fun _ k => XS.icmpYes X76.here hx rfl (pc0 := 300) (pc' := 307) rfl (hb hby d2_300) rfl (flt (nltI liI_57343 rfl c87)).2.2.2 (by decide) (by decide) k) ?_
            refine Go.st (fun _ k => XS.iconst X76.here hx rfl (hb hby d2_307) k) ?_
            show Go p e below s Q 0 0 (T76.setTop (mkF m 308 #[.val (.ref ar), .val (.int s0), .val (.int (1 : Int32)), .val (.int (2 : Int32)), .val (.int v62), .val (.int (6 : Int32)), .val (.int v66), .val (.int v70), .val (.int (128 : Int32)), .val (.int (2047 : Int32)), .val (.int r_73), .val (.int r_78)] [(.int (0 : Int32))]))
            have f89 := liI_0
            exact Go.retN X76 hx hlk (by simp) Bd.returns (hb hby d2_308) (z' := (0 : Int32)) (by decide) (by rw [← hQ, e76]; exact ⟨(0 : Int32), rfl, N76, (by refine Or.inr ⟨by omega, ?_⟩; rintro ⟨hv, nn, hn⟩; unfold Vbl SecOk at hv; unfold LenIs at hn; omega), rfl⟩) (by decide) (by decide)
    ·
      have cs18' : r_10 = (3 : Int32) := eqI cs18 liI_3 rfl
      subst cs18'
      have f90 := liI_3
      show Go p e below s Q 0 0 (T7.setTop (mkF m 13 #[.val (.ref ar), .val (.int s0), .val (.int (1 : Int32)), .val (.int (3 : Int32)), .unset, .unset, .unset, .unset, .unset, .unset, .unset, .unset] []))
      have f91 : 224 ≤ c0.toInt ∧ c0.toInt < 240 := by omega
      clear f1 f2 f4 f8 f11 f12 hL f13 c14 f90
      refine Go.st (fun _ k => XS.aloadN X7.here hx rfl (hb hby d2_13) rfl rfl k) ?_
      refine Go.st (fun _ k => XS.iloadN X7.here hx rfl (hb hby d2_14) rfl k) ?_
      have f93 := rng32 s0
      have f94 := liI_4
      have r95 : 0 ≤ s0.toInt := by omega
      have r96 : s0.toInt < (4 : Int32).toInt := by omega
      refine Go.st (Vec.ildI X7 hx hZ e7 hV (j := s0) r95 r96 (g := (mkF m 15 #[.val (.ref ar), .val (.int s0), .val (.int (1 : Int32)), .val (.int (3 : Int32)), .unset, .unset, .unset, .unset, .unset, .unset, .unset, .unset] [(.int s0), (.ref ar)])) rfl rfl (hb hby d2_15)) ?_
      show Go p e below s Q 0 0 (T7.setTop (mkF m 16 #[.val (.ref ar), .val (.int s0), .val (.int (1 : Int32)), .val (.int (3 : Int32)), .unset, .unset, .unset, .unset, .unset, .unset, .unset, .unset] [(.int (f s0.toInt.toNat))]))
      refine Go.st (fun _ k => XS.iloadN X7.here hx rfl (hb hby d2_16) rfl k) ?_
      refine Go.st (fun _ k => XS.iconst X7.here hx rfl (hb hby d2_17) k) ?_
      refine Go.st (fun _ k => XS.icmpYes X7.here hx rfl (pc0 := 18) (pc' := 26) rfl (hb hby d2_18) rfl (feq (neI liI_3 liI_1 (by decide))).2 (by decide) (by decide) k) ?_
      refine Go.st (fun _ k => XS.iloadN X7.here hx rfl (hb hby d2_26) rfl k) ?_
      refine Go.st (fun _ k => XS.iconst X7.here hx rfl (hb hby d2_27) k) ?_
      refine Go.st (fun _ k => XS.icmpYes X7.here hx rfl (pc0 := 28) (pc' := 36) rfl (hb hby d2_28) rfl (feq (neI liI_3 liI_2 (by decide))).2 (by decide) (by decide) k) ?_
      show Go p e below s Q 0 0 (T7.setTop (mkF m 36 #[.val (.ref ar), .val (.int s0), .val (.int (1 : Int32)), .val (.int (3 : Int32)), .unset, .unset, .unset, .unset, .unset, .unset, .unset, .unset] [(.int (f s0.toInt.toNat))]))
      refine Go.st (fun _ k => XS.iloadN X7.here hx rfl (hb hby d2_36) rfl k) ?_
      refine Go.st (fun _ k => XS.iconst X7.here hx rfl (hb hby d2_37) k) ?_
      refine Go.st (fun _ k => XS.icmpNo X7.here hx rfl (hb hby d2_38) rfl (teq (eqI liI_3 liI_3 (by decide))).2 k) ?_
      refine Go.st (fun _ k => XS.bipush X7.here hx rfl (hb hby d2_41) k) ?_
      refine Go.st (fun _ k => XS.goto X7.here hx rfl (pc0 := 43) (pc' := 48) rfl (hb hby d2_43) (by decide) (by decide) k) ?_
      refine Go.st (fun _ k => XS.iand X7.here hx rfl (hb hby d2_48) rfl k) ?_
      show Go p e below s Q 0 0 (T7.setTop (mkF m 49 #[.val (.ref ar), .val (.int s0), .val (.int (1 : Int32)), .val (.int (3 : Int32)), .unset, .unset, .unset, .unset, .unset, .unset, .unset, .unset] [(.int ((f s0.toInt.toNat) &&& (15 : Int32)))]))
      refine Go.st (fun _ k => XS.istore X7.here hx rfl (hb hby d2_49) rfl (l' := #[.val (.ref ar), .val (.int s0), .val (.int (1 : Int32)), .val (.int (3 : Int32)), .val (.int ((f s0.toInt.toNat) &&& (15 : Int32))), .unset, .unset, .unset, .unset, .unset, .unset, .unset]) rfl k) ?_
      show Go p e below s Q 0 0 (T7.setTop (mkF m 51 #[.val (.ref ar), .val (.int s0), .val (.int (1 : Int32)), .val (.int (3 : Int32)), .val (.int ((f s0.toInt.toNat) &&& (15 : Int32))), .unset, .unset, .unset, .unset, .unset, .unset, .unset] []))
      have f97 := rng32 (f s0.toInt.toNat)
      have f98 := liI_15
      have f99 : ((f s0.toInt.toNat) &&& (15 : Int32)).toInt = (f s0.toInt.toNat).toInt % 16 := c_mask (f s0.toInt.toNat) (15 : Int32) 4 (by decide) (by decide)
      generalize hv_v100 : ((f s0.toInt.toNat) &&& (15 : Int32)) = v100 at f99 ⊢
      refine Go.st (fun _ k => XS.iloadN X7.here hx rfl (hb hby d2_51) rfl k) ?_
      refine Go.st (fun _ k => XS.iconst X7.here hx rfl (hb hby d2_52) k) ?_
      refine Go.st (fun _ k => XS.icmpYes X7.here hx rfl (pc0 := 53) (pc' := 90) rfl (hb hby d2_53) rfl (tlt (ltI liI_1 liI_2 (by decide))).1 (by decide) (by decide) k) ?_
      refine Go.st (fun _ k => XS.iloadN X7.here hx rfl (hb hby d2_90) rfl k) ?_
      refine Go.st (fun _ k => XS.iconst X7.here hx rfl (hb hby d2_91) k) ?_
      refine Go.st (fun _ k => XS.icmpYes X7.here hx rfl (pc0 := 92) (pc' := 129) rfl (hb hby d2_92) rfl (tlt (ltI liI_1 liI_3 (by decide))).1 (by decide) (by decide) k) ?_
      show Go p e below s Q 0 0 (T7.setTop (mkF m 129 #[.val (.ref ar), .val (.int s0), .val (.int (1 : Int32)), .val (.int (3 : Int32)), .val (.int v100), .unset, .unset, .unset, .unset, .unset, .unset, .unset] []))
      refine Go.st (fun _ k => XS.iloadN X7.here hx rfl (hb hby d2_129) rfl k) ?_
      refine Go.st (fun _ k => XS.iconst X7.here hx rfl (hb hby d2_130) k) ?_
      refine Go.st (fun _ k => XS.icmpYes X7.here hx rfl (pc0 := 131) (pc' := 168) rfl (hb hby d2_131) rfl (tlt (ltI liI_1 liI_4 (by decide))).1 (by decide) (by decide) k) ?_
      refine Go.st (fun _ k => XS.bipush X7.here hx rfl (hb hby d2_168) k) ?_
      refine Go.st (fun _ k => XS.iloadN X7.here hx rfl (hb hby d2_170) rfl k) ?_
      refine Go.st (fun _ k => XS.iloadN X7.here hx rfl (hb hby d2_171) rfl k) ?_
      show Go p e below s Q 0 0 (T7.setTop (mkF m 172 #[.val (.ref ar), .val (.int s0), .val (.int (1 : Int32)), .val (.int (3 : Int32)), .val (.int v100), .unset, .unset, .unset, .unset, .unset, .unset, .unset] [(.int (1 : Int32)), (.int (3 : Int32)), (.int (6 : Int32))]))
      refine Go.st (fun _ k => XS.isub X7.here hx rfl (hb hby d2_172) rfl k) ?_
      refine Go.st (fun _ k => XS.imul X7.here hx rfl (hb hby d2_173) rfl k) ?_
      refine Go.st (fun _ k => XS.istore X7.here hx rfl (hb hby d2_174) rfl (l' := #[.val (.ref ar), .val (.int s0), .val (.int (1 : Int32)), .val (.int (3 : Int32)), .val (.int v100), .val (.int (12 : Int32)), .unset, .unset, .unset, .unset, .unset, .unset]) rfl k) ?_
      refine Go.st (fun _ k => XS.iload X7.here hx rfl (hb hby d2_176) rfl k) ?_
      refine Go.st (fun _ k => XS.iload X7.here hx rfl (hb hby d2_178) rfl k) ?_
      refine Go.st (fun _ k => XS.ishl X7.here hx rfl (hb hby d2_180) rfl k) ?_
      show Go p e below s Q 0 0 (T7.setTop (mkF m 181 #[.val (.ref ar), .val (.int s0), .val (.int (1 : Int32)), .val (.int (3 : Int32)), .val (.int v100), .val (.int (12 : Int32)), .unset, .unset, .unset, .unset, .unset, .unset] [(.int (v100 <<< ((12 : Int32) &&& 31)))]))
      refine Go.st (fun _ k => XS.istore X7.here hx rfl (hb hby d2_181) rfl (l' := #[.val (.ref ar), .val (.int s0), .val (.int (1 : Int32)), .val (.int (3 : Int32)), .val (.int v100), .val (.int (12 : Int32)), .val (.int (v100 <<< ((12 : Int32) &&& 31))), .unset, .unset, .unset, .unset, .unset]) rfl k) ?_
      show Go p e below s Q 0 0 (T7.setTop (mkF m 183 #[.val (.ref ar), .val (.int s0), .val (.int (1 : Int32)), .val (.int (3 : Int32)), .val (.int v100), .val (.int (12 : Int32)), .val (.int (v100 <<< ((12 : Int32) &&& 31))), .unset, .unset, .unset, .unset, .unset] []))
      have f101 := liI_12
      have f102 : ((v100 <<< ((12 : Int32) &&& 31)).toInt - v100.toInt * 4096) % 4294967296 = 0 := c_ishl v100 (12 : Int32) 12 (by decide)
      have f103 := rng32 (v100 <<< ((12 : Int32) &&& 31))
      generalize hv_v104 : (v100 <<< ((12 : Int32) &&& 31)) = v104 at f102 f103 ⊢
      refine Go.st (fun _ k => XS.iload X7.here hx rfl (hb hby d2_183) rfl k) ?_
      refine Go.st (fun _ k => XS.iconst X7.here hx rfl (hb hby d2_185) k) ?_
      refine Go.st (fun _ k => XS.iload X7.here hx rfl (hb hby d2_186) rfl k) ?_
      refine Go.st (fun _ k => XS.ishl X7.here hx rfl (hb hby d2_188) rfl k) ?_
      refine Go.st (fun _ k => XS.iconst X7.here hx rfl (hb hby d2_189) k) ?_
      refine Go.st (fun _ k => XS.isub X7.here hx rfl (hb hby d2_190) rfl k) ?_
      show Go p e below s Q 0 0 (T7.setTop (mkF m 191 #[.val (.ref ar), .val (.int s0), .val (.int (1 : Int32)), .val (.int (3 : Int32)), .val (.int v100), .val (.int (12 : Int32)), .val (.int v104), .unset, .unset, .unset, .unset, .unset] [(.int (4095 : Int32)), (.int v104)]))
      refine Go.st (fun _ k => XS.ior X7.here hx rfl (hb hby d2_191) rfl k) ?_
      refine Go.st (fun _ k => XS.istore X7.here hx rfl (hb hby d2_192) rfl (l' := #[.val (.ref ar), .val (.int s0), .val (.int (1 : Int32)), .val (.int (3 : Int32)), .val (.int v100), .val (.int (12 : Int32)), .val (.int v104), .val (.int (v104 ||| (4095 : Int32))), .unset, .unset, .unset, .unset]) rfl k) ?_
      show Go p e below s Q 0 0 (T7.setTop (mkF m 194 #[.val (.ref ar), .val (.int s0), .val (.int (1 : Int32)), .val (.int (3 : Int32)), .val (.int v100), .val (.int (12 : Int32)), .val (.int v104), .val (.int (v104 ||| (4095 : Int32))), .unset, .unset, .unset, .unset] []))
      have f105 := liI_4095
      have f106 := c_or v104 (4095 : Int32) 12 (by decide) 4096 (by decide) (by omega) (by omega) (by omega)
      have f107 := rng32 (v104 ||| (4095 : Int32))
      generalize hv_v108 : (v104 ||| (4095 : Int32)) = v108 at f106 f107 ⊢
      refine Go.st (fun _ k => XS.iloadN X7.here hx rfl (hb hby d2_194) rfl k) ?_
      refine Go.st (fun _ k => XS.iconst X7.here hx rfl (hb hby d2_195) k) ?_
      refine Go.st (fun _ k => XS.icmpYes X7.here hx rfl (pc0 := 196) (pc' := 203) rfl (hb hby d2_196) rfl (feq (neI liI_3 liI_1 (by decide))).2 (by decide) (by decide) k) ?_
      refine Go.st (fun _ k => XS.iloadN X7.here hx rfl (hb hby d2_203) rfl k) ?_
      refine Go.st (fun _ k => XS.iconst X7.here hx rfl (hb hby d2_204) k) ?_
      refine Go.st (fun _ k => XS.icmpYes X7.here hx rfl (pc0 := 205) (pc' := 214) rfl (hb hby d2_205) rfl (feq (neI liI_3 liI_2 (by decide))).2 (by decide) (by decide) k) ?_
      show Go p e below s Q 0 0 (T7.setTop (mkF m 214 #[.val (.ref ar), .val (.int s0), .val (.int (1 : Int32)), .val (.int (3 : Int32)), .val (.int v100), .val (.int (12 : Int32)), .val (.int v104), .val (.int v108), .unset, .unset, .unset, .unset] []))
      refine Go.st (fun _ k => XS.iloadN X7.here hx rfl (hb hby d2_214) rfl k) ?_
      refine Go.st (fun _ k => XS.iconst X7.here hx rfl (hb hby d2_215) k) ?_
      refine Go.st (fun _ k => XS.icmpNo X7.here hx rfl (hb hby d2_216) rfl (teq (eqI liI_3 liI_3 (by decide))).2 k) ?_
      refine Go.st (fun _ k => XS.sipush X7.here hx rfl (hb hby d2_219) k) ?_
      refine Go.st (fun _ k => XS.goto X7.here hx rfl (pc0 := 222) (pc' := 227) rfl (hb hby d2_222) (by decide) (by decide) k) ?_
      refine Go.st (fun _ k => XS.istore X7.here hx rfl (hb hby d2_227) rfl (l' := #[.val (.ref ar), .val (.int s0), .val (.int (1 : Int32)), .val (.int (3 : Int32)), .val (.int v100), .val (.int (12 : Int32)), .val (.int v104), .val (.int v108), .val (.int (2048 : Int32)), .unset, .unset, .unset]) rfl k) ?_
      show Go p e below s Q 0 0 (T7.setTop (mkF m 229 #[.val (.ref ar), .val (.int s0), .val (.int (1 : Int32)), .val (.int (3 : Int32)), .val (.int v100), .val (.int (12 : Int32)), .val (.int v104), .val (.int v108), .val (.int (2048 : Int32)), .unset, .unset, .unset] []))
      refine Go.st (fun _ k => XS.iloadN X7.here hx rfl (hb hby d2_229) rfl k) ?_
      refine Go.st (fun _ k => XS.iconst X7.here hx rfl (hb hby d2_230) k) ?_
      refine Go.st (fun _ k => XS.icmpYes X7.here hx rfl (pc0 := 231) (pc' := 239) rfl (hb hby d2_231) rfl (feq (neI liI_3 liI_1 (by decide))).2 (by decide) (by decide) k) ?_
      refine Go.st (fun _ k => XS.iloadN X7.here hx rfl (hb hby d2_239) rfl k) ?_
      refine Go.st (fun _ k => XS.iconst X7.here hx rfl (hb hby d2_240) k) ?_
      refine Go.st (fun _ k => XS.icmpYes X7.here hx rfl (pc0 := 241) (pc' := 250) rfl (hb hby d2_241) rfl (feq (neI liI_3 liI_2 (by decide))).2 (by decide) (by decide) k) ?_
      show Go p e below s Q 0 0 (T7.setTop (mkF m 250 #[.val (.ref ar), .val (.int s0), .val (.int (1 : Int32)), .val (.int (3 : Int32)), .val (.int v100), .val (.int (12 : Int32)), .val (.int v104), .val (.int v108), .val (.int (2048 : Int32)), .unset, .unset, .unset] []))
      refine Go.st (fun _ k => XS.iloadN X7.here hx rfl (hb hby d2_250) rfl k) ?_
      refine Go.st (fun _ k => XS.iconst X7.here hx rfl (hb hby d2_251) k) ?_
      refine Go.st (fun _ k => XS.icmpNo X7.here hx rfl (hb hby d2_252) rfl (teq (eqI liI_3 liI_3 (by decide))).2 k) ?_
      refine Go.st (X7.ldcInt hx hown (mvT hZ (hw _ (List.mem_of_getElem? (i := 46) rfl))) (g := (mkF m 255 #[.val (.ref ar), .val (.int s0), .val (.int (1 : Int32)), .val (.int (3 : Int32)), .val (.int v100), .val (.int (12 : Int32)), .val (.int v104), .val (.int v108), .val (.int (2048 : Int32)), .unset, .unset, .unset] [])) rfl (hb hby d2_255)) ?_
      show Go p e below s Q 0 0 (T7.setTop (mkF m 257 #[.val (.ref ar), .val (.int s0), .val (.int (1 : Int32)), .val (.int (3 : Int32)), .val (.int v100), .val (.int (12 : Int32)), .val (.int v104), .val (.int v108), .val (.int (2048 : Int32)), .unset, .unset, .unset] [(.int (65535 : Int32))]))
      refine Go.st (fun _ k => XS.goto X7.here hx rfl (pc0 := 257) (pc' := 262) rfl (hb hby d2_257) (by decide) (by decide) k) ?_
      refine Go.st (fun _ k => XS.istore X7.here hx rfl (hb hby d2_262) rfl (l' := #[.val (.ref ar), .val (.int s0), .val (.int (1 : Int32)), .val (.int (3 : Int32)), .val (.int v100), .val (.int (12 : Int32)), .val (.int v104), .val (.int v108), .val (.int (2048 : Int32)), .val (.int (65535 : Int32)), .unset, .unset]) rfl k) ?_
      refine Go.st (fun _ k => XS.iload X7.here hx rfl (hb hby d2_264) rfl k) ?_
      refine Go.st (fun _ k => XS.iload X7.here hx rfl (hb hby d2_266) rfl k) ?_
      have f110 := liI_2048
      obtain ⟨_, _, ⟨T109, L109, k109, n109⟩, -, X109, ⟨Lc109, hQ109, l109, y109, z109⟩, st109⟩ := Jvm.LawKit.callS X7 hx (y := (⟨"java/lang/Math", "max", "(II)I"⟩ : MethodName)) hown (mvT hZ (hw _ (List.mem_of_getElem? (i := 13) rfl))) (mvT hZ (hw _ (List.mem_of_getElem? (i := 14) rfl))) (mvT hZ (hw _ (List.mem_of_getElem? (i := 15) rfl))) (mvT hZ (hw _ (List.mem_of_getElem? (i := 16) rfl))) (by decide) (backOf (W := 0) (rm4 l Z a0 hw [] v104 (2048 : Int32) h0 n0 (Nat.le_trans Z0 K0.1) ) hZ (hw _ (List.mem_of_getElem? (i := 16) rfl)) (hw _ (List.mem_of_getElem? (i := 15) rfl)) (by decide) (by decide)) (g := (mkF m 268 #[.val (.ref ar), .val (.int s0), .val (.int (1 : Int32)), .val (.int (3 : Int32)), .val (.int v100), .val (.int (12 : Int32)), .val (.int v104), .val (.int v108), .val (.int (2048 : Int32)), .val (.int (65535 : Int32)), .unset, .unset] [(.int (2048 : Int32)), (.int v104)])) rfl (by rw [hml]; rfl) (argsL := [(.int v104), (.int (2048 : Int32))]) (rest := []) (lenOf pd_1 rfl) rfl (by show 2 * 0 + _ ≤ _; exact Nat.le_of_eq rfl) (hb hby d2_268) (fun _ _ => ⟨rfl, e7, (by decide : 0 + 0 ≤ _), (by decide : 0 + 0 ≤ _)⟩)
      dsimp only [Pt.U, Pt.locs, Pt.cells, Pt.slots] at X109 l109 y109 z109 st109 hQ109
      subst y109 z109
      obtain ⟨r_111, rfl, N109q, f112, e109⟩ := hQ109
      have N109 : Fr n0 L109 := by rw [l109]; exact Fr.app N7 N109q
      refine Go.st st109 ?_
      show Go p e below s Q 0 0 (T109.setTop (mkF m 271 #[.val (.ref ar), .val (.int s0), .val (.int (1 : Int32)), .val (.int (3 : Int32)), .val (.int v100), .val (.int (12 : Int32)), .val (.int v104), .val (.int v108), .val (.int (2048 : Int32)), .val (.int (65535 : Int32)), .unset, .unset] [(.int r_111)]))
      have f113 := rng32 r_111
      refine Go.st (fun _ k => XS.istore X109.here hx rfl (hb hby d2_271) rfl (l' := #[.val (.ref ar), .val (.int s0), .val (.int (1 : Int32)), .val (.int (3 : Int32)), .val (.int v100), .val (.int (12 : Int32)), .val (.int v104), .val (.int v108), .val (.int (2048 : Int32)), .val (.int (65535 : Int32)), .val (.int r_111), .unset]) rfl k) ?_
      refine Go.st (fun _ k => XS.iload X109.here hx rfl (hb hby d2_273) rfl k) ?_
      refine Go.st (fun _ k => XS.iload X109.here hx rfl (hb hby d2_275) rfl k) ?_
      have f115 := liI_65535
      obtain ⟨_, _, ⟨T114, L114, k114, n114⟩, -, X114, ⟨Lc114, hQ114, l114, y114, z114⟩, st114⟩ := Jvm.LawKit.callS X109 hx (y := (⟨"java/lang/Math", "min", "(II)I"⟩ : MethodName)) hown (mvT hZ (hw _ (List.mem_of_getElem? (i := 17) rfl))) (mvT hZ (hw _ (List.mem_of_getElem? (i := 18) rfl))) (mvT hZ (hw _ (List.mem_of_getElem? (i := 15) rfl))) (mvT hZ (hw _ (List.mem_of_getElem? (i := 19) rfl))) (by decide) (backOf (W := 0) (rm5 l Z a0 hw [] v108 (65535 : Int32) h0 n0 (Nat.le_trans Z0 K0.1) ) hZ (hw _ (List.mem_of_getElem? (i := 19) rfl)) (hw _ (List.mem_of_getElem? (i := 15) rfl)) (by decide) (by decide)) (g := (mkF m 277 #[.val (.ref ar), .val (.int s0), .val (.int (1 : Int32)), .val (.int (3 : Int32)), .val (.int v100), .val (.int (12 : Int32)), .val (.int v104), .val (.int v108), .val (.int (2048 : Int32)), .val (.int (65535 : Int32)), .val (.int r_111), .unset] [(.int (65535 : Int32)), (.int v108)])) rfl (by rw [hml]; rfl) (argsL := [(.int v108), (.int (65535 : Int32))]) (rest := []) (lenOf pd_1 rfl) rfl (by show 2 * 0 + _ ≤ _; exact Nat.le_of_eq rfl) (hb hby d2_277) (fun _ _ => ⟨rfl, e109, (by decide : 0 + 0 ≤ _), (by decide : 0 + 0 ≤ _)⟩)
      dsimp only [Pt.U, Pt.locs, Pt.cells, Pt.slots] at X114 l114 y114 z114 st114 hQ114
      subst y114 z114
      obtain ⟨r_116, rfl, N114q, f117, e114⟩ := hQ114
      have N114 : Fr n0 L114 := by rw [l114]; exact Fr.app N109 N114q
      refine Go.st st114 ?_
      show Go p e below s Q 0 0 (T114.setTop (mkF m 280 #[.val (.ref ar), .val (.int s0), .val (.int (1 : Int32)), .val (.int (3 : Int32)), .val (.int v100), .val (.int (12 : Int32)), .val (.int v104), .val (.int v108), .val (.int (2048 : Int32)), .val (.int (65535 : Int32)), .val (.int r_111), .unset] [(.int r_116)]))
      have f118 := rng32 r_116
      refine Go.st (fun _ k => XS.istore X114.here hx rfl (hb hby d2_280) rfl (l' := #[.val (.ref ar), .val (.int s0), .val (.int (1 : Int32)), .val (.int (3 : Int32)), .val (.int v100), .val (.int (12 : Int32)), .val (.int v104), .val (.int v108), .val (.int (2048 : Int32)), .val (.int (65535 : Int32)), .val (.int r_111), .val (.int r_116)]) rfl k) ?_
      refine Go.st (fun _ k => XS.iload X114.here hx rfl (hb hby d2_282) rfl k) ?_
      refine Go.st (fun _ k => XS.iload X114.here hx rfl (hb hby d2_284) rfl k) ?_
      by_cases c119 : r_116.toInt < r_111.toInt
      ·
        refine Go.st (fun _ k => XS.icmpYes X114.here hx rfl (pc0 := 286) (pc' := 307) rfl (hb hby d2_286) rfl (tlt (ltI rfl rfl c119)).2.2.1 (by decide) (by decide) k) ?_
        refine Go.st (fun _ k => XS.iconst X114.here hx rfl (hb hby d2_307) k) ?_
        show Go p e below s Q 0 0 (T114.setTop (mkF m 308 #[.val (.ref ar), .val (.int s0), .val (.int (1 : Int32)), .val (.int (3 : Int32)), .val (.int v100), .val (.int (12 : Int32)), .val (.int v104), .val (.int v108), .val (.int (2048 : Int32)), .val (.int (65535 : Int32)), .val (.int r_111), .val (.int r_116)] [(.int (0 : Int32))]))
        have f120 := liI_0
        exact Go.retN X114 hx hlk (by simp) Bd.returns (hb hby d2_308) (z' := (0 : Int32)) (by decide) (by rw [← hQ, e114]; exact ⟨(0 : Int32), rfl, N114, (by refine Or.inr ⟨by omega, ?_⟩; rintro ⟨hv, nn, hn⟩; unfold Vbl SecOk at hv; unfold LenIs at hn; omega), rfl⟩) (by decide) (by decide)
      ·
        refine Go.st (fun _ k => XS.icmpNo X114.here hx rfl (hb hby d2_286) rfl (flt (nltI rfl rfl c119)).2.2.1 k) ?_
        refine Go.st (fun _ k => XS.iload X114.here hx rfl (hb hby d2_289) rfl k) ?_
        refine Go.st (X114.ldcInt hx hown (mvT hZ (hw _ (List.mem_of_getElem? (i := 20) rfl))) (g := (mkF m 291 #[.val (.ref ar), .val (.int s0), .val (.int (1 : Int32)), .val (.int (3 : Int32)), .val (.int v100), .val (.int (12 : Int32)), .val (.int v104), .val (.int v108), .val (.int (2048 : Int32)), .val (.int (65535 : Int32)), .val (.int r_111), .val (.int r_116)] [(.int r_111)])) rfl (hb hby d2_291)) ?_
        show Go p e below s Q 0 0 (T114.setTop (mkF m 293 #[.val (.ref ar), .val (.int s0), .val (.int (1 : Int32)), .val (.int (3 : Int32)), .val (.int v100), .val (.int (12 : Int32)), .val (.int v104), .val (.int v108), .val (.int (2048 : Int32)), .val (.int (65535 : Int32)), .val (.int r_111), .val (.int r_116)] [(.int (55296 : Int32)), (.int r_111)]))
        have f121 := liI_55296
        by_cases c122 : r_111.toInt < 55296
        ·
          refine Go.st (fun _ k => XS.icmpYes X114.here hx rfl (pc0 := 293) (pc' := 303) rfl (hb hby d2_293) rfl (tlt (ltI rfl liI_55296 c122)).1 (by decide) (by decide) k) ?_
          refine Go.st (fun _ k => XS.iconst X114.here hx rfl (hb hby d2_303) k) ?_
          refine Go.st (fun _ k => XS.goto X114.here hx rfl (pc0 := 304) (pc' := 308) rfl (hb hby d2_304) (by decide) (by decide) k) ?_
          show Go p e below s Q 0 0 (T114.setTop (mkF m 308 #[.val (.ref ar), .val (.int s0), .val (.int (1 : Int32)), .val (.int (3 : Int32)), .val (.int v100), .val (.int (12 : Int32)), .val (.int v104), .val (.int v108), .val (.int (2048 : Int32)), .val (.int (65535 : Int32)), .val (.int r_111), .val (.int r_116)] [(.int (1 : Int32))]))
          have f123 := liI_1
          exact Go.retN X114 hx hlk (by simp) Bd.returns (hb hby d2_308) (z' := (1 : Int32)) (by decide) (by rw [← hQ, e114]; exact ⟨(1 : Int32), rfl, N114, (by exact Or.inl ⟨by omega, (by unfold Vbl SecOk; omega), 3, (by unfold LenIs; omega)⟩), rfl⟩) (by decide) (by decide)
        ·
          refine Go.st (fun _ k => XS.icmpNo X114.here hx rfl (hb hby d2_293) rfl (flt (nltI rfl liI_55296 c122)).1 k) ?_
          refine Go.st (fun _ k => XS.iload X114.here hx rfl (hb hby d2_296) rfl k) ?_
          refine Go.st (X114.ldcInt hx hown (mvT hZ (hw _ (List.mem_of_getElem? (i := 47) rfl))) (g := (mkF m 298 #[.val (.ref ar), .val (.int s0), .val (.int (1 : Int32)), .val (.int (3 : Int32)), .val (.int v100), .val (.int (12 : Int32)), .val (.int v104), .val (.int v108), .val (.int (2048 : Int32)), .val (.int (65535 : Int32)), .val (.int r_111), .val (.int r_116)] [(.int r_116)])) rfl (hb hby d2_298)) ?_
          show Go p e below s Q 0 0 (T114.setTop (mkF m 300 #[.val (.ref ar), .val (.int s0), .val (.int (1 : Int32)), .val (.int (3 : Int32)), .val (.int v100), .val (.int (12 : Int32)), .val (.int v104), .val (.int v108), .val (.int (2048 : Int32)), .val (.int (65535 : Int32)), .val (.int r_111), .val (.int r_116)] [(.int (57343 : Int32)), (.int r_116)]))
          have f124 := liI_57343
          by_cases c125 : 57343 < r_116.toInt
          ·
            refine Go.st (fun _ k => XS.icmpNo X114.here hx rfl (hb hby d2_300) rfl (tlt (ltI liI_57343 rfl c125)).2.2.2 k) ?_
            refine Go.st (fun _ k => XS.iconst X114.here hx rfl (hb hby d2_303) k) ?_
            refine Go.st (fun _ k => XS.goto X114.here hx rfl (pc0 := 304) (pc' := 308) rfl (hb hby d2_304) (by decide) (by decide) k) ?_
            show Go p e below s Q 0 0 (T114.setTop (mkF m 308 #[.val (.ref ar), .val (.int s0), .val (.int (1 : Int32)), .val (.int (3 : Int32)), .val (.int v100), .val (.int (12 : Int32)), .val (.int v104), .val (.int v108), .val (.int (2048 : Int32)), .val (.int (65535 : Int32)), .val (.int r_111), .val (.int r_116)] [(.int (1 : Int32))]))
            have f126 := liI_1
            exact Go.retN X114 hx hlk (by simp) Bd.returns (hb hby d2_308) (z' := (1 : Int32)) (by decide) (by rw [← hQ, e114]; exact ⟨(1 : Int32), rfl, N114, (by exact Or.inl ⟨by omega, (by unfold Vbl SecOk; omega), 3, (by unfold LenIs; omega)⟩), rfl⟩) (by decide) (by decide)
          ·
            refine Go.st (fun _ k => XS.icmpYes X114.here hx rfl (pc0 := 300) (pc' := 307) rfl (hb hby d2_300) rfl (flt (nltI liI_57343 rfl c125)).2.2.2 (by decide) (by decide) k) ?_
            refine Go.st (fun _ k => XS.iconst X114.here hx rfl (hb hby d2_307) k) ?_
            show Go p e below s Q 0 0 (T114.setTop (mkF m 308 #[.val (.ref ar), .val (.int s0), .val (.int (1 : Int32)), .val (.int (3 : Int32)), .val (.int v100), .val (.int (12 : Int32)), .val (.int v104), .val (.int v108), .val (.int (2048 : Int32)), .val (.int (65535 : Int32)), .val (.int r_111), .val (.int r_116)] [(.int (0 : Int32))]))
            have f127 := liI_0
            exact Go.retN X114 hx hlk (by simp) Bd.returns (hb hby d2_308) (z' := (0 : Int32)) (by decide) (by rw [← hQ, e114]; exact ⟨(0 : Int32), rfl, N114, (by refine Or.inr ⟨by omega, ?_⟩; rintro ⟨hv, nn, hn⟩; unfold Vbl SecOk at hv; unfold LenIs at hn; omega), rfl⟩) (by decide) (by decide)
    ·
      have cs19' : r_10 = (4 : Int32) := eqI cs19 liI_4 rfl
      subst cs19'
      show Go p e below s Q 0 0 (T7.setTop (mkF m 13 #[.val (.ref ar), .val (.int s0), .val (.int (1 : Int32)), .val (.int (4 : Int32)), .unset, .unset, .unset, .unset, .unset, .unset, .unset, .unset] []))
      have f128 : 240 ≤ c0.toInt ∧ c0.toInt < 248 := by omega
      clear f1 f2 f4 f8 f11 f12 hL f13 c14
      refine Go.st (fun _ k => XS.aloadN X7.here hx rfl (hb hby d2_13) rfl rfl k) ?_
      refine Go.st (fun _ k => XS.iloadN X7.here hx rfl (hb hby d2_14) rfl k) ?_
      have f130 := rng32 s0
      have f131 := liI_4
      have r132 : 0 ≤ s0.toInt := by omega
      have r133 : s0.toInt < (4 : Int32).toInt := by omega
      refine Go.st (Vec.ildI X7 hx hZ e7 hV (j := s0) r132 r133 (g := (mkF m 15 #[.val (.ref ar), .val (.int s0), .val (.int (1 : Int32)), .val (.int (4 : Int32)), .unset, .unset, .unset, .unset, .unset, .unset, .unset, .unset] [(.int s0), (.ref ar)])) rfl rfl (hb hby d2_15)) ?_
      show Go p e below s Q 0 0 (T7.setTop (mkF m 16 #[.val (.ref ar), .val (.int s0), .val (.int (1 : Int32)), .val (.int (4 : Int32)), .unset, .unset, .unset, .unset, .unset, .unset, .unset, .unset] [(.int (f s0.toInt.toNat))]))
      refine Go.st (fun _ k => XS.iloadN X7.here hx rfl (hb hby d2_16) rfl k) ?_
      refine Go.st (fun _ k => XS.iconst X7.here hx rfl (hb hby d2_17) k) ?_
      refine Go.st (fun _ k => XS.icmpYes X7.here hx rfl (pc0 := 18) (pc' := 26) rfl (hb hby d2_18) rfl (feq (neI liI_4 liI_1 (by decide))).2 (by decide) (by decide) k) ?_
      refine Go.st (fun _ k => XS.iloadN X7.here hx rfl (hb hby d2_26) rfl k) ?_
      refine Go.st (fun _ k => XS.iconst X7.here hx rfl (hb hby d2_27) k) ?_
      refine Go.st (fun _ k => XS.icmpYes X7.here hx rfl (pc0 := 28) (pc' := 36) rfl (hb hby d2_28) rfl (feq (neI liI_4 liI_2 (by decide))).2 (by decide) (by decide) k) ?_
      show Go p e below s Q 0 0 (T7.setTop (mkF m 36 #[.val (.ref ar), .val (.int s0), .val (.int (1 : Int32)), .val (.int (4 : Int32)), .unset, .unset, .unset, .unset, .unset, .unset, .unset, .unset] [(.int (f s0.toInt.toNat))]))
      refine Go.st (fun _ k => XS.iloadN X7.here hx rfl (hb hby d2_36) rfl k) ?_
      refine Go.st (fun _ k => XS.iconst X7.here hx rfl (hb hby d2_37) k) ?_
      refine Go.st (fun _ k => XS.icmpYes X7.here hx rfl (pc0 := 38) (pc' := 46) rfl (hb hby d2_38) rfl (feq (neI liI_4 liI_3 (by decide))).2 (by decide) (by decide) k) ?_
      refine Go.st (fun _ k => XS.bipush X7.here hx rfl (hb hby d2_46) k) ?_
      refine Go.st (fun _ k => XS.iand X7.here hx rfl (hb hby d2_48) rfl k) ?_
      refine Go.st (fun _ k => XS.istore X7.here hx rfl (hb hby d2_49) rfl (l' := #[.val (.ref ar), .val (.int s0), .val (.int (1 : Int32)), .val (.int (4 : Int32)), .val (.int ((f s0.toInt.toNat) &&& (7 : Int32))), .unset, .unset, .unset, .unset, .unset, .unset, .unset]) rfl k) ?_
      show Go p e below s Q 0 0 (T7.setTop (mkF m 51 #[.val (.ref ar), .val (.int s0), .val (.int (1 : Int32)), .val (.int (4 : Int32)), .val (.int ((f s0.toInt.toNat) &&& (7 : Int32))), .unset, .unset, .unset, .unset, .unset, .unset, .unset] []))
      have f134 := rng32 (f s0.toInt.toNat)
      have f135 := liI_7
      have f136 : ((f s0.toInt.toNat) &&& (7 : Int32)).toInt = (f s0.toInt.toNat).toInt % 8 := c_mask (f s0.toInt.toNat) (7 : Int32) 3 (by decide) (by decide)
      generalize hv_v137 : ((f s0.toInt.toNat) &&& (7 : Int32)) = v137 at f136 ⊢
      refine Go.st (fun _ k => XS.iloadN X7.here hx rfl (hb hby d2_51) rfl k) ?_
      refine Go.st (fun _ k => XS.iconst X7.here hx rfl (hb hby d2_52) k) ?_
      refine Go.st (fun _ k => XS.icmpYes X7.here hx rfl (pc0 := 53) (pc' := 90) rfl (hb hby d2_53) rfl (tlt (ltI liI_1 liI_2 (by decide))).1 (by decide) (by decide) k) ?_
      refine Go.st (fun _ k => XS.iloadN X7.here hx rfl (hb hby d2_90) rfl k) ?_
      refine Go.st (fun _ k => XS.iconst X7.here hx rfl (hb hby d2_91) k) ?_
      refine Go.st (fun _ k => XS.icmpYes X7.here hx rfl (pc0 := 92) (pc' := 129) rfl (hb hby d2_92) rfl (tlt (ltI liI_1 liI_3 (by decide))).1 (by decide) (by decide) k) ?_
      show Go p e below s Q 0 0 (T7.setTop (mkF m 129 #[.val (.ref ar), .val (.int s0), .val (.int (1 : Int32)), .val (.int (4 : Int32)), .val (.int v137), .unset, .unset, .unset, .unset, .unset, .unset, .unset] []))
      refine Go.st (fun _ k => XS.iloadN X7.here hx rfl (hb hby d2_129) rfl k) ?_
      refine Go.st (fun _ k => XS.iconst X7.here hx rfl (hb hby d2_130) k) ?_
      refine Go.st (fun _ k => XS.icmpYes X7.here hx rfl (pc0 := 131) (pc' := 168) rfl (hb hby d2_131) rfl (tlt (ltI liI_1 liI_4 (by decide))).1 (by decide) (by decide) k) ?_
      refine Go.st (fun _ k => XS.bipush X7.here hx rfl (hb hby d2_168) k) ?_
      refine Go.st (fun _ k => XS.iloadN X7.here hx rfl (hb hby d2_170) rfl k) ?_
      refine Go.st (fun _ k => XS.iloadN X7.here hx rfl (hb hby d2_171) rfl k) ?_
      show Go p e below s Q 0 0 (T7.setTop (mkF m 172 #[.val (.ref ar), .val (.int s0), .val (.int (1 : Int32)), .val (.int (4 : Int32)), .val (.int v137), .unset, .unset, .unset, .unset, .unset, .unset, .unset] [(.int (1 : Int32)), (.int (4 : Int32)), (.int (6 : Int32))]))
      refine Go.st (fun _ k => XS.isub X7.here hx rfl (hb hby d2_172) rfl k) ?_
      refine Go.st (fun _ k => XS.imul X7.here hx rfl (hb hby d2_173) rfl k) ?_
      refine Go.st (fun _ k => XS.istore X7.here hx rfl (hb hby d2_174) rfl (l' := #[.val (.ref ar), .val (.int s0), .val (.int (1 : Int32)), .val (.int (4 : Int32)), .val (.int v137), .val (.int (18 : Int32)), .unset, .unset, .unset, .unset, .unset, .unset]) rfl k) ?_
      refine Go.st (fun _ k => XS.iload X7.here hx rfl (hb hby d2_176) rfl k) ?_
      refine Go.st (fun _ k => XS.iload X7.here hx rfl (hb hby d2_178) rfl k) ?_
      refine Go.st (fun _ k => XS.ishl X7.here hx rfl (hb hby d2_180) rfl k) ?_
      show Go p e below s Q 0 0 (T7.setTop (mkF m 181 #[.val (.ref ar), .val (.int s0), .val (.int (1 : Int32)), .val (.int (4 : Int32)), .val (.int v137), .val (.int (18 : Int32)), .unset, .unset, .unset, .unset, .unset, .unset] [(.int (v137 <<< ((18 : Int32) &&& 31)))]))
      refine Go.st (fun _ k => XS.istore X7.here hx rfl (hb hby d2_181) rfl (l' := #[.val (.ref ar), .val (.int s0), .val (.int (1 : Int32)), .val (.int (4 : Int32)), .val (.int v137), .val (.int (18 : Int32)), .val (.int (v137 <<< ((18 : Int32) &&& 31))), .unset, .unset, .unset, .unset, .unset]) rfl k) ?_
      show Go p e below s Q 0 0 (T7.setTop (mkF m 183 #[.val (.ref ar), .val (.int s0), .val (.int (1 : Int32)), .val (.int (4 : Int32)), .val (.int v137), .val (.int (18 : Int32)), .val (.int (v137 <<< ((18 : Int32) &&& 31))), .unset, .unset, .unset, .unset, .unset] []))
      have f138 := liI_18
      have f139 : ((v137 <<< ((18 : Int32) &&& 31)).toInt - v137.toInt * 262144) % 4294967296 = 0 := c_ishl v137 (18 : Int32) 18 (by decide)
      have f140 := rng32 (v137 <<< ((18 : Int32) &&& 31))
      generalize hv_v141 : (v137 <<< ((18 : Int32) &&& 31)) = v141 at f139 f140 ⊢
      refine Go.st (fun _ k => XS.iload X7.here hx rfl (hb hby d2_183) rfl k) ?_
      refine Go.st (fun _ k => XS.iconst X7.here hx rfl (hb hby d2_185) k) ?_
      refine Go.st (fun _ k => XS.iload X7.here hx rfl (hb hby d2_186) rfl k) ?_
      refine Go.st (fun _ k => XS.ishl X7.here hx rfl (hb hby d2_188) rfl k) ?_
      refine Go.st (fun _ k => XS.iconst X7.here hx rfl (hb hby d2_189) k) ?_
      refine Go.st (fun _ k => XS.isub X7.here hx rfl (hb hby d2_190) rfl k) ?_
      show Go p e below s Q 0 0 (T7.setTop (mkF m 191 #[.val (.ref ar), .val (.int s0), .val (.int (1 : Int32)), .val (.int (4 : Int32)), .val (.int v137), .val (.int (18 : Int32)), .val (.int v141), .unset, .unset, .unset, .unset, .unset] [(.int (262143 : Int32)), (.int v141)]))
      refine Go.st (fun _ k => XS.ior X7.here hx rfl (hb hby d2_191) rfl k) ?_
      refine Go.st (fun _ k => XS.istore X7.here hx rfl (hb hby d2_192) rfl (l' := #[.val (.ref ar), .val (.int s0), .val (.int (1 : Int32)), .val (.int (4 : Int32)), .val (.int v137), .val (.int (18 : Int32)), .val (.int v141), .val (.int (v141 ||| (262143 : Int32))), .unset, .unset, .unset, .unset]) rfl k) ?_
      show Go p e below s Q 0 0 (T7.setTop (mkF m 194 #[.val (.ref ar), .val (.int s0), .val (.int (1 : Int32)), .val (.int (4 : Int32)), .val (.int v137), .val (.int (18 : Int32)), .val (.int v141), .val (.int (v141 ||| (262143 : Int32))), .unset, .unset, .unset, .unset] []))
      have f142 := liI_262143
      have f143 := c_or v141 (262143 : Int32) 18 (by decide) 262144 (by decide) (by omega) (by omega) (by omega)
      have f144 := rng32 (v141 ||| (262143 : Int32))
      generalize hv_v145 : (v141 ||| (262143 : Int32)) = v145 at f143 f144 ⊢
      refine Go.st (fun _ k => XS.iloadN X7.here hx rfl (hb hby d2_194) rfl k) ?_
      refine Go.st (fun _ k => XS.iconst X7.here hx rfl (hb hby d2_195) k) ?_
      refine Go.st (fun _ k => XS.icmpYes X7.here hx rfl (pc0 := 196) (pc' := 203) rfl (hb hby d2_196) rfl (feq (neI liI_4 liI_1 (by decide))).2 (by decide) (by decide) k) ?_
      refine Go.st (fun _ k => XS.iloadN X7.here hx rfl (hb hby d2_203) rfl k) ?_
      refine Go.st (fun _ k => XS.iconst X7.here hx rfl (hb hby d2_204) k) ?_
      refine Go.st (fun _ k => XS.icmpYes X7.here hx rfl (pc0 := 205) (pc' := 214) rfl (hb hby d2_205) rfl (feq (neI liI_4 liI_2 (by decide))).2 (by decide) (by decide) k) ?_
      show Go p e below s Q 0 0 (T7.setTop (mkF m 214 #[.val (.ref ar), .val (.int s0), .val (.int (1 : Int32)), .val (.int (4 : Int32)), .val (.int v137), .val (.int (18 : Int32)), .val (.int v141), .val (.int v145), .unset, .unset, .unset, .unset] []))
      refine Go.st (fun _ k => XS.iloadN X7.here hx rfl (hb hby d2_214) rfl k) ?_
      refine Go.st (fun _ k => XS.iconst X7.here hx rfl (hb hby d2_215) k) ?_
      refine Go.st (fun _ k => XS.icmpYes X7.here hx rfl (pc0 := 216) (pc' := 225) rfl (hb hby d2_216) rfl (feq (neI liI_4 liI_3 (by decide))).2 (by decide) (by decide) k) ?_
      refine Go.st (X7.ldcInt hx hown (mvT hZ (hw _ (List.mem_of_getElem? (i := 48) rfl))) (g := (mkF m 225 #[.val (.ref ar), .val (.int s0), .val (.int (1 : Int32)), .val (.int (4 : Int32)), .val (.int v137), .val (.int (18 : Int32)), .val (.int v141), .val (.int v145), .unset, .unset, .unset, .unset] [])) rfl (hb hby d2_225)) ?_
      show Go p e below s Q 0 0 (T7.setTop (mkF m 227 #[.val (.ref ar), .val (.int s0), .val (.int (1 : Int32)), .val (.int (4 : Int32)), .val (.int v137), .val (.int (18 : Int32)), .val (.int v141), .val (.int v145), .unset, .unset, .unset, .unset] [(.int (65536 : Int32))]))
      refine Go.st (fun _ k => XS.istore X7.here hx rfl (hb hby d2_227) rfl (l' := #[.val (.ref ar), .val (.int s0), .val (.int (1 : Int32)), .val (.int (4 : Int32)), .val (.int v137), .val (.int (18 : Int32)), .val (.int v141), .val (.int v145), .val (.int (65536 : Int32)), .unset, .unset, .unset]) rfl k) ?_
      refine Go.st (fun _ k => XS.iloadN X7.here hx rfl (hb hby d2_229) rfl k) ?_
      refine Go.st (fun _ k => XS.iconst X7.here hx rfl (hb hby d2_230) k) ?_
      refine Go.st (fun _ k => XS.icmpYes X7.here hx rfl (pc0 := 231) (pc' := 239) rfl (hb hby d2_231) rfl (feq (neI liI_4 liI_1 (by decide))).2 (by decide) (by decide) k) ?_
      refine Go.st (fun _ k => XS.iloadN X7.here hx rfl (hb hby d2_239) rfl k) ?_
      refine Go.st (fun _ k => XS.iconst X7.here hx rfl (hb hby d2_240) k) ?_
      show Go p e below s Q 0 0 (T7.setTop (mkF m 241 #[.val (.ref ar), .val (.int s0), .val (.int (1 : Int32)), .val (.int (4 : Int32)), .val (.int v137), .val (.int (18 : Int32)), .val (.int v141), .val (.int v145), .val (.int (65536 : Int32)), .unset, .unset, .unset] [(.int (2 : Int32)), (.int (4 : Int32))]))
      refine Go.st (fun _ k => XS.icmpYes X7.here hx rfl (pc0 := 241) (pc' := 250) rfl (hb hby d2_241) rfl (feq (neI liI_4 liI_2 (by decide))).2 (by decide) (by decide) k) ?_
      refine Go.st (fun _ k => XS.iloadN X7.here hx rfl (hb hby d2_250) rfl k) ?_
      refine Go.st (fun _ k => XS.iconst X7.here hx rfl (hb hby d2_251) k) ?_
      refine Go.st (fun _ k => XS.icmpYes X7.here hx rfl (pc0 := 252) (pc' := 260) rfl (hb hby d2_252) rfl (feq (neI liI_4 liI_3 (by decide))).2 (by decide) (by decide) k) ?_
      refine Go.st (X7.ldcInt hx hown (mvT hZ (hw _ (List.mem_of_getElem? (i := 49) rfl))) (g := (mkF m 260 #[.val (.ref ar), .val (.int s0), .val (.int (1 : Int32)), .val (.int (4 : Int32)), .val (.int v137), .val (.int (18 : Int32)), .val (.int v141), .val (.int v145), .val (.int (65536 : Int32)), .unset, .unset, .unset] [])) rfl (hb hby d2_260)) ?_
      show Go p e below s Q 0 0 (T7.setTop (mkF m 262 #[.val (.ref ar), .val (.int s0), .val (.int (1 : Int32)), .val (.int (4 : Int32)), .val (.int v137), .val (.int (18 : Int32)), .val (.int v141), .val (.int v145), .val (.int (65536 : Int32)), .unset, .unset, .unset] [(.int (1114111 : Int32))]))
      refine Go.st (fun _ k => XS.istore X7.here hx rfl (hb hby d2_262) rfl (l' := #[.val (.ref ar), .val (.int s0), .val (.int (1 : Int32)), .val (.int (4 : Int32)), .val (.int v137), .val (.int (18 : Int32)), .val (.int v141), .val (.int v145), .val (.int (65536 : Int32)), .val (.int (1114111 : Int32)), .unset, .unset]) rfl k) ?_
      refine Go.st (fun _ k => XS.iload X7.here hx rfl (hb hby d2_264) rfl k) ?_
      refine Go.st (fun _ k => XS.iload X7.here hx rfl (hb hby d2_266) rfl k) ?_
      have f147 := liI_65536
      obtain ⟨_, _, ⟨T146, L146, k146, n146⟩, -, X146, ⟨Lc146, hQ146, l146, y146, z146⟩, st146⟩ := Jvm.LawKit.callS X7 hx (y := (⟨"java/lang/Math", "max", "(II)I"⟩ : MethodName)) hown (mvT hZ (hw _ (List.mem_of_getElem? (i := 13) rfl))) (mvT hZ (hw _ (List.mem_of_getElem? (i := 14) rfl))) (mvT hZ (hw _ (List.mem_of_getElem? (i := 15) rfl))) (mvT hZ (hw _ (List.mem_of_getElem? (i := 16) rfl))) (by decide) (backOf (W := 0) (rm4 l Z a0 hw [] v141 (65536 : Int32) h0 n0 (Nat.le_trans Z0 K0.1) ) hZ (hw _ (List.mem_of_getElem? (i := 16) rfl)) (hw _ (List.mem_of_getElem? (i := 15) rfl)) (by decide) (by decide)) (g := (mkF m 268 #[.val (.ref ar), .val (.int s0), .val (.int (1 : Int32)), .val (.int (4 : Int32)), .val (.int v137), .val (.int (18 : Int32)), .val (.int v141), .val (.int v145), .val (.int (65536 : Int32)), .val (.int (1114111 : Int32)), .unset, .unset] [(.int (65536 : Int32)), (.int v141)])) rfl (by rw [hml]; rfl) (argsL := [(.int v141), (.int (65536 : Int32))]) (rest := []) (lenOf pd_1 rfl) rfl (by show 2 * 0 + _ ≤ _; exact Nat.le_of_eq rfl) (hb hby d2_268) (fun _ _ => ⟨rfl, e7, (by decide : 0 + 0 ≤ _), (by decide : 0 + 0 ≤ _)⟩)
      dsimp only [Pt.U, Pt.locs, Pt.cells, Pt.slots] at X146 l146 y146 z146 st146 hQ146
      subst y146 z146
      obtain ⟨r_148, rfl, N146q, f149, e146⟩ := hQ146
      have N146 : Fr n0 L146 := by rw [l146]; exact Fr.app N7 N146q
      refine Go.st st146 ?_
      show Go p e below s Q 0 0 (T146.setTop (mkF m 271 #[.val (.ref ar), .val (.int s0), .val (.int (1 : Int32)), .val (.int (4 : Int32)), .val (.int v137), .val (.int (18 : Int32)), .val (.int v141), .val (.int v145), .val (.int (65536 : Int32)), .val (.int (1114111 : Int32)), .unset, .unset] [(.int r_148)]))
      have f150 := rng32 r_148
      refine Go.st (fun _ k => XS.istore X146.here hx rfl (hb hby d2_271) rfl (l' := #[.val (.ref ar), .val (.int s0), .val (.int (1 : Int32)), .val (.int (4 : Int32)), .val (.int v137), .val (.int (18 : Int32)), .val (.int v141), .val (.int v145), .val (.int (65536 : Int32)), .val (.int (1114111 : Int32)), .val (.int r_148), .unset]) rfl k) ?_
      refine Go.st (fun _ k => XS.iload X146.here hx rfl (hb hby d2_273) rfl k) ?_
      refine Go.st (fun _ k => XS.iload X146.here hx rfl (hb hby d2_275) rfl k) ?_
      have f152 := liI_1114111
      obtain ⟨_, _, ⟨T151, L151, k151, n151⟩, -, X151, ⟨Lc151, hQ151, l151, y151, z151⟩, st151⟩ := Jvm.LawKit.callS X146 hx (y := (⟨"java/lang/Math", "min", "(II)I"⟩ : MethodName)) hown (mvT hZ (hw _ (List.mem_of_getElem? (i := 17) rfl))) (mvT hZ (hw _ (List.mem_of_getElem? (i := 18) rfl))) (mvT hZ (hw _ (List.mem_of_getElem? (i := 15) rfl))) (mvT hZ (hw _ (List.mem_of_getElem? (i := 19) rfl))) (by decide) (backOf (W := 0) (rm5 l Z a0 hw [] v145 (1114111 : Int32) h0 n0 (Nat.le_trans Z0 K0.1) ) hZ (hw _ (List.mem_of_getElem? (i := 19) rfl)) (hw _ (List.mem_of_getElem? (i := 15) rfl)) (by decide) (by decide)) (g := (mkF m 277 #[.val (.ref ar), .val (.int s0), .val (.int (1 : Int32)), .val (.int (4 : Int32)), .val (.int v137), .val (.int (18 : Int32)), .val (.int v141), .val (.int v145), .val (.int (65536 : Int32)), .val (.int (1114111 : Int32)), .val (.int r_148), .unset] [(.int (1114111 : Int32)), (.int v145)])) rfl (by rw [hml]; rfl) (argsL := [(.int v145), (.int (1114111 : Int32))]) (rest := []) (lenOf pd_1 rfl) rfl (by show 2 * 0 + _ ≤ _; exact Nat.le_of_eq rfl) (hb hby d2_277) (fun _ _ => ⟨rfl, e146, (by decide : 0 + 0 ≤ _), (by decide : 0 + 0 ≤ _)⟩)
      dsimp only [Pt.U, Pt.locs, Pt.cells, Pt.slots] at X151 l151 y151 z151 st151 hQ151
      subst y151 z151
      obtain ⟨r_153, rfl, N151q, f154, e151⟩ := hQ151
      have N151 : Fr n0 L151 := by rw [l151]; exact Fr.app N146 N151q
      refine Go.st st151 ?_
      show Go p e below s Q 0 0 (T151.setTop (mkF m 280 #[.val (.ref ar), .val (.int s0), .val (.int (1 : Int32)), .val (.int (4 : Int32)), .val (.int v137), .val (.int (18 : Int32)), .val (.int v141), .val (.int v145), .val (.int (65536 : Int32)), .val (.int (1114111 : Int32)), .val (.int r_148), .unset] [(.int r_153)]))
      have f155 := rng32 r_153
      refine Go.st (fun _ k => XS.istore X151.here hx rfl (hb hby d2_280) rfl (l' := #[.val (.ref ar), .val (.int s0), .val (.int (1 : Int32)), .val (.int (4 : Int32)), .val (.int v137), .val (.int (18 : Int32)), .val (.int v141), .val (.int v145), .val (.int (65536 : Int32)), .val (.int (1114111 : Int32)), .val (.int r_148), .val (.int r_153)]) rfl k) ?_
      refine Go.st (fun _ k => XS.iload X151.here hx rfl (hb hby d2_282) rfl k) ?_
      refine Go.st (fun _ k => XS.iload X151.here hx rfl (hb hby d2_284) rfl k) ?_
      by_cases c156 : r_153.toInt < r_148.toInt
      ·
        refine Go.st (fun _ k => XS.icmpYes X151.here hx rfl (pc0 := 286) (pc' := 307) rfl (hb hby d2_286) rfl (tlt (ltI rfl rfl c156)).2.2.1 (by decide) (by decide) k) ?_
        refine Go.st (fun _ k => XS.iconst X151.here hx rfl (hb hby d2_307) k) ?_
        show Go p e below s Q 0 0 (T151.setTop (mkF m 308 #[.val (.ref ar), .val (.int s0), .val (.int (1 : Int32)), .val (.int (4 : Int32)), .val (.int v137), .val (.int (18 : Int32)), .val (.int v141), .val (.int v145), .val (.int (65536 : Int32)), .val (.int (1114111 : Int32)), .val (.int r_148), .val (.int r_153)] [(.int (0 : Int32))]))
        have f157 := liI_0
        exact Go.retN X151 hx hlk (by simp) Bd.returns (hb hby d2_308) (z' := (0 : Int32)) (by decide) (by rw [← hQ, e151]; exact ⟨(0 : Int32), rfl, N151, (by refine Or.inr ⟨by omega, ?_⟩; rintro ⟨hv, nn, hn⟩; unfold Vbl SecOk at hv; unfold LenIs at hn; omega), rfl⟩) (by decide) (by decide)
      ·
        refine Go.st (fun _ k => XS.icmpNo X151.here hx rfl (hb hby d2_286) rfl (flt (nltI rfl rfl c156)).2.2.1 k) ?_
        refine Go.st (fun _ k => XS.iload X151.here hx rfl (hb hby d2_289) rfl k) ?_
        refine Go.st (X151.ldcInt hx hown (mvT hZ (hw _ (List.mem_of_getElem? (i := 20) rfl))) (g := (mkF m 291 #[.val (.ref ar), .val (.int s0), .val (.int (1 : Int32)), .val (.int (4 : Int32)), .val (.int v137), .val (.int (18 : Int32)), .val (.int v141), .val (.int v145), .val (.int (65536 : Int32)), .val (.int (1114111 : Int32)), .val (.int r_148), .val (.int r_153)] [(.int r_148)])) rfl (hb hby d2_291)) ?_
        show Go p e below s Q 0 0 (T151.setTop (mkF m 293 #[.val (.ref ar), .val (.int s0), .val (.int (1 : Int32)), .val (.int (4 : Int32)), .val (.int v137), .val (.int (18 : Int32)), .val (.int v141), .val (.int v145), .val (.int (65536 : Int32)), .val (.int (1114111 : Int32)), .val (.int r_148), .val (.int r_153)] [(.int (55296 : Int32)), (.int r_148)]))
        have f158 := liI_55296
        by_cases c159 : r_148.toInt < 55296
        ·
          refine Go.st (fun _ k => XS.icmpYes X151.here hx rfl (pc0 := 293) (pc' := 303) rfl (hb hby d2_293) rfl (tlt (ltI rfl liI_55296 c159)).1 (by decide) (by decide) k) ?_
          refine Go.st (fun _ k => XS.iconst X151.here hx rfl (hb hby d2_303) k) ?_
          refine Go.st (fun _ k => XS.goto X151.here hx rfl (pc0 := 304) (pc' := 308) rfl (hb hby d2_304) (by decide) (by decide) k) ?_
          show Go p e below s Q 0 0 (T151.setTop (mkF m 308 #[.val (.ref ar), .val (.int s0), .val (.int (1 : Int32)), .val (.int (4 : Int32)), .val (.int v137), .val (.int (18 : Int32)), .val (.int v141), .val (.int v145), .val (.int (65536 : Int32)), .val (.int (1114111 : Int32)), .val (.int r_148), .val (.int r_153)] [(.int (1 : Int32))]))
          have f160 := liI_1
          exact Go.retN X151 hx hlk (by simp) Bd.returns (hb hby d2_308) (z' := (1 : Int32)) (by decide) (by rw [← hQ, e151]; exact ⟨(1 : Int32), rfl, N151, (by exact Or.inl ⟨by omega, (by unfold Vbl SecOk; omega), 4, (by unfold LenIs; omega)⟩), rfl⟩) (by decide) (by decide)
        ·
          refine Go.st (fun _ k => XS.icmpNo X151.here hx rfl (hb hby d2_293) rfl (flt (nltI rfl liI_55296 c159)).1 k) ?_
          refine Go.st (fun _ k => XS.iload X151.here hx rfl (hb hby d2_296) rfl k) ?_
          refine Go.st (X151.ldcInt hx hown (mvT hZ (hw _ (List.mem_of_getElem? (i := 47) rfl))) (g := (mkF m 298 #[.val (.ref ar), .val (.int s0), .val (.int (1 : Int32)), .val (.int (4 : Int32)), .val (.int v137), .val (.int (18 : Int32)), .val (.int v141), .val (.int v145), .val (.int (65536 : Int32)), .val (.int (1114111 : Int32)), .val (.int r_148), .val (.int r_153)] [(.int r_153)])) rfl (hb hby d2_298)) ?_
          show Go p e below s Q 0 0 (T151.setTop (mkF m 300 #[.val (.ref ar), .val (.int s0), .val (.int (1 : Int32)), .val (.int (4 : Int32)), .val (.int v137), .val (.int (18 : Int32)), .val (.int v141), .val (.int v145), .val (.int (65536 : Int32)), .val (.int (1114111 : Int32)), .val (.int r_148), .val (.int r_153)] [(.int (57343 : Int32)), (.int r_153)]))
          have f161 := liI_57343
          by_cases c162 : 57343 < r_153.toInt
          ·
            refine Go.st (fun _ k => XS.icmpNo X151.here hx rfl (hb hby d2_300) rfl (tlt (ltI liI_57343 rfl c162)).2.2.2 k) ?_
            refine Go.st (fun _ k => XS.iconst X151.here hx rfl (hb hby d2_303) k) ?_
            refine Go.st (fun _ k => XS.goto X151.here hx rfl (pc0 := 304) (pc' := 308) rfl (hb hby d2_304) (by decide) (by decide) k) ?_
            show Go p e below s Q 0 0 (T151.setTop (mkF m 308 #[.val (.ref ar), .val (.int s0), .val (.int (1 : Int32)), .val (.int (4 : Int32)), .val (.int v137), .val (.int (18 : Int32)), .val (.int v141), .val (.int v145), .val (.int (65536 : Int32)), .val (.int (1114111 : Int32)), .val (.int r_148), .val (.int r_153)] [(.int (1 : Int32))]))
            have f163 := liI_1
            exact Go.retN X151 hx hlk (by simp) Bd.returns (hb hby d2_308) (z' := (1 : Int32)) (by decide) (by rw [← hQ, e151]; exact ⟨(1 : Int32), rfl, N151, (by exact Or.inl ⟨by omega, (by unfold Vbl SecOk; omega), 4, (by unfold LenIs; omega)⟩), rfl⟩) (by decide) (by decide)
          ·
            refine Go.st (fun _ k => XS.icmpYes X151.here hx rfl (pc0 := 300) (pc' := 307) rfl (hb hby d2_300) rfl (flt (nltI liI_57343 rfl c162)).2.2.2 (by decide) (by decide) k) ?_
            refine Go.st (fun _ k => XS.iconst X151.here hx rfl (hb hby d2_307) k) ?_
            show Go p e below s Q 0 0 (T151.setTop (mkF m 308 #[.val (.ref ar), .val (.int s0), .val (.int (1 : Int32)), .val (.int (4 : Int32)), .val (.int v137), .val (.int (18 : Int32)), .val (.int v141), .val (.int v145), .val (.int (65536 : Int32)), .val (.int (1114111 : Int32)), .val (.int r_148), .val (.int r_153)] [(.int (0 : Int32))]))
            have f164 := liI_0
            exact Go.retN X151 hx hlk (by simp) Bd.returns (hb hby d2_308) (z' := (0 : Int32)) (by decide) (by rw [← hQ, e151]; exact ⟨(0 : Int32), rfl, N151, (by refine Or.inr ⟨by omega, ?_⟩; rintro ⟨hv, nn, hn⟩; unfold Vbl SecOk at hv; unfold LenIs at hn; omega), rfl⟩) (by decide) (by decide)
theorem d2_56 : decode method_3_code 56 = .ok (.aload_n 0, 1) := by decide +kernel
theorem d2_57 : decode method_3_code 57 = .ok (.iload_n 1, 1) := by decide +kernel
theorem d2_58 : decode method_3_code 58 = .ok (.iconst 1, 1) := by decide +kernel
theorem d2_59 : decode method_3_code 59 = .ok (.iadd, 1) := by decide +kernel
theorem d2_60 : decode method_3_code 60 = .ok (.iaload, 1) := by decide +kernel
theorem d2_61 : decode method_3_code 61 = .ok (.istore 5, 2) := by decide +kernel
theorem d2_63 : decode method_3_code 63 = .ok (.iload 5, 2) := by decide +kernel
theorem d2_65 : decode method_3_code 65 = .ok (.sipush 192, 3) := by decide +kernel
theorem d2_68 : decode method_3_code 68 = .ok (.iand, 1) := by decide +kernel
theorem d2_69 : decode method_3_code 69 = .ok (.sipush 128, 3) := by decide +kernel
theorem d2_72 : decode method_3_code 72 = .ok (.if_icmp .eq 5, 3) := by decide +kernel
theorem d2_77 : decode method_3_code 77 = .ok (.iload 4, 2) := by decide +kernel
theorem d2_79 : decode method_3_code 79 = .ok (.bipush 6, 2) := by decide +kernel
theorem d2_81 : decode method_3_code 81 = .ok (.ishl, 1) := by decide +kernel
theorem d2_82 : decode method_3_code 82 = .ok (.iload 5, 2) := by decide +kernel
theorem d2_84 : decode method_3_code 84 = .ok (.bipush 63, 2) := by decide +kernel
theorem d2_86 : decode method_3_code 86 = .ok (.iand, 1) := by decide +kernel
theorem d2_87 : decode method_3_code 87 = .ok (.ior, 1) := by decide +kernel
theorem d2_88 : decode method_3_code 88 = .ok (.istore 4, 2) := by decide +kernel
theorem d2_75 : decode method_3_code 75 = .ok (.iconst 0, 1) := by decide +kernel
theorem d2_76 : decode method_3_code 76 = .ok (.ireturn, 1) := by decide +kernel
theorem ef_rmv_2 (m : MethodId) (ar : Addr) (s0 : Int32) : entryFrame m #[(.ref ar), (.int s0), (.int (2 : Int32))] 12 = mkF m 0 #[.val (.ref ar), .val (.int s0), .val (.int (2 : Int32)), .unset, .unset, .unset, .unset, .unset, .unset, .unset, .unset, .unset] [] := by first | (simp [entryFrame, mkF, argsToLocals, Value.category]; done) | rfl
def Qv_2 (Z : State) (ar : Addr) (s0 : Int32) (f : Nat → Int32) (c0 : Int32) (c1 : Int32) (c2 : Int32) (c3 : Int32) (h0 : Heap) (n0 : Nat) (vv : Option Value) (h : Heap) (LL : List Loc) : Prop := ∃ (r : Int32), vv = some (.int r) ∧ Fr n0 LL ∧ ((r.toInt = 1 ∧ Vbl 2 c0.toInt c1.toInt c2.toInt c3.toInt ∧ ∃ n, LenIs c0.toInt n) ∨ (r.toInt = 0 ∧ ¬ (Vbl 2 c0.toInt c1.toInt c2.toInt c3.toInt ∧ ∃ n, LenIs c0.toInt n))) ∧ h = h0
set_option maxRecDepth 65536 in
set_option maxHeartbeats 40000000 in
theorem rmv_2 (l : Launch) (Z : State) (a0 : Array Value) (hw : ∀ d ∈ tables_1, d.before a0 Z = true) (ws : List Jvm.Cond) (ar : Addr) (s0 : Int32) (f : Nat → Int32) (c0 : Int32) (c1 : Int32) (c2 : Int32) (c3 : Int32) (h0 : Heap) (n0 : Nat) (Z0 : n0 ≤ h0.size) (hV : Vec Z h0 ar .int (4 : Int32) (ints f)) (hr : ∀ j : Nat, 0 ≤ (f j).toInt ∧ (f j).toInt ≤ 255) (hs0 : 0 ≤ s0.toInt ∧ s0.toInt + 2 ≤ 4) (hc0 : f (s0.toInt.toNat + 0) = c0) (hc1 : f (s0.toInt.toNat + 1) = c1) (hlen : LenGe c0.toInt 2) :
    MetFree l (⟨"com/example/ballast/ballast/json/Utf8CheckPinLaw", "viable", "([III)Z"⟩ : MethodName) (head1 (Jvm.Cond.code (⟨"com/example/ballast/ballast/json/Utf8CheckPinLaw", "viable", "([III)Z"⟩ : MethodName) method_3_code 12 (some .boolean) :: ws) ({ frames := 1, cells := 0, slots := 0, locals := 13 } : Room)) (fun aa UU => aa = #[(.ref ar), (.int s0), (.int (2 : Int32))] ∧ Z.Warmed39 UU.vm ∧ UU.heap = h0) (fun _ _ _ _ _ => True) (fun _ UU oo UU' => ∃ vv LL, oo = .returned vv ∧ Qv_2 Z ar s0 f c0 c1 c2 c3 h0 n0 vv UU'.heap LL ∧ FrameEnd UU oo UU' LL 0 0) := by
  refine MetFree.of_bodySF (plainFor_of_name pn_0) hisR ?_
  intro p e s m args below meth c s₁ Bd hml0 hP hK
  obtain ⟨rfl, hZ, hh⟩ := hP
  have hx := Bd.exec
  have hby := Bd.bytes
  have hlk : meth.locks = false := BodyLoose.notSynchronized Bd
  have hml : c.maxLocals = 12 := hml0
  have hown : s.vm.findClass "com/example/ballast/ballast/json/Utf8CheckPinLaw" = some m.cls := findClass_of_methodNamed Bd.named
  have hnm := (name_of_methodNamed Bd.named Bd.method).1
  have X0 : Stand p l e ({ frames := 1, cells := 0, slots := 0, locals := 13 } : Room) s m #[(.ref ar), (.int s0), (.int (2 : Int32))] below meth c s₁ [] 0 0 := Stand.of_body Bd
  have e0 : s₁.heap = h0 := by rw [← hh, Bd.state]; rfl
  have N0 := Fr.nil n0
  have K0 : Keep h0 h0 [] := Keep.refl h0 _
  refine (?_ : Go p e below s (Qv_2 Z ar s0 f c0 c1 c2 c3 h0 n0) 0 0 (s₁.setTop (entryFrame m #[(.ref ar), (.int s0), (.int (2 : Int32))] 12)))
  rw [ef_rmv_2]
  generalize hQ : Qv_2 Z ar s0 f c0 c1 c2 c3 h0 n0 = Q
  have hlen' := hlen
  unfold LenGe at hlen'
  have hrr0 : 0 ≤ c0.toInt ∧ c0.toInt ≤ 255 := by rw [← hc0]; exact hr _
  have hrr1 : 0 ≤ c1.toInt ∧ c1.toInt ≤ 255 := by rw [← hc1]; exact hr _
  show Go p e below s Q 0 0 (s₁.setTop (mkF m 0 #[.val (.ref ar), .val (.int s0), .val (.int (2 : Int32)), .unset, .unset, .unset, .unset, .unset, .unset, .unset, .unset, .unset] []))
  have f1 := rng32 s0
  have f2 := liI_2
  refine Go.st (fun _ k => XS.aloadN X0.here hx rfl (hb hby d2_0) rfl rfl k) ?_
  refine Go.st (fun _ k => XS.iloadN X0.here hx rfl (hb hby d2_1) rfl k) ?_
  have f4 := liI_4
  have r5 : 0 ≤ s0.toInt := by omega
  have r6 : s0.toInt < (4 : Int32).toInt := by omega
  refine Go.st (Vec.ildI X0 hx hZ e0 hV (j := s0) r5 r6 (g := (mkF m 2 #[.val (.ref ar), .val (.int s0), .val (.int (2 : Int32)), .unset, .unset, .unset, .unset, .unset, .unset, .unset, .unset, .unset] [(.int s0), (.ref ar)])) rfl rfl (hb hby d2_2)) ?_
  show Go p e below s Q 0 0 (s₁.setTop (mkF m 3 #[.val (.ref ar), .val (.int s0), .val (.int (2 : Int32)), .unset, .unset, .unset, .unset, .unset, .unset, .unset, .unset, .unset] [(.int (f s0.toInt.toNat))]))
  have f8 := rng32 (f s0.toInt.toNat)
  have p9 : 0 ≤ (f s0.toInt.toNat).toInt ∧ (f s0.toInt.toNat).toInt < 256 := by have := hr s0.toInt.toNat; omega
  obtain ⟨_, _, ⟨T7, L7, k7, n7⟩, -, X7, ⟨Lc7, hQ7, l7, y7, z7⟩, st7⟩ := Jvm.LawKit.callS X0 hx (y := (⟨"com/example/ballast/ballast/json/Utf8CheckPinLaw", "len", "(I)I"⟩ : MethodName)) hown (mvT hZ (hw _ (List.mem_of_getElem? (i := 10) rfl))) (mvT hZ (hw _ (List.mem_of_getElem? (i := 11) rfl))) (mvT hZ (hw _ (List.mem_of_getElem? (i := 5) rfl))) (mvT hZ (hw _ (List.mem_of_getElem? (i := 12) rfl))) (by decide) (backOf (W := 0) (rm3 l Z a0 hw [] (f s0.toInt.toNat) h0 n0 (Nat.le_trans Z0 K0.1) p9) hZ (hw _ (List.mem_of_getElem? (i := 12) rfl)) (hw _ (List.mem_of_getElem? (i := 5) rfl)) (by decide) (by decide)) (g := (mkF m 3 #[.val (.ref ar), .val (.int s0), .val (.int (2 : Int32)), .unset, .unset, .unset, .unset, .unset, .unset, .unset, .unset, .unset] [(.int (f s0.toInt.toNat))])) rfl (by rw [hml]; rfl) (argsL := [(.int (f s0.toInt.toNat))]) (rest := []) (lenOf pd_0 rfl) rfl (by show 2 * 0 + _ ≤ _; exact Nat.le_of_eq rfl) (hb hby d2_3) (fun _ _ => ⟨rfl, e0, (by decide : 0 + 0 ≤ _), (by decide : 0 + 0 ≤ _)⟩)
  dsimp only [Pt.U, Pt.locs, Pt.cells, Pt.slots] at X7 l7 y7 z7 st7 hQ7
  subst y7 z7
  obtain ⟨r_10, rfl, N7q, f11, e7⟩ := hQ7
  have N7 : Fr n0 L7 := by rw [l7]; exact Fr.app N0 N7q
  refine Go.st st7 ?_
  show Go p e below s Q 0 0 (T7.setTop (mkF m 6 #[.val (.ref ar), .val (.int s0), .val (.int (2 : Int32)), .unset, .unset, .unset, .unset, .unset, .unset, .unset, .unset, .unset] [(.int r_10)]))
  have f12 := rng32 r_10
  have hL := f11
  unfold LenIs at hL
  have hc0' : (f s0.toInt.toNat).toInt = c0.toInt := by rw [← hc0]; rfl
  refine Go.st (fun _ k => XS.istoreN X7.here hx rfl (hb hby d2_6) rfl (l' := #[.val (.ref ar), .val (.int s0), .val (.int (2 : Int32)), .val (.int r_10), .unset, .unset, .unset, .unset, .unset, .unset, .unset, .unset]) rfl k) ?_
  refine Go.st (fun _ k => XS.iloadN X7.here hx rfl (hb hby d2_7) rfl k) ?_
  have f13 := liI_0
  by_cases c14 : r_10.toInt = 0
  ·
    refine Go.st (fun _ k => XS.ifNo X7.here hx rfl (hb hby d2_8) rfl ((if0 _ _).trans (teq (eqI rfl liI_0 c14)).2) k) ?_
    refine Go.st (fun _ k => XS.iconst X7.here hx rfl (hb hby d2_11) k) ?_
    show Go p e below s Q 0 0 (T7.setTop (mkF m 12 #[.val (.ref ar), .val (.int s0), .val (.int (2 : Int32)), .val (.int r_10), .unset, .unset, .unset, .unset, .unset, .unset, .unset, .unset] [(.int (0 : Int32))]))
    exact Go.retN X7 hx hlk (by simp) Bd.returns (hb hby d2_12) (z' := (0 : Int32)) (by decide) (by rw [← hQ, e7]; exact ⟨(0 : Int32), rfl, N7, (by refine Or.inr ⟨by omega, ?_⟩; rintro ⟨hv, nn, hn⟩; unfold Vbl SecOk at hv; unfold LenIs at hn; omega), rfl⟩) (by decide) (by decide)
  ·
    refine Go.st (fun _ k => XS.ifYes X7.here hx rfl (pc0 := 8) (pc' := 13) rfl (hb hby d2_8) rfl ((if0 _ _).trans (feq (neI rfl liI_0 c14)).2) (by decide) (by decide) k) ?_
    show Go p e below s Q 0 0 (T7.setTop (mkF m 13 #[.val (.ref ar), .val (.int s0), .val (.int (2 : Int32)), .val (.int r_10), .unset, .unset, .unset, .unset, .unset, .unset, .unset, .unset] []))
    have cs15 : r_10.toInt = 2 ∨ r_10.toInt = 3 ∨ r_10.toInt = 4 := by omega
    rcases cs15 with cs16 | cs17 | cs18
    ·
      have cs16' : r_10 = (2 : Int32) := eqI cs16 liI_2 rfl
      subst cs16'
      show Go p e below s Q 0 0 (T7.setTop (mkF m 13 #[.val (.ref ar), .val (.int s0), .val (.int (2 : Int32)), .val (.int (2 : Int32)), .unset, .unset, .unset, .unset, .unset, .unset, .unset, .unset] []))
      have f19 : 192 ≤ c0.toInt ∧ c0.toInt < 224 := by omega
      clear f1 f2 f4 f8 f11 f12 hL f13 c14 hlen'
      refine Go.st (fun _ k => XS.aloadN X7.here hx rfl (hb hby d2_13) rfl rfl k) ?_
      refine Go.st (fun _ k => XS.iloadN X7.here hx rfl (hb hby d2_14) rfl k) ?_
      have f21 := rng32 s0
      have f22 := liI_4
      have r23 : 0 ≤ s0.toInt := by omega
      have r24 : s0.toInt < (4 : Int32).toInt := by omega
      refine Go.st (Vec.ildI X7 hx hZ e7 hV (j := s0) r23 r24 (g := (mkF m 15 #[.val (.ref ar), .val (.int s0), .val (.int (2 : Int32)), .val (.int (2 : Int32)), .unset, .unset, .unset, .unset, .unset, .unset, .unset, .unset] [(.int s0), (.ref ar)])) rfl rfl (hb hby d2_15)) ?_
      show Go p e below s Q 0 0 (T7.setTop (mkF m 16 #[.val (.ref ar), .val (.int s0), .val (.int (2 : Int32)), .val (.int (2 : Int32)), .unset, .unset, .unset, .unset, .unset, .unset, .unset, .unset] [(.int (f s0.toInt.toNat))]))
      refine Go.st (fun _ k => XS.iloadN X7.here hx rfl (hb hby d2_16) rfl k) ?_
      refine Go.st (fun _ k => XS.iconst X7.here hx rfl (hb hby d2_17) k) ?_
      refine Go.st (fun _ k => XS.icmpYes X7.here hx rfl (pc0 := 18) (pc' := 26) rfl (hb hby d2_18) rfl (feq (neI liI_2 liI_1 (by decide))).2 (by decide) (by decide) k) ?_
      refine Go.st (fun _ k => XS.iloadN X7.here hx rfl (hb hby d2_26) rfl k) ?_
      refine Go.st (fun _ k => XS.iconst X7.here hx rfl (hb hby d2_27) k) ?_
      refine Go.st (fun _ k => XS.icmpNo X7.here hx rfl (hb hby d2_28) rfl (teq (eqI liI_2 liI_2 (by decide))).2 k) ?_
      show Go p e below s Q 0 0 (T7.setTop (mkF m 31 #[.val (.ref ar), .val (.int s0), .val (.int (2 : Int32)), .val (.int (2 : Int32)), .unset, .unset, .unset, .unset, .unset, .unset, .unset, .unset] [(.int (f s0.toInt.toNat))]))
      refine Go.st (fun _ k => XS.bipush X7.here hx rfl (hb hby d2_31) k) ?_
      refine Go.st (fun _ k => XS.goto X7.here hx rfl (pc0 := 33) (pc' := 48) rfl (hb hby d2_33) (by decide) (by decide) k) ?_
      refine Go.st (fun _ k => XS.iand X7.here hx rfl (hb hby d2_48) rfl k) ?_
      refine Go.st (fun _ k => XS.istore X7.here hx rfl (hb hby d2_49) rfl (l' := #[.val (.ref ar), .val (.int s0), .val (.int (2 : Int32)), .val (.int (2 : Int32)), .val (.int ((f s0.toInt.toNat) &&& (31 : Int32))), .unset, .unset, .unset, .unset, .unset, .unset, .unset]) rfl k) ?_
      show Go p e below s Q 0 0 (T7.setTop (mkF m 51 #[.val (.ref ar), .val (.int s0), .val (.int (2 : Int32)), .val (.int (2 : Int32)), .val (.int ((f s0.toInt.toNat) &&& (31 : Int32))), .unset, .unset, .unset, .unset, .unset, .unset, .unset] []))
      have f25 := rng32 (f s0.toInt.toNat)
      have f26 := liI_31
      have f27 : ((f s0.toInt.toNat) &&& (31 : Int32)).toInt = (f s0.toInt.toNat).toInt % 32 := c_mask (f s0.toInt.toNat) (31 : Int32) 5 (by decide) (by decide)
      generalize hv_v28 : ((f s0.toInt.toNat) &&& (31 : Int32)) = v28 at f27 ⊢
      refine Go.st (fun _ k => XS.iloadN X7.here hx rfl (hb hby d2_51) rfl k) ?_
      refine Go.st (fun _ k => XS.iconst X7.here hx rfl (hb hby d2_52) k) ?_
      refine Go.st (fun _ k => XS.icmpNo X7.here hx rfl (hb hby d2_53) rfl (flt (nltI liI_2 liI_2 (by decide))).1 k) ?_
      refine Go.st (fun _ k => XS.aloadN X7.here hx rfl (hb hby d2_56) rfl rfl k) ?_
      refine Go.st (fun _ k => XS.iloadN X7.here hx rfl (hb hby d2_57) rfl k) ?_
      refine Go.st (fun _ k => XS.iconst X7.here hx rfl (hb hby d2_58) k) ?_
      show Go p e below s Q 0 0 (T7.setTop (mkF m 59 #[.val (.ref ar), .val (.int s0), .val (.int (2 : Int32)), .val (.int (2 : Int32)), .val (.int v28), .unset, .unset, .unset, .unset, .unset, .unset, .unset] [(.int (1 : Int32)), (.int s0), (.ref ar)]))
      refine Go.st (fun _ k => XS.iadd X7.here hx rfl (hb hby d2_59) rfl k) ?_
      have f30 := liI_1
      have f31 := c_iadd s0 (1 : Int32)
      have f32 := rng32 (s0 + (1 : Int32))
      have r33 : 0 ≤ (s0 + (1 : Int32)).toInt := by omega
      have r34 : (s0 + (1 : Int32)).toInt < (4 : Int32).toInt := by omega
      refine Go.st (Vec.ildI X7 hx hZ e7 hV (j := (s0 + (1 : Int32))) r33 r34 (g := (mkF m 60 #[.val (.ref ar), .val (.int s0), .val (.int (2 : Int32)), .val (.int (2 : Int32)), .val (.int v28), .unset, .unset, .unset, .unset, .unset, .unset, .unset] [(.int (s0 + (1 : Int32))), (.ref ar)])) rfl rfl (hb hby d2_60)) ?_
      show Go p e below s Q 0 0 (T7.setTop (mkF m 61 #[.val (.ref ar), .val (.int s0), .val (.int (2 : Int32)), .val (.int (2 : Int32)), .val (.int v28), .unset, .unset, .unset, .unset, .unset, .unset, .unset] [(.int (f (s0 + (1 : Int32)).toInt.toNat))]))
      refine Go.st (fun _ k => XS.istore X7.here hx rfl (hb hby d2_61) rfl (l' := #[.val (.ref ar), .val (.int s0), .val (.int (2 : Int32)), .val (.int (2 : Int32)), .val (.int v28), .val (.int (f (s0 + (1 : Int32)).toInt.toNat)), .unset, .unset, .unset, .unset, .unset, .unset]) rfl k) ?_
      show Go p e below s Q 0 0 (T7.setTop (mkF m 63 #[.val (.ref ar), .val (.int s0), .val (.int (2 : Int32)), .val (.int (2 : Int32)), .val (.int v28), .val (.int (f (s0 + (1 : Int32)).toInt.toNat)), .unset, .unset, .unset, .unset, .unset, .unset] []))
      have f35 := rng32 (f (s0 + (1 : Int32)).toInt.toNat)
      generalize hv_v36 : (f (s0 + (1 : Int32)).toInt.toNat) = v36 at f35 ⊢
      have hq1 : v36.toInt = c1.toInt := by rw [← hv_v36, ← hc1]; congr 2; omega
      refine Go.st (fun _ k => XS.iload X7.here hx rfl (hb hby d2_63) rfl k) ?_
      refine Go.st (fun _ k => XS.sipush X7.here hx rfl (hb hby d2_65) k) ?_
      refine Go.st (fun _ k => XS.iand X7.here hx rfl (hb hby d2_68) rfl k) ?_
      refine Go.st (fun _ k => XS.sipush X7.here hx rfl (hb hby d2_69) k) ?_
      have f37 := liI_192
      have f38 := himask_192 v36 (by omega)
      have f39 := liI_128
      by_cases c40 : (v36 &&& (192 : Int32)).toInt = 128
      ·
        refine Go.st (fun _ k => XS.icmpYes X7.here hx rfl (pc0 := 72) (pc' := 77) rfl (hb hby d2_72) rfl (teq (eqI rfl liI_128 c40)).1 (by decide) (by decide) k) ?_
        refine Go.st (fun _ k => XS.iload X7.here hx rfl (hb hby d2_77) rfl k) ?_
        show Go p e below s Q 0 0 (T7.setTop (mkF m 79 #[.val (.ref ar), .val (.int s0), .val (.int (2 : Int32)), .val (.int (2 : Int32)), .val (.int v28), .val (.int v36), .unset, .unset, .unset, .unset, .unset, .unset] [(.int v28)]))
        refine Go.st (fun _ k => XS.bipush X7.here hx rfl (hb hby d2_79) k) ?_
        refine Go.st (fun _ k => XS.ishl X7.here hx rfl (hb hby d2_81) rfl k) ?_
        refine Go.st (fun _ k => XS.iload X7.here hx rfl (hb hby d2_82) rfl k) ?_
        refine Go.st (fun _ k => XS.bipush X7.here hx rfl (hb hby d2_84) k) ?_
        refine Go.st (fun _ k => XS.iand X7.here hx rfl (hb hby d2_86) rfl k) ?_
        refine Go.st (fun _ k => XS.ior X7.here hx rfl (hb hby d2_87) rfl k) ?_
        show Go p e below s Q 0 0 (T7.setTop (mkF m 88 #[.val (.ref ar), .val (.int s0), .val (.int (2 : Int32)), .val (.int (2 : Int32)), .val (.int v28), .val (.int v36), .unset, .unset, .unset, .unset, .unset, .unset] [(.int ((v28 <<< ((6 : Int32) &&& 31)) ||| (v36 &&& (63 : Int32))))]))
        refine Go.st (fun _ k => XS.istore X7.here hx rfl (hb hby d2_88) rfl (l' := #[.val (.ref ar), .val (.int s0), .val (.int (2 : Int32)), .val (.int (2 : Int32)), .val (.int ((v28 <<< ((6 : Int32) &&& 31)) ||| (v36 &&& (63 : Int32)))), .val (.int v36), .unset, .unset, .unset, .unset, .unset, .unset]) rfl k) ?_
        show Go p e below s Q 0 0 (T7.setTop (mkF m 90 #[.val (.ref ar), .val (.int s0), .val (.int (2 : Int32)), .val (.int (2 : Int32)), .val (.int ((v28 <<< ((6 : Int32) &&& 31)) ||| (v36 &&& (63 : Int32)))), .val (.int v36), .unset, .unset, .unset, .unset, .unset, .unset] []))
        have f41 := liI_6
        have f42 : ((v28 <<< ((6 : Int32) &&& 31)).toInt - v28.toInt * 64) % 4294967296 = 0 := c_ishl v28 (6 : Int32) 6 (by decide)
        have f43 := rng32 (v28 <<< ((6 : Int32) &&& 31))
        have f44 := liI_63
        have f45 : (v36 &&& (63 : Int32)).toInt = v36.toInt % 64 := c_mask v36 (63 : Int32) 6 (by decide) (by decide)
        have f46 := c_or (v28 <<< ((6 : Int32) &&& 31)) (v36 &&& (63 : Int32)) 6 (by decide) 64 (by decide) (by omega) (by omega) (by omega)
        have f47 := rng32 ((v28 <<< ((6 : Int32) &&& 31)) ||| (v36 &&& (63 : Int32)))
        generalize hv_v48 : ((v28 <<< ((6 : Int32) &&& 31)) ||| (v36 &&& (63 : Int32))) = v48 at f46 f47 ⊢
        refine Go.st (fun _ k => XS.iloadN X7.here hx rfl (hb hby d2_90) rfl k) ?_
        refine Go.st (fun _ k => XS.iconst X7.here hx rfl (hb hby d2_91) k) ?_
        refine Go.st (fun _ k => XS.icmpYes X7.here hx rfl (pc0 := 92) (pc' := 129) rfl (hb hby d2_92) rfl (tlt (ltI liI_2 liI_3 (by decide))).1 (by decide) (by decide) k) ?_
        refine Go.st (fun _ k => XS.iloadN X7.here hx rfl (hb hby d2_129) rfl k) ?_
        refine Go.st (fun _ k => XS.iconst X7.here hx rfl (hb hby d2_130) k) ?_
        refine Go.st (fun _ k => XS.icmpYes X7.here hx rfl (pc0 := 131) (pc' := 168) rfl (hb hby d2_131) rfl (tlt (ltI liI_2 liI_4 (by decide))).1 (by decide) (by decide) k) ?_
        show Go p e below s Q 0 0 (T7.setTop (mkF m 168 #[.val (.ref ar), .val (.int s0), .val (.int (2 : Int32)), .val (.int (2 : Int32)), .val (.int v48), .val (.int v36), .unset, .unset, .unset, .unset, .unset, .unset] []))
        refine Go.st (fun _ k => XS.bipush X7.here hx rfl (hb hby d2_168) k) ?_
        refine Go.st (fun _ k => XS.iloadN X7.here hx rfl (hb hby d2_170) rfl k) ?_
        refine Go.st (fun _ k => XS.iloadN X7.here hx rfl (hb hby d2_171) rfl k) ?_
        refine Go.st (fun _ k => XS.isub X7.here hx rfl (hb hby d2_172) rfl k) ?_
        refine Go.st (fun _ k => XS.imul X7.here hx rfl (hb hby d2_173) rfl k) ?_
        refine Go.st (fun _ k => XS.istore X7.here hx rfl (hb hby d2_174) rfl (l' := #[.val (.ref ar), .val (.int s0), .val (.int (2 : Int32)), .val (.int (2 : Int32)), .val (.int v48), .val (.int (0 : Int32)), .unset, .unset, .unset, .unset, .unset, .unset]) rfl k) ?_
        show Go p e below s Q 0 0 (T7.setTop (mkF m 176 #[.val (.ref ar), .val (.int s0), .val (.int (2 : Int32)), .val (.int (2 : Int32)), .val (.int v48), .val (.int (0 : Int32)), .unset, .unset, .unset, .unset, .unset, .unset] []))
        refine Go.st (fun _ k => XS.iload X7.here hx rfl (hb hby d2_176) rfl k) ?_
        refine Go.st (fun _ k => XS.iload X7.here hx rfl (hb hby d2_178) rfl k) ?_
        refine Go.st (fun _ k => XS.ishl X7.here hx rfl (hb hby d2_180) rfl k) ?_
        refine Go.st (fun _ k => XS.istore X7.here hx rfl (hb hby d2_181) rfl (l' := #[.val (.ref ar), .val (.int s0), .val (.int (2 : Int32)), .val (.int (2 : Int32)), .val (.int v48), .val (.int (0 : Int32)), .val (.int (v48 <<< ((0 : Int32) &&& 31))), .unset, .unset, .unset, .unset, .unset]) rfl k) ?_
        show Go p e below s Q 0 0 (T7.setTop (mkF m 183 #[.val (.ref ar), .val (.int s0), .val (.int (2 : Int32)), .val (.int (2 : Int32)), .val (.int v48), .val (.int (0 : Int32)), .val (.int (v48 <<< ((0 : Int32) &&& 31))), .unset, .unset, .unset, .unset, .unset] []))
        have f49 := liI_0
        have f50 : ((v48 <<< ((0 : Int32) &&& 31)).toInt - v48.toInt * 1) % 4294967296 = 0 := c_ishl v48 (0 : Int32) 0 (by decide)
        have f51 := rng32 (v48 <<< ((0 : Int32) &&& 31))
        generalize hv_v52 : (v48 <<< ((0 : Int32) &&& 31)) = v52 at f50 f51 ⊢
        refine Go.st (fun _ k => XS.iload X7.here hx rfl (hb hby d2_183) rfl k) ?_
        refine Go.st (fun _ k => XS.iconst X7.here hx rfl (hb hby d2_185) k) ?_
        refine Go.st (fun _ k => XS.iload X7.here hx rfl (hb hby d2_186) rfl k) ?_
        refine Go.st (fun _ k => XS.ishl X7.here hx rfl (hb hby d2_188) rfl k) ?_
        refine Go.st (fun _ k => XS.iconst X7.here hx rfl (hb hby d2_189) k) ?_
        refine Go.st (fun _ k => XS.isub X7.here hx rfl (hb hby d2_190) rfl k) ?_
        show Go p e below s Q 0 0 (T7.setTop (mkF m 191 #[.val (.ref ar), .val (.int s0), .val (.int (2 : Int32)), .val (.int (2 : Int32)), .val (.int v48), .val (.int (0 : Int32)), .val (.int v52), .unset, .unset, .unset, .unset, .unset] [(.int (0 : Int32)), (.int v52)]))
        refine Go.st (fun _ k => XS.ior X7.here hx rfl (hb hby d2_191) rfl k) ?_
        refine Go.st (fun _ k => XS.istore X7.here hx rfl (hb hby d2_192) rfl (l' := #[.val (.ref ar), .val (.int s0), .val (.int (2 : Int32)), .val (.int (2 : Int32)), .val (.int v48), .val (.int (0 : Int32)), .val (.int v52), .val (.int (v52 ||| (0 : Int32))), .unset, .unset, .unset, .unset]) rfl k) ?_
        show Go p e below s Q 0 0 (T7.setTop (mkF m 194 #[.val (.ref ar), .val (.int s0), .val (.int (2 : Int32)), .val (.int (2 : Int32)), .val (.int v48), .val (.int (0 : Int32)), .val (.int v52), .val (.int (v52 ||| (0 : Int32))), .unset, .unset, .unset, .unset] []))
        have f53 := c_or v52 (0 : Int32) 0 (by decide) 1 (by decide) (by omega) (by omega) (by omega)
        have f54 := rng32 (v52 ||| (0 : Int32))
        generalize hv_v55 : (v52 ||| (0 : Int32)) = v55 at f53 f54 ⊢
        refine Go.st (fun _ k => XS.iloadN X7.here hx rfl (hb hby d2_194) rfl k) ?_
        refine Go.st (fun _ k => XS.iconst X7.here hx rfl (hb hby d2_195) k) ?_
        refine Go.st (fun _ k => XS.icmpYes X7.here hx rfl (pc0 := 196) (pc' := 203) rfl (hb hby d2_196) rfl (feq (neI liI_2 liI_1 (by decide))).2 (by decide) (by decide) k) ?_
        refine Go.st (fun _ k => XS.iloadN X7.here hx rfl (hb hby d2_203) rfl k) ?_
        refine Go.st (fun _ k => XS.iconst X7.here hx rfl (hb hby d2_204) k) ?_
        refine Go.st (fun _ k => XS.icmpNo X7.here hx rfl (hb hby d2_205) rfl (teq (eqI liI_2 liI_2 (by decide))).2 k) ?_
        show Go p e below s Q 0 0 (T7.setTop (mkF m 208 #[.val (.ref ar), .val (.int s0), .val (.int (2 : Int32)), .val (.int (2 : Int32)), .val (.int v48), .val (.int (0 : Int32)), .val (.int v52), .val (.int v55), .unset, .unset, .unset, .unset] []))
        refine Go.st (fun _ k => XS.sipush X7.here hx rfl (hb hby d2_208) k) ?_
        refine Go.st (fun _ k => XS.goto X7.here hx rfl (pc0 := 211) (pc' := 227) rfl (hb hby d2_211) (by decide) (by decide) k) ?_
        refine Go.st (fun _ k => XS.istore X7.here hx rfl (hb hby d2_227) rfl (l' := #[.val (.ref ar), .val (.int s0), .val (.int (2 : Int32)), .val (.int (2 : Int32)), .val (.int v48), .val (.int (0 : Int32)), .val (.int v52), .val (.int v55), .val (.int (128 : Int32)), .unset, .unset, .unset]) rfl k) ?_
        refine Go.st (fun _ k => XS.iloadN X7.here hx rfl (hb hby d2_229) rfl k) ?_
        refine Go.st (fun _ k => XS.iconst X7.here hx rfl (hb hby d2_230) k) ?_
        refine Go.st (fun _ k => XS.icmpYes X7.here hx rfl (pc0 := 231) (pc' := 239) rfl (hb hby d2_231) rfl (feq (neI liI_2 liI_1 (by decide))).2 (by decide) (by decide) k) ?_
        show Go p e below s Q 0 0 (T7.setTop (mkF m 239 #[.val (.ref ar), .val (.int s0), .val (.int (2 : Int32)), .val (.int (2 : Int32)), .val (.int v48), .val (.int (0 : Int32)), .val (.int v52), .val (.int v55), .val (.int (128 : Int32)), .unset, .unset, .unset] []))
        refine Go.st (fun _ k => XS.iloadN X7.here hx rfl (hb hby d2_239) rfl k) ?_
        refine Go.st (fun _ k => XS.iconst X7.here hx rfl (hb hby d2_240) k) ?_
        refine Go.st (fun _ k => XS.icmpNo X7.here hx rfl (hb hby d2_241) rfl (teq (eqI liI_2 liI_2 (by decide))).2 k) ?_
        refine Go.st (fun _ k => XS.sipush X7.here hx rfl (hb hby d2_244) k) ?_
        refine Go.st (fun _ k => XS.goto X7.here hx rfl (pc0 := 247) (pc' := 262) rfl (hb hby d2_247) (by decide) (by decide) k) ?_
        refine Go.st (fun _ k => XS.istore X7.here hx rfl (hb hby d2_262) rfl (l' := #[.val (.ref ar), .val (.int s0), .val (.int (2 : Int32)), .val (.int (2 : Int32)), .val (.int v48), .val (.int (0 : Int32)), .val (.int v52), .val (.int v55), .val (.int (128 : Int32)), .val (.int (2047 : Int32)), .unset, .unset]) rfl k) ?_
        show Go p e below s Q 0 0 (T7.setTop (mkF m 264 #[.val (.ref ar), .val (.int s0), .val (.int (2 : Int32)), .val (.int (2 : Int32)), .val (.int v48), .val (.int (0 : Int32)), .val (.int v52), .val (.int v55), .val (.int (128 : Int32)), .val (.int (2047 : Int32)), .unset, .unset] []))
        refine Go.st (fun _ k => XS.iload X7.here hx rfl (hb hby d2_264) rfl k) ?_
        refine Go.st (fun _ k => XS.iload X7.here hx rfl (hb hby d2_266) rfl k) ?_
        obtain ⟨_, _, ⟨T56, L56, k56, n56⟩, -, X56, ⟨Lc56, hQ56, l56, y56, z56⟩, st56⟩ := Jvm.LawKit.callS X7 hx (y := (⟨"java/lang/Math", "max", "(II)I"⟩ : MethodName)) hown (mvT hZ (hw _ (List.mem_of_getElem? (i := 13) rfl))) (mvT hZ (hw _ (List.mem_of_getElem? (i := 14) rfl))) (mvT hZ (hw _ (List.mem_of_getElem? (i := 15) rfl))) (mvT hZ (hw _ (List.mem_of_getElem? (i := 16) rfl))) (by decide) (backOf (W := 0) (rm4 l Z a0 hw [] v52 (128 : Int32) h0 n0 (Nat.le_trans Z0 K0.1) ) hZ (hw _ (List.mem_of_getElem? (i := 16) rfl)) (hw _ (List.mem_of_getElem? (i := 15) rfl)) (by decide) (by decide)) (g := (mkF m 268 #[.val (.ref ar), .val (.int s0), .val (.int (2 : Int32)), .val (.int (2 : Int32)), .val (.int v48), .val (.int (0 : Int32)), .val (.int v52), .val (.int v55), .val (.int (128 : Int32)), .val (.int (2047 : Int32)), .unset, .unset] [(.int (128 : Int32)), (.int v52)])) rfl (by rw [hml]; rfl) (argsL := [(.int v52), (.int (128 : Int32))]) (rest := []) (lenOf pd_1 rfl) rfl (by show 2 * 0 + _ ≤ _; exact Nat.le_of_eq rfl) (hb hby d2_268) (fun _ _ => ⟨rfl, e7, (by decide : 0 + 0 ≤ _), (by decide : 0 + 0 ≤ _)⟩)
        dsimp only [Pt.U, Pt.locs, Pt.cells, Pt.slots] at X56 l56 y56 z56 st56 hQ56
        subst y56 z56
        obtain ⟨r_57, rfl, N56q, f58, e56⟩ := hQ56
        have N56 : Fr n0 L56 := by rw [l56]; exact Fr.app N7 N56q
        refine Go.st st56 ?_
        show Go p e below s Q 0 0 (T56.setTop (mkF m 271 #[.val (.ref ar), .val (.int s0), .val (.int (2 : Int32)), .val (.int (2 : Int32)), .val (.int v48), .val (.int (0 : Int32)), .val (.int v52), .val (.int v55), .val (.int (128 : Int32)), .val (.int (2047 : Int32)), .unset, .unset] [(.int r_57)]))
        have f59 := rng32 r_57
        refine Go.st (fun _ k => XS.istore X56.here hx rfl (hb hby d2_271) rfl (l' := #[.val (.ref ar), .val (.int s0), .val (.int (2 : Int32)), .val (.int (2 : Int32)), .val (.int v48), .val (.int (0 : Int32)), .val (.int v52), .val (.int v55), .val (.int (128 : Int32)), .val (.int (2047 : Int32)), .val (.int r_57), .unset]) rfl k) ?_
        refine Go.st (fun _ k => XS.iload X56.here hx rfl (hb hby d2_273) rfl k) ?_
        refine Go.st (fun _ k => XS.iload X56.here hx rfl (hb hby d2_275) rfl k) ?_
        have f61 := liI_2047
        obtain ⟨_, _, ⟨T60, L60, k60, n60⟩, -, X60, ⟨Lc60, hQ60, l60, y60, z60⟩, st60⟩ := Jvm.LawKit.callS X56 hx (y := (⟨"java/lang/Math", "min", "(II)I"⟩ : MethodName)) hown (mvT hZ (hw _ (List.mem_of_getElem? (i := 17) rfl))) (mvT hZ (hw _ (List.mem_of_getElem? (i := 18) rfl))) (mvT hZ (hw _ (List.mem_of_getElem? (i := 15) rfl))) (mvT hZ (hw _ (List.mem_of_getElem? (i := 19) rfl))) (by decide) (backOf (W := 0) (rm5 l Z a0 hw [] v55 (2047 : Int32) h0 n0 (Nat.le_trans Z0 K0.1) ) hZ (hw _ (List.mem_of_getElem? (i := 19) rfl)) (hw _ (List.mem_of_getElem? (i := 15) rfl)) (by decide) (by decide)) (g := (mkF m 277 #[.val (.ref ar), .val (.int s0), .val (.int (2 : Int32)), .val (.int (2 : Int32)), .val (.int v48), .val (.int (0 : Int32)), .val (.int v52), .val (.int v55), .val (.int (128 : Int32)), .val (.int (2047 : Int32)), .val (.int r_57), .unset] [(.int (2047 : Int32)), (.int v55)])) rfl (by rw [hml]; rfl) (argsL := [(.int v55), (.int (2047 : Int32))]) (rest := []) (lenOf pd_1 rfl) rfl (by show 2 * 0 + _ ≤ _; exact Nat.le_of_eq rfl) (hb hby d2_277) (fun _ _ => ⟨rfl, e56, (by decide : 0 + 0 ≤ _), (by decide : 0 + 0 ≤ _)⟩)
        dsimp only [Pt.U, Pt.locs, Pt.cells, Pt.slots] at X60 l60 y60 z60 st60 hQ60
        subst y60 z60
        obtain ⟨r_62, rfl, N60q, f63, e60⟩ := hQ60
        have N60 : Fr n0 L60 := by rw [l60]; exact Fr.app N56 N60q
        refine Go.st st60 ?_
        show Go p e below s Q 0 0 (T60.setTop (mkF m 280 #[.val (.ref ar), .val (.int s0), .val (.int (2 : Int32)), .val (.int (2 : Int32)), .val (.int v48), .val (.int (0 : Int32)), .val (.int v52), .val (.int v55), .val (.int (128 : Int32)), .val (.int (2047 : Int32)), .val (.int r_57), .unset] [(.int r_62)]))
        have f64 := rng32 r_62
        refine Go.st (fun _ k => XS.istore X60.here hx rfl (hb hby d2_280) rfl (l' := #[.val (.ref ar), .val (.int s0), .val (.int (2 : Int32)), .val (.int (2 : Int32)), .val (.int v48), .val (.int (0 : Int32)), .val (.int v52), .val (.int v55), .val (.int (128 : Int32)), .val (.int (2047 : Int32)), .val (.int r_57), .val (.int r_62)]) rfl k) ?_
        refine Go.st (fun _ k => XS.iload X60.here hx rfl (hb hby d2_282) rfl k) ?_
        refine Go.st (fun _ k => XS.iload X60.here hx rfl (hb hby d2_284) rfl k) ?_
        by_cases c65 : r_62.toInt < r_57.toInt
        ·
          refine Go.st (fun _ k => XS.icmpYes X60.here hx rfl (pc0 := 286) (pc' := 307) rfl (hb hby d2_286) rfl (tlt (ltI rfl rfl c65)).2.2.1 (by decide) (by decide) k) ?_
          refine Go.st (fun _ k => XS.iconst X60.here hx rfl (hb hby d2_307) k) ?_
          show Go p e below s Q 0 0 (T60.setTop (mkF m 308 #[.val (.ref ar), .val (.int s0), .val (.int (2 : Int32)), .val (.int (2 : Int32)), .val (.int v48), .val (.int (0 : Int32)), .val (.int v52), .val (.int v55), .val (.int (128 : Int32)), .val (.int (2047 : Int32)), .val (.int r_57), .val (.int r_62)] [(.int (0 : Int32))]))
          exact Go.retN X60 hx hlk (by simp) Bd.returns (hb hby d2_308) (z' := (0 : Int32)) (by decide) (by rw [← hQ, e60]; exact ⟨(0 : Int32), rfl, N60, (by refine Or.inr ⟨by omega, ?_⟩; rintro ⟨hv, nn, hn⟩; unfold Vbl SecOk at hv; unfold LenIs at hn; omega), rfl⟩) (by decide) (by decide)
        ·
          refine Go.st (fun _ k => XS.icmpNo X60.here hx rfl (hb hby d2_286) rfl (flt (nltI rfl rfl c65)).2.2.1 k) ?_
          refine Go.st (fun _ k => XS.iload X60.here hx rfl (hb hby d2_289) rfl k) ?_
          refine Go.st (X60.ldcInt hx hown (mvT hZ (hw _ (List.mem_of_getElem? (i := 20) rfl))) (g := (mkF m 291 #[.val (.ref ar), .val (.int s0), .val (.int (2 : Int32)), .val (.int (2 : Int32)), .val (.int v48), .val (.int (0 : Int32)), .val (.int v52), .val (.int v55), .val (.int (128 : Int32)), .val (.int (2047 : Int32)), .val (.int r_57), .val (.int r_62)] [(.int r_57)])) rfl (hb hby d2_291)) ?_
          show Go p e below s Q 0 0 (T60.setTop (mkF m 293 #[.val (.ref ar), .val (.int s0), .val (.int (2 : Int32)), .val (.int (2 : Int32)), .val (.int v48), .val (.int (0 : Int32)), .val (.int v52), .val (.int v55), .val (.int (128 : Int32)), .val (.int (2047 : Int32)), .val (.int r_57), .val (.int r_62)] [(.int (55296 : Int32)), (.int r_57)]))
          have f66 := liI_55296
          by_cases c67 : r_57.toInt < 55296
          ·
            refine Go.st (fun _ k => XS.icmpYes X60.here hx rfl (pc0 := 293) (pc' := 303) rfl (hb hby d2_293) rfl (tlt (ltI rfl liI_55296 c67)).1 (by decide) (by decide) k) ?_
            refine Go.st (fun _ k => XS.iconst X60.here hx rfl (hb hby d2_303) k) ?_
            refine Go.st (fun _ k => XS.goto X60.here hx rfl (pc0 := 304) (pc' := 308) rfl (hb hby d2_304) (by decide) (by decide) k) ?_
            show Go p e below s Q 0 0 (T60.setTop (mkF m 308 #[.val (.ref ar), .val (.int s0), .val (.int (2 : Int32)), .val (.int (2 : Int32)), .val (.int v48), .val (.int (0 : Int32)), .val (.int v52), .val (.int v55), .val (.int (128 : Int32)), .val (.int (2047 : Int32)), .val (.int r_57), .val (.int r_62)] [(.int (1 : Int32))]))
            exact Go.retN X60 hx hlk (by simp) Bd.returns (hb hby d2_308) (z' := (1 : Int32)) (by decide) (by rw [← hQ, e60]; exact ⟨(1 : Int32), rfl, N60, (by exact Or.inl ⟨by omega, (by unfold Vbl SecOk; omega), 2, (by unfold LenIs; omega)⟩), rfl⟩) (by decide) (by decide)
          ·
            refine Go.st (fun _ k => XS.icmpNo X60.here hx rfl (hb hby d2_293) rfl (flt (nltI rfl liI_55296 c67)).1 k) ?_
            refine Go.st (fun _ k => XS.iload X60.here hx rfl (hb hby d2_296) rfl k) ?_
            refine Go.st (X60.ldcInt hx hown (mvT hZ (hw _ (List.mem_of_getElem? (i := 47) rfl))) (g := (mkF m 298 #[.val (.ref ar), .val (.int s0), .val (.int (2 : Int32)), .val (.int (2 : Int32)), .val (.int v48), .val (.int (0 : Int32)), .val (.int v52), .val (.int v55), .val (.int (128 : Int32)), .val (.int (2047 : Int32)), .val (.int r_57), .val (.int r_62)] [(.int r_62)])) rfl (hb hby d2_298)) ?_
            show Go p e below s Q 0 0 (T60.setTop (mkF m 300 #[.val (.ref ar), .val (.int s0), .val (.int (2 : Int32)), .val (.int (2 : Int32)), .val (.int v48), .val (.int (0 : Int32)), .val (.int v52), .val (.int v55), .val (.int (128 : Int32)), .val (.int (2047 : Int32)), .val (.int r_57), .val (.int r_62)] [(.int (57343 : Int32)), (.int r_62)]))
            have f68 := liI_57343
            by_cases c69 : 57343 < r_62.toInt
            ·
              refine Go.st (fun _ k => XS.icmpNo X60.here hx rfl (hb hby d2_300) rfl (tlt (ltI liI_57343 rfl c69)).2.2.2 k) ?_
              refine Go.st (fun _ k => XS.iconst X60.here hx rfl (hb hby d2_303) k) ?_
              refine Go.st (fun _ k => XS.goto X60.here hx rfl (pc0 := 304) (pc' := 308) rfl (hb hby d2_304) (by decide) (by decide) k) ?_
              show Go p e below s Q 0 0 (T60.setTop (mkF m 308 #[.val (.ref ar), .val (.int s0), .val (.int (2 : Int32)), .val (.int (2 : Int32)), .val (.int v48), .val (.int (0 : Int32)), .val (.int v52), .val (.int v55), .val (.int (128 : Int32)), .val (.int (2047 : Int32)), .val (.int r_57), .val (.int r_62)] [(.int (1 : Int32))]))
              exact Go.retN X60 hx hlk (by simp) Bd.returns (hb hby d2_308) (z' := (1 : Int32)) (by decide) (by rw [← hQ, e60]; exact ⟨(1 : Int32), rfl, N60, (by exact Or.inl ⟨by omega, (by unfold Vbl SecOk; omega), 2, (by unfold LenIs; omega)⟩), rfl⟩) (by decide) (by decide)
            ·
              refine Go.st (fun _ k => XS.icmpYes X60.here hx rfl (pc0 := 300) (pc' := 307) rfl (hb hby d2_300) rfl (flt (nltI liI_57343 rfl c69)).2.2.2 (by decide) (by decide) k) ?_
              refine Go.st (fun _ k => XS.iconst X60.here hx rfl (hb hby d2_307) k) ?_
              show Go p e below s Q 0 0 (T60.setTop (mkF m 308 #[.val (.ref ar), .val (.int s0), .val (.int (2 : Int32)), .val (.int (2 : Int32)), .val (.int v48), .val (.int (0 : Int32)), .val (.int v52), .val (.int v55), .val (.int (128 : Int32)), .val (.int (2047 : Int32)), .val (.int r_57), .val (.int r_62)] [(.int (0 : Int32))]))
              exact Go.retN X60 hx hlk (by simp) Bd.returns (hb hby d2_308) (z' := (0 : Int32)) (by decide) (by rw [← hQ, e60]; exact ⟨(0 : Int32), rfl, N60, (by refine Or.inr ⟨by omega, ?_⟩; rintro ⟨hv, nn, hn⟩; unfold Vbl SecOk at hv; unfold LenIs at hn; omega), rfl⟩) (by decide) (by decide)
      ·
        refine Go.st (fun _ k => XS.icmpNo X7.here hx rfl (hb hby d2_72) rfl (feq (neI rfl liI_128 c40)).1 k) ?_
        refine Go.st (fun _ k => XS.iconst X7.here hx rfl (hb hby d2_75) k) ?_
        show Go p e below s Q 0 0 (T7.setTop (mkF m 76 #[.val (.ref ar), .val (.int s0), .val (.int (2 : Int32)), .val (.int (2 : Int32)), .val (.int v28), .val (.int v36), .unset, .unset, .unset, .unset, .unset, .unset] [(.int (0 : Int32))]))
        have f70 := liI_0
        exact Go.retN X7 hx hlk (by simp) Bd.returns (hb hby d2_76) (z' := (0 : Int32)) (by decide) (by rw [← hQ, e7]; exact ⟨(0 : Int32), rfl, N7, (by refine Or.inr ⟨by omega, ?_⟩; rintro ⟨hv, nn, hn⟩; unfold Vbl SecOk at hv; unfold LenIs at hn; omega), rfl⟩) (by decide) (by decide)
    ·
      have cs17' : r_10 = (3 : Int32) := eqI cs17 liI_3 rfl
      subst cs17'
      have f71 := liI_3
      show Go p e below s Q 0 0 (T7.setTop (mkF m 13 #[.val (.ref ar), .val (.int s0), .val (.int (2 : Int32)), .val (.int (3 : Int32)), .unset, .unset, .unset, .unset, .unset, .unset, .unset, .unset] []))
      have f72 : 224 ≤ c0.toInt ∧ c0.toInt < 240 := by omega
      clear f1 f2 f4 f8 f11 f12 hL f13 c14 hlen' f71
      refine Go.st (fun _ k => XS.aloadN X7.here hx rfl (hb hby d2_13) rfl rfl k) ?_
      refine Go.st (fun _ k => XS.iloadN X7.here hx rfl (hb hby d2_14) rfl k) ?_
      have f74 := rng32 s0
      have f75 := liI_4
      have r76 : 0 ≤ s0.toInt := by omega
      have r77 : s0.toInt < (4 : Int32).toInt := by omega
      refine Go.st (Vec.ildI X7 hx hZ e7 hV (j := s0) r76 r77 (g := (mkF m 15 #[.val (.ref ar), .val (.int s0), .val (.int (2 : Int32)), .val (.int (3 : Int32)), .unset, .unset, .unset, .unset, .unset, .unset, .unset, .unset] [(.int s0), (.ref ar)])) rfl rfl (hb hby d2_15)) ?_
      show Go p e below s Q 0 0 (T7.setTop (mkF m 16 #[.val (.ref ar), .val (.int s0), .val (.int (2 : Int32)), .val (.int (3 : Int32)), .unset, .unset, .unset, .unset, .unset, .unset, .unset, .unset] [(.int (f s0.toInt.toNat))]))
      refine Go.st (fun _ k => XS.iloadN X7.here hx rfl (hb hby d2_16) rfl k) ?_
      refine Go.st (fun _ k => XS.iconst X7.here hx rfl (hb hby d2_17) k) ?_
      refine Go.st (fun _ k => XS.icmpYes X7.here hx rfl (pc0 := 18) (pc' := 26) rfl (hb hby d2_18) rfl (feq (neI liI_3 liI_1 (by decide))).2 (by decide) (by decide) k) ?_
      refine Go.st (fun _ k => XS.iloadN X7.here hx rfl (hb hby d2_26) rfl k) ?_
      refine Go.st (fun _ k => XS.iconst X7.here hx rfl (hb hby d2_27) k) ?_
      refine Go.st (fun _ k => XS.icmpYes X7.here hx rfl (pc0 := 28) (pc' := 36) rfl (hb hby d2_28) rfl (feq (neI liI_3 liI_2 (by decide))).2 (by decide) (by decide) k) ?_
      show Go p e below s Q 0 0 (T7.setTop (mkF m 36 #[.val (.ref ar), .val (.int s0), .val (.int (2 : Int32)), .val (.int (3 : Int32)), .unset, .unset, .unset, .unset, .unset, .unset, .unset, .unset] [(.int (f s0.toInt.toNat))]))
      refine Go.st (fun _ k => XS.iloadN X7.here hx rfl (hb hby d2_36) rfl k) ?_
      refine Go.st (fun _ k => XS.iconst X7.here hx rfl (hb hby d2_37) k) ?_
      refine Go.st (fun _ k => XS.icmpNo X7.here hx rfl (hb hby d2_38) rfl (teq (eqI liI_3 liI_3 (by decide))).2 k) ?_
      refine Go.st (fun _ k => XS.bipush X7.here hx rfl (hb hby d2_41) k) ?_
      refine Go.st (fun _ k => XS.goto X7.here hx rfl (pc0 := 43) (pc' := 48) rfl (hb hby d2_43) (by decide) (by decide) k) ?_
      refine Go.st (fun _ k => XS.iand X7.here hx rfl (hb hby d2_48) rfl k) ?_
      show Go p e below s Q 0 0 (T7.setTop (mkF m 49 #[.val (.ref ar), .val (.int s0), .val (.int (2 : Int32)), .val (.int (3 : Int32)), .unset, .unset, .unset, .unset, .unset, .unset, .unset, .unset] [(.int ((f s0.toInt.toNat) &&& (15 : Int32)))]))
      refine Go.st (fun _ k => XS.istore X7.here hx rfl (hb hby d2_49) rfl (l' := #[.val (.ref ar), .val (.int s0), .val (.int (2 : Int32)), .val (.int (3 : Int32)), .val (.int ((f s0.toInt.toNat) &&& (15 : Int32))), .unset, .unset, .unset, .unset, .unset, .unset, .unset]) rfl k) ?_
      show Go p e below s Q 0 0 (T7.setTop (mkF m 51 #[.val (.ref ar), .val (.int s0), .val (.int (2 : Int32)), .val (.int (3 : Int32)), .val (.int ((f s0.toInt.toNat) &&& (15 : Int32))), .unset, .unset, .unset, .unset, .unset, .unset, .unset] []))
      have f78 := rng32 (f s0.toInt.toNat)
      have f79 := liI_15
      have f80 : ((f s0.toInt.toNat) &&& (15 : Int32)).toInt = (f s0.toInt.toNat).toInt % 16 := c_mask (f s0.toInt.toNat) (15 : Int32) 4 (by decide) (by decide)
      generalize hv_v81 : ((f s0.toInt.toNat) &&& (15 : Int32)) = v81 at f80 ⊢
      refine Go.st (fun _ k => XS.iloadN X7.here hx rfl (hb hby d2_51) rfl k) ?_
      refine Go.st (fun _ k => XS.iconst X7.here hx rfl (hb hby d2_52) k) ?_
      refine Go.st (fun _ k => XS.icmpNo X7.here hx rfl (hb hby d2_53) rfl (flt (nltI liI_2 liI_2 (by decide))).1 k) ?_
      refine Go.st (fun _ k => XS.aloadN X7.here hx rfl (hb hby d2_56) rfl rfl k) ?_
      refine Go.st (fun _ k => XS.iloadN X7.here hx rfl (hb hby d2_57) rfl k) ?_
      refine Go.st (fun _ k => XS.iconst X7.here hx rfl (hb hby d2_58) k) ?_
      show Go p e below s Q 0 0 (T7.setTop (mkF m 59 #[.val (.ref ar), .val (.int s0), .val (.int (2 : Int32)), .val (.int (3 : Int32)), .val (.int v81), .unset, .unset, .unset, .unset, .unset, .unset, .unset] [(.int (1 : Int32)), (.int s0), (.ref ar)]))
      refine Go.st (fun _ k => XS.iadd X7.here hx rfl (hb hby d2_59) rfl k) ?_
      have f83 := liI_1
      have f84 := c_iadd s0 (1 : Int32)
      have f85 := rng32 (s0 + (1 : Int32))
      have r86 : 0 ≤ (s0 + (1 : Int32)).toInt := by omega
      have r87 : (s0 + (1 : Int32)).toInt < (4 : Int32).toInt := by omega
      refine Go.st (Vec.ildI X7 hx hZ e7 hV (j := (s0 + (1 : Int32))) r86 r87 (g := (mkF m 60 #[.val (.ref ar), .val (.int s0), .val (.int (2 : Int32)), .val (.int (3 : Int32)), .val (.int v81), .unset, .unset, .unset, .unset, .unset, .unset, .unset] [(.int (s0 + (1 : Int32))), (.ref ar)])) rfl rfl (hb hby d2_60)) ?_
      show Go p e below s Q 0 0 (T7.setTop (mkF m 61 #[.val (.ref ar), .val (.int s0), .val (.int (2 : Int32)), .val (.int (3 : Int32)), .val (.int v81), .unset, .unset, .unset, .unset, .unset, .unset, .unset] [(.int (f (s0 + (1 : Int32)).toInt.toNat))]))
      refine Go.st (fun _ k => XS.istore X7.here hx rfl (hb hby d2_61) rfl (l' := #[.val (.ref ar), .val (.int s0), .val (.int (2 : Int32)), .val (.int (3 : Int32)), .val (.int v81), .val (.int (f (s0 + (1 : Int32)).toInt.toNat)), .unset, .unset, .unset, .unset, .unset, .unset]) rfl k) ?_
      show Go p e below s Q 0 0 (T7.setTop (mkF m 63 #[.val (.ref ar), .val (.int s0), .val (.int (2 : Int32)), .val (.int (3 : Int32)), .val (.int v81), .val (.int (f (s0 + (1 : Int32)).toInt.toNat)), .unset, .unset, .unset, .unset, .unset, .unset] []))
      have f88 := rng32 (f (s0 + (1 : Int32)).toInt.toNat)
      generalize hv_v89 : (f (s0 + (1 : Int32)).toInt.toNat) = v89 at f88 ⊢
      have hq1 : v89.toInt = c1.toInt := by rw [← hv_v89, ← hc1]; congr 2; omega
      refine Go.st (fun _ k => XS.iload X7.here hx rfl (hb hby d2_63) rfl k) ?_
      refine Go.st (fun _ k => XS.sipush X7.here hx rfl (hb hby d2_65) k) ?_
      refine Go.st (fun _ k => XS.iand X7.here hx rfl (hb hby d2_68) rfl k) ?_
      refine Go.st (fun _ k => XS.sipush X7.here hx rfl (hb hby d2_69) k) ?_
      have f90 := liI_192
      have f91 := himask_192 v89 (by omega)
      have f92 := liI_128
      by_cases c93 : (v89 &&& (192 : Int32)).toInt = 128
      ·
        refine Go.st (fun _ k => XS.icmpYes X7.here hx rfl (pc0 := 72) (pc' := 77) rfl (hb hby d2_72) rfl (teq (eqI rfl liI_128 c93)).1 (by decide) (by decide) k) ?_
        refine Go.st (fun _ k => XS.iload X7.here hx rfl (hb hby d2_77) rfl k) ?_
        show Go p e below s Q 0 0 (T7.setTop (mkF m 79 #[.val (.ref ar), .val (.int s0), .val (.int (2 : Int32)), .val (.int (3 : Int32)), .val (.int v81), .val (.int v89), .unset, .unset, .unset, .unset, .unset, .unset] [(.int v81)]))
        refine Go.st (fun _ k => XS.bipush X7.here hx rfl (hb hby d2_79) k) ?_
        refine Go.st (fun _ k => XS.ishl X7.here hx rfl (hb hby d2_81) rfl k) ?_
        refine Go.st (fun _ k => XS.iload X7.here hx rfl (hb hby d2_82) rfl k) ?_
        refine Go.st (fun _ k => XS.bipush X7.here hx rfl (hb hby d2_84) k) ?_
        refine Go.st (fun _ k => XS.iand X7.here hx rfl (hb hby d2_86) rfl k) ?_
        refine Go.st (fun _ k => XS.ior X7.here hx rfl (hb hby d2_87) rfl k) ?_
        show Go p e below s Q 0 0 (T7.setTop (mkF m 88 #[.val (.ref ar), .val (.int s0), .val (.int (2 : Int32)), .val (.int (3 : Int32)), .val (.int v81), .val (.int v89), .unset, .unset, .unset, .unset, .unset, .unset] [(.int ((v81 <<< ((6 : Int32) &&& 31)) ||| (v89 &&& (63 : Int32))))]))
        refine Go.st (fun _ k => XS.istore X7.here hx rfl (hb hby d2_88) rfl (l' := #[.val (.ref ar), .val (.int s0), .val (.int (2 : Int32)), .val (.int (3 : Int32)), .val (.int ((v81 <<< ((6 : Int32) &&& 31)) ||| (v89 &&& (63 : Int32)))), .val (.int v89), .unset, .unset, .unset, .unset, .unset, .unset]) rfl k) ?_
        show Go p e below s Q 0 0 (T7.setTop (mkF m 90 #[.val (.ref ar), .val (.int s0), .val (.int (2 : Int32)), .val (.int (3 : Int32)), .val (.int ((v81 <<< ((6 : Int32) &&& 31)) ||| (v89 &&& (63 : Int32)))), .val (.int v89), .unset, .unset, .unset, .unset, .unset, .unset] []))
        have f94 := liI_6
        have f95 : ((v81 <<< ((6 : Int32) &&& 31)).toInt - v81.toInt * 64) % 4294967296 = 0 := c_ishl v81 (6 : Int32) 6 (by decide)
        have f96 := rng32 (v81 <<< ((6 : Int32) &&& 31))
        have f97 := liI_63
        have f98 : (v89 &&& (63 : Int32)).toInt = v89.toInt % 64 := c_mask v89 (63 : Int32) 6 (by decide) (by decide)
        have f99 := c_or (v81 <<< ((6 : Int32) &&& 31)) (v89 &&& (63 : Int32)) 6 (by decide) 64 (by decide) (by omega) (by omega) (by omega)
        have f100 := rng32 ((v81 <<< ((6 : Int32) &&& 31)) ||| (v89 &&& (63 : Int32)))
        generalize hv_v101 : ((v81 <<< ((6 : Int32) &&& 31)) ||| (v89 &&& (63 : Int32))) = v101 at f99 f100 ⊢
        refine Go.st (fun _ k => XS.iloadN X7.here hx rfl (hb hby d2_90) rfl k) ?_
        refine Go.st (fun _ k => XS.iconst X7.here hx rfl (hb hby d2_91) k) ?_
        refine Go.st (fun _ k => XS.icmpYes X7.here hx rfl (pc0 := 92) (pc' := 129) rfl (hb hby d2_92) rfl (tlt (ltI liI_2 liI_3 (by decide))).1 (by decide) (by decide) k) ?_
        refine Go.st (fun _ k => XS.iloadN X7.here hx rfl (hb hby d2_129) rfl k) ?_
        refine Go.st (fun _ k => XS.iconst X7.here hx rfl (hb hby d2_130) k) ?_
        refine Go.st (fun _ k => XS.icmpYes X7.here hx rfl (pc0 := 131) (pc' := 168) rfl (hb hby d2_131) rfl (tlt (ltI liI_2 liI_4 (by decide))).1 (by decide) (by decide) k) ?_
        show Go p e below s Q 0 0 (T7.setTop (mkF m 168 #[.val (.ref ar), .val (.int s0), .val (.int (2 : Int32)), .val (.int (3 : Int32)), .val (.int v101), .val (.int v89), .unset, .unset, .unset, .unset, .unset, .unset] []))
        refine Go.st (fun _ k => XS.bipush X7.here hx rfl (hb hby d2_168) k) ?_
        refine Go.st (fun _ k => XS.iloadN X7.here hx rfl (hb hby d2_170) rfl k) ?_
        refine Go.st (fun _ k => XS.iloadN X7.here hx rfl (hb hby d2_171) rfl k) ?_
        refine Go.st (fun _ k => XS.isub X7.here hx rfl (hb hby d2_172) rfl k) ?_
        refine Go.st (fun _ k => XS.imul X7.here hx rfl (hb hby d2_173) rfl k) ?_
        refine Go.st (fun _ k => XS.istore X7.here hx rfl (hb hby d2_174) rfl (l' := #[.val (.ref ar), .val (.int s0), .val (.int (2 : Int32)), .val (.int (3 : Int32)), .val (.int v101), .val (.int (6 : Int32)), .unset, .unset, .unset, .unset, .unset, .unset]) rfl k) ?_
        show Go p e below s Q 0 0 (T7.setTop (mkF m 176 #[.val (.ref ar), .val (.int s0), .val (.int (2 : Int32)), .val (.int (3 : Int32)), .val (.int v101), .val (.int (6 : Int32)), .unset, .unset, .unset, .unset, .unset, .unset] []))
        refine Go.st (fun _ k => XS.iload X7.here hx rfl (hb hby d2_176) rfl k) ?_
        refine Go.st (fun _ k => XS.iload X7.here hx rfl (hb hby d2_178) rfl k) ?_
        refine Go.st (fun _ k => XS.ishl X7.here hx rfl (hb hby d2_180) rfl k) ?_
        refine Go.st (fun _ k => XS.istore X7.here hx rfl (hb hby d2_181) rfl (l' := #[.val (.ref ar), .val (.int s0), .val (.int (2 : Int32)), .val (.int (3 : Int32)), .val (.int v101), .val (.int (6 : Int32)), .val (.int (v101 <<< ((6 : Int32) &&& 31))), .unset, .unset, .unset, .unset, .unset]) rfl k) ?_
        show Go p e below s Q 0 0 (T7.setTop (mkF m 183 #[.val (.ref ar), .val (.int s0), .val (.int (2 : Int32)), .val (.int (3 : Int32)), .val (.int v101), .val (.int (6 : Int32)), .val (.int (v101 <<< ((6 : Int32) &&& 31))), .unset, .unset, .unset, .unset, .unset] []))
        have f102 : ((v101 <<< ((6 : Int32) &&& 31)).toInt - v101.toInt * 64) % 4294967296 = 0 := c_ishl v101 (6 : Int32) 6 (by decide)
        have f103 := rng32 (v101 <<< ((6 : Int32) &&& 31))
        generalize hv_v104 : (v101 <<< ((6 : Int32) &&& 31)) = v104 at f102 f103 ⊢
        refine Go.st (fun _ k => XS.iload X7.here hx rfl (hb hby d2_183) rfl k) ?_
        refine Go.st (fun _ k => XS.iconst X7.here hx rfl (hb hby d2_185) k) ?_
        refine Go.st (fun _ k => XS.iload X7.here hx rfl (hb hby d2_186) rfl k) ?_
        refine Go.st (fun _ k => XS.ishl X7.here hx rfl (hb hby d2_188) rfl k) ?_
        refine Go.st (fun _ k => XS.iconst X7.here hx rfl (hb hby d2_189) k) ?_
        refine Go.st (fun _ k => XS.isub X7.here hx rfl (hb hby d2_190) rfl k) ?_
        show Go p e below s Q 0 0 (T7.setTop (mkF m 191 #[.val (.ref ar), .val (.int s0), .val (.int (2 : Int32)), .val (.int (3 : Int32)), .val (.int v101), .val (.int (6 : Int32)), .val (.int v104), .unset, .unset, .unset, .unset, .unset] [(.int (63 : Int32)), (.int v104)]))
        refine Go.st (fun _ k => XS.ior X7.here hx rfl (hb hby d2_191) rfl k) ?_
        refine Go.st (fun _ k => XS.istore X7.here hx rfl (hb hby d2_192) rfl (l' := #[.val (.ref ar), .val (.int s0), .val (.int (2 : Int32)), .val (.int (3 : Int32)), .val (.int v101), .val (.int (6 : Int32)), .val (.int v104), .val (.int (v104 ||| (63 : Int32))), .unset, .unset, .unset, .unset]) rfl k) ?_
        show Go p e below s Q 0 0 (T7.setTop (mkF m 194 #[.val (.ref ar), .val (.int s0), .val (.int (2 : Int32)), .val (.int (3 : Int32)), .val (.int v101), .val (.int (6 : Int32)), .val (.int v104), .val (.int (v104 ||| (63 : Int32))), .unset, .unset, .unset, .unset] []))
        have f105 := c_or v104 (63 : Int32) 6 (by decide) 64 (by decide) (by omega) (by omega) (by omega)
        have f106 := rng32 (v104 ||| (63 : Int32))
        generalize hv_v107 : (v104 ||| (63 : Int32)) = v107 at f105 f106 ⊢
        refine Go.st (fun _ k => XS.iloadN X7.here hx rfl (hb hby d2_194) rfl k) ?_
        refine Go.st (fun _ k => XS.iconst X7.here hx rfl (hb hby d2_195) k) ?_
        refine Go.st (fun _ k => XS.icmpYes X7.here hx rfl (pc0 := 196) (pc' := 203) rfl (hb hby d2_196) rfl (feq (neI liI_3 liI_1 (by decide))).2 (by decide) (by decide) k) ?_
        refine Go.st (fun _ k => XS.iloadN X7.here hx rfl (hb hby d2_203) rfl k) ?_
        refine Go.st (fun _ k => XS.iconst X7.here hx rfl (hb hby d2_204) k) ?_
        refine Go.st (fun _ k => XS.icmpYes X7.here hx rfl (pc0 := 205) (pc' := 214) rfl (hb hby d2_205) rfl (feq (neI liI_3 liI_2 (by decide))).2 (by decide) (by decide) k) ?_
        show Go p e below s Q 0 0 (T7.setTop (mkF m 214 #[.val (.ref ar), .val (.int s0), .val (.int (2 : Int32)), .val (.int (3 : Int32)), .val (.int v101), .val (.int (6 : Int32)), .val (.int v104), .val (.int v107), .unset, .unset, .unset, .unset] []))
        refine Go.st (fun _ k => XS.iloadN X7.here hx rfl (hb hby d2_214) rfl k) ?_
        refine Go.st (fun _ k => XS.iconst X7.here hx rfl (hb hby d2_215) k) ?_
        refine Go.st (fun _ k => XS.icmpNo X7.here hx rfl (hb hby d2_216) rfl (teq (eqI liI_3 liI_3 (by decide))).2 k) ?_
        refine Go.st (fun _ k => XS.sipush X7.here hx rfl (hb hby d2_219) k) ?_
        refine Go.st (fun _ k => XS.goto X7.here hx rfl (pc0 := 222) (pc' := 227) rfl (hb hby d2_222) (by decide) (by decide) k) ?_
        refine Go.st (fun _ k => XS.istore X7.here hx rfl (hb hby d2_227) rfl (l' := #[.val (.ref ar), .val (.int s0), .val (.int (2 : Int32)), .val (.int (3 : Int32)), .val (.int v101), .val (.int (6 : Int32)), .val (.int v104), .val (.int v107), .val (.int (2048 : Int32)), .unset, .unset, .unset]) rfl k) ?_
        show Go p e below s Q 0 0 (T7.setTop (mkF m 229 #[.val (.ref ar), .val (.int s0), .val (.int (2 : Int32)), .val (.int (3 : Int32)), .val (.int v101), .val (.int (6 : Int32)), .val (.int v104), .val (.int v107), .val (.int (2048 : Int32)), .unset, .unset, .unset] []))
        refine Go.st (fun _ k => XS.iloadN X7.here hx rfl (hb hby d2_229) rfl k) ?_
        refine Go.st (fun _ k => XS.iconst X7.here hx rfl (hb hby d2_230) k) ?_
        refine Go.st (fun _ k => XS.icmpYes X7.here hx rfl (pc0 := 231) (pc' := 239) rfl (hb hby d2_231) rfl (feq (neI liI_3 liI_1 (by decide))).2 (by decide) (by decide) k) ?_
        refine Go.st (fun _ k => XS.iloadN X7.here hx rfl (hb hby d2_239) rfl k) ?_
        refine Go.st (fun _ k => XS.iconst X7.here hx rfl (hb hby d2_240) k) ?_
        refine Go.st (fun _ k => XS.icmpYes X7.here hx rfl (pc0 := 241) (pc' := 250) rfl (hb hby d2_241) rfl (feq (neI liI_3 liI_2 (by decide))).2 (by decide) (by decide) k) ?_
        show Go p e below s Q 0 0 (T7.setTop (mkF m 250 #[.val (.ref ar), .val (.int s0), .val (.int (2 : Int32)), .val (.int (3 : Int32)), .val (.int v101), .val (.int (6 : Int32)), .val (.int v104), .val (.int v107), .val (.int (2048 : Int32)), .unset, .unset, .unset] []))
        refine Go.st (fun _ k => XS.iloadN X7.here hx rfl (hb hby d2_250) rfl k) ?_
        refine Go.st (fun _ k => XS.iconst X7.here hx rfl (hb hby d2_251) k) ?_
        refine Go.st (fun _ k => XS.icmpNo X7.here hx rfl (hb hby d2_252) rfl (teq (eqI liI_3 liI_3 (by decide))).2 k) ?_
        refine Go.st (X7.ldcInt hx hown (mvT hZ (hw _ (List.mem_of_getElem? (i := 46) rfl))) (g := (mkF m 255 #[.val (.ref ar), .val (.int s0), .val (.int (2 : Int32)), .val (.int (3 : Int32)), .val (.int v101), .val (.int (6 : Int32)), .val (.int v104), .val (.int v107), .val (.int (2048 : Int32)), .unset, .unset, .unset] [])) rfl (hb hby d2_255)) ?_
        show Go p e below s Q 0 0 (T7.setTop (mkF m 257 #[.val (.ref ar), .val (.int s0), .val (.int (2 : Int32)), .val (.int (3 : Int32)), .val (.int v101), .val (.int (6 : Int32)), .val (.int v104), .val (.int v107), .val (.int (2048 : Int32)), .unset, .unset, .unset] [(.int (65535 : Int32))]))
        refine Go.st (fun _ k => XS.goto X7.here hx rfl (pc0 := 257) (pc' := 262) rfl (hb hby d2_257) (by decide) (by decide) k) ?_
        refine Go.st (fun _ k => XS.istore X7.here hx rfl (hb hby d2_262) rfl (l' := #[.val (.ref ar), .val (.int s0), .val (.int (2 : Int32)), .val (.int (3 : Int32)), .val (.int v101), .val (.int (6 : Int32)), .val (.int v104), .val (.int v107), .val (.int (2048 : Int32)), .val (.int (65535 : Int32)), .unset, .unset]) rfl k) ?_
        refine Go.st (fun _ k => XS.iload X7.here hx rfl (hb hby d2_264) rfl k) ?_
        refine Go.st (fun _ k => XS.iload X7.here hx rfl (hb hby d2_266) rfl k) ?_
        have f109 := liI_2048
        obtain ⟨_, _, ⟨T108, L108, k108, n108⟩, -, X108, ⟨Lc108, hQ108, l108, y108, z108⟩, st108⟩ := Jvm.LawKit.callS X7 hx (y := (⟨"java/lang/Math", "max", "(II)I"⟩ : MethodName)) hown (mvT hZ (hw _ (List.mem_of_getElem? (i := 13) rfl))) (mvT hZ (hw _ (List.mem_of_getElem? (i := 14) rfl))) (mvT hZ (hw _ (List.mem_of_getElem? (i := 15) rfl))) (mvT hZ (hw _ (List.mem_of_getElem? (i := 16) rfl))) (by decide) (backOf (W := 0) (rm4 l Z a0 hw [] v104 (2048 : Int32) h0 n0 (Nat.le_trans Z0 K0.1) ) hZ (hw _ (List.mem_of_getElem? (i := 16) rfl)) (hw _ (List.mem_of_getElem? (i := 15) rfl)) (by decide) (by decide)) (g := (mkF m 268 #[.val (.ref ar), .val (.int s0), .val (.int (2 : Int32)), .val (.int (3 : Int32)), .val (.int v101), .val (.int (6 : Int32)), .val (.int v104), .val (.int v107), .val (.int (2048 : Int32)), .val (.int (65535 : Int32)), .unset, .unset] [(.int (2048 : Int32)), (.int v104)])) rfl (by rw [hml]; rfl) (argsL := [(.int v104), (.int (2048 : Int32))]) (rest := []) (lenOf pd_1 rfl) rfl (by show 2 * 0 + _ ≤ _; exact Nat.le_of_eq rfl) (hb hby d2_268) (fun _ _ => ⟨rfl, e7, (by decide : 0 + 0 ≤ _), (by decide : 0 + 0 ≤ _)⟩)
        dsimp only [Pt.U, Pt.locs, Pt.cells, Pt.slots] at X108 l108 y108 z108 st108 hQ108
        subst y108 z108
        obtain ⟨r_110, rfl, N108q, f111, e108⟩ := hQ108
        have N108 : Fr n0 L108 := by rw [l108]; exact Fr.app N7 N108q
        refine Go.st st108 ?_
        show Go p e below s Q 0 0 (T108.setTop (mkF m 271 #[.val (.ref ar), .val (.int s0), .val (.int (2 : Int32)), .val (.int (3 : Int32)), .val (.int v101), .val (.int (6 : Int32)), .val (.int v104), .val (.int v107), .val (.int (2048 : Int32)), .val (.int (65535 : Int32)), .unset, .unset] [(.int r_110)]))
        have f112 := rng32 r_110
        refine Go.st (fun _ k => XS.istore X108.here hx rfl (hb hby d2_271) rfl (l' := #[.val (.ref ar), .val (.int s0), .val (.int (2 : Int32)), .val (.int (3 : Int32)), .val (.int v101), .val (.int (6 : Int32)), .val (.int v104), .val (.int v107), .val (.int (2048 : Int32)), .val (.int (65535 : Int32)), .val (.int r_110), .unset]) rfl k) ?_
        refine Go.st (fun _ k => XS.iload X108.here hx rfl (hb hby d2_273) rfl k) ?_
        refine Go.st (fun _ k => XS.iload X108.here hx rfl (hb hby d2_275) rfl k) ?_
        have f114 := liI_65535
        obtain ⟨_, _, ⟨T113, L113, k113, n113⟩, -, X113, ⟨Lc113, hQ113, l113, y113, z113⟩, st113⟩ := Jvm.LawKit.callS X108 hx (y := (⟨"java/lang/Math", "min", "(II)I"⟩ : MethodName)) hown (mvT hZ (hw _ (List.mem_of_getElem? (i := 17) rfl))) (mvT hZ (hw _ (List.mem_of_getElem? (i := 18) rfl))) (mvT hZ (hw _ (List.mem_of_getElem? (i := 15) rfl))) (mvT hZ (hw _ (List.mem_of_getElem? (i := 19) rfl))) (by decide) (backOf (W := 0) (rm5 l Z a0 hw [] v107 (65535 : Int32) h0 n0 (Nat.le_trans Z0 K0.1) ) hZ (hw _ (List.mem_of_getElem? (i := 19) rfl)) (hw _ (List.mem_of_getElem? (i := 15) rfl)) (by decide) (by decide)) (g := (mkF m 277 #[.val (.ref ar), .val (.int s0), .val (.int (2 : Int32)), .val (.int (3 : Int32)), .val (.int v101), .val (.int (6 : Int32)), .val (.int v104), .val (.int v107), .val (.int (2048 : Int32)), .val (.int (65535 : Int32)), .val (.int r_110), .unset] [(.int (65535 : Int32)), (.int v107)])) rfl (by rw [hml]; rfl) (argsL := [(.int v107), (.int (65535 : Int32))]) (rest := []) (lenOf pd_1 rfl) rfl (by show 2 * 0 + _ ≤ _; exact Nat.le_of_eq rfl) (hb hby d2_277) (fun _ _ => ⟨rfl, e108, (by decide : 0 + 0 ≤ _), (by decide : 0 + 0 ≤ _)⟩)
        dsimp only [Pt.U, Pt.locs, Pt.cells, Pt.slots] at X113 l113 y113 z113 st113 hQ113
        subst y113 z113
        obtain ⟨r_115, rfl, N113q, f116, e113⟩ := hQ113
        have N113 : Fr n0 L113 := by rw [l113]; exact Fr.app N108 N113q
        refine Go.st st113 ?_
        show Go p e below s Q 0 0 (T113.setTop (mkF m 280 #[.val (.ref ar), .val (.int s0), .val (.int (2 : Int32)), .val (.int (3 : Int32)), .val (.int v101), .val (.int (6 : Int32)), .val (.int v104), .val (.int v107), .val (.int (2048 : Int32)), .val (.int (65535 : Int32)), .val (.int r_110), .unset] [(.int r_115)]))
        have f117 := rng32 r_115
        refine Go.st (fun _ k => XS.istore X113.here hx rfl (hb hby d2_280) rfl (l' := #[.val (.ref ar), .val (.int s0), .val (.int (2 : Int32)), .val (.int (3 : Int32)), .val (.int v101), .val (.int (6 : Int32)), .val (.int v104), .val (.int v107), .val (.int (2048 : Int32)), .val (.int (65535 : Int32)), .val (.int r_110), .val (.int r_115)]) rfl k) ?_
        refine Go.st (fun _ k => XS.iload X113.here hx rfl (hb hby d2_282) rfl k) ?_
        refine Go.st (fun _ k => XS.iload X113.here hx rfl (hb hby d2_284) rfl k) ?_
        by_cases c118 : r_115.toInt < r_110.toInt
        ·
          refine Go.st (fun _ k => XS.icmpYes X113.here hx rfl (pc0 := 286) (pc' := 307) rfl (hb hby d2_286) rfl (tlt (ltI rfl rfl c118)).2.2.1 (by decide) (by decide) k) ?_
          refine Go.st (fun _ k => XS.iconst X113.here hx rfl (hb hby d2_307) k) ?_
          show Go p e below s Q 0 0 (T113.setTop (mkF m 308 #[.val (.ref ar), .val (.int s0), .val (.int (2 : Int32)), .val (.int (3 : Int32)), .val (.int v101), .val (.int (6 : Int32)), .val (.int v104), .val (.int v107), .val (.int (2048 : Int32)), .val (.int (65535 : Int32)), .val (.int r_110), .val (.int r_115)] [(.int (0 : Int32))]))
          have f119 := liI_0
          exact Go.retN X113 hx hlk (by simp) Bd.returns (hb hby d2_308) (z' := (0 : Int32)) (by decide) (by rw [← hQ, e113]; exact ⟨(0 : Int32), rfl, N113, (by refine Or.inr ⟨by omega, ?_⟩; rintro ⟨hv, nn, hn⟩; unfold Vbl SecOk at hv; unfold LenIs at hn; omega), rfl⟩) (by decide) (by decide)
        ·
          refine Go.st (fun _ k => XS.icmpNo X113.here hx rfl (hb hby d2_286) rfl (flt (nltI rfl rfl c118)).2.2.1 k) ?_
          refine Go.st (fun _ k => XS.iload X113.here hx rfl (hb hby d2_289) rfl k) ?_
          refine Go.st (X113.ldcInt hx hown (mvT hZ (hw _ (List.mem_of_getElem? (i := 20) rfl))) (g := (mkF m 291 #[.val (.ref ar), .val (.int s0), .val (.int (2 : Int32)), .val (.int (3 : Int32)), .val (.int v101), .val (.int (6 : Int32)), .val (.int v104), .val (.int v107), .val (.int (2048 : Int32)), .val (.int (65535 : Int32)), .val (.int r_110), .val (.int r_115)] [(.int r_110)])) rfl (hb hby d2_291)) ?_
          show Go p e below s Q 0 0 (T113.setTop (mkF m 293 #[.val (.ref ar), .val (.int s0), .val (.int (2 : Int32)), .val (.int (3 : Int32)), .val (.int v101), .val (.int (6 : Int32)), .val (.int v104), .val (.int v107), .val (.int (2048 : Int32)), .val (.int (65535 : Int32)), .val (.int r_110), .val (.int r_115)] [(.int (55296 : Int32)), (.int r_110)]))
          have f120 := liI_55296
          by_cases c121 : r_110.toInt < 55296
          ·
            refine Go.st (fun _ k => XS.icmpYes X113.here hx rfl (pc0 := 293) (pc' := 303) rfl (hb hby d2_293) rfl (tlt (ltI rfl liI_55296 c121)).1 (by decide) (by decide) k) ?_
            refine Go.st (fun _ k => XS.iconst X113.here hx rfl (hb hby d2_303) k) ?_
            refine Go.st (fun _ k => XS.goto X113.here hx rfl (pc0 := 304) (pc' := 308) rfl (hb hby d2_304) (by decide) (by decide) k) ?_
            show Go p e below s Q 0 0 (T113.setTop (mkF m 308 #[.val (.ref ar), .val (.int s0), .val (.int (2 : Int32)), .val (.int (3 : Int32)), .val (.int v101), .val (.int (6 : Int32)), .val (.int v104), .val (.int v107), .val (.int (2048 : Int32)), .val (.int (65535 : Int32)), .val (.int r_110), .val (.int r_115)] [(.int (1 : Int32))]))
            exact Go.retN X113 hx hlk (by simp) Bd.returns (hb hby d2_308) (z' := (1 : Int32)) (by decide) (by rw [← hQ, e113]; exact ⟨(1 : Int32), rfl, N113, (by exact Or.inl ⟨by omega, (by unfold Vbl SecOk; omega), 3, (by unfold LenIs; omega)⟩), rfl⟩) (by decide) (by decide)
          ·
            refine Go.st (fun _ k => XS.icmpNo X113.here hx rfl (hb hby d2_293) rfl (flt (nltI rfl liI_55296 c121)).1 k) ?_
            refine Go.st (fun _ k => XS.iload X113.here hx rfl (hb hby d2_296) rfl k) ?_
            refine Go.st (X113.ldcInt hx hown (mvT hZ (hw _ (List.mem_of_getElem? (i := 47) rfl))) (g := (mkF m 298 #[.val (.ref ar), .val (.int s0), .val (.int (2 : Int32)), .val (.int (3 : Int32)), .val (.int v101), .val (.int (6 : Int32)), .val (.int v104), .val (.int v107), .val (.int (2048 : Int32)), .val (.int (65535 : Int32)), .val (.int r_110), .val (.int r_115)] [(.int r_115)])) rfl (hb hby d2_298)) ?_
            show Go p e below s Q 0 0 (T113.setTop (mkF m 300 #[.val (.ref ar), .val (.int s0), .val (.int (2 : Int32)), .val (.int (3 : Int32)), .val (.int v101), .val (.int (6 : Int32)), .val (.int v104), .val (.int v107), .val (.int (2048 : Int32)), .val (.int (65535 : Int32)), .val (.int r_110), .val (.int r_115)] [(.int (57343 : Int32)), (.int r_115)]))
            have f122 := liI_57343
            by_cases c123 : 57343 < r_115.toInt
            ·
              refine Go.st (fun _ k => XS.icmpNo X113.here hx rfl (hb hby d2_300) rfl (tlt (ltI liI_57343 rfl c123)).2.2.2 k) ?_
              refine Go.st (fun _ k => XS.iconst X113.here hx rfl (hb hby d2_303) k) ?_
              refine Go.st (fun _ k => XS.goto X113.here hx rfl (pc0 := 304) (pc' := 308) rfl (hb hby d2_304) (by decide) (by decide) k) ?_
              show Go p e below s Q 0 0 (T113.setTop (mkF m 308 #[.val (.ref ar), .val (.int s0), .val (.int (2 : Int32)), .val (.int (3 : Int32)), .val (.int v101), .val (.int (6 : Int32)), .val (.int v104), .val (.int v107), .val (.int (2048 : Int32)), .val (.int (65535 : Int32)), .val (.int r_110), .val (.int r_115)] [(.int (1 : Int32))]))
              exact Go.retN X113 hx hlk (by simp) Bd.returns (hb hby d2_308) (z' := (1 : Int32)) (by decide) (by rw [← hQ, e113]; exact ⟨(1 : Int32), rfl, N113, (by exact Or.inl ⟨by omega, (by unfold Vbl SecOk; omega), 3, (by unfold LenIs; omega)⟩), rfl⟩) (by decide) (by decide)
            ·
              refine Go.st (fun _ k => XS.icmpYes X113.here hx rfl (pc0 := 300) (pc' := 307) rfl (hb hby d2_300) rfl (flt (nltI liI_57343 rfl c123)).2.2.2 (by decide) (by decide) k) ?_
              refine Go.st (fun _ k => XS.iconst X113.here hx rfl (hb hby d2_307) k) ?_
              show Go p e below s Q 0 0 (T113.setTop (mkF m 308 #[.val (.ref ar), .val (.int s0), .val (.int (2 : Int32)), .val (.int (3 : Int32)), .val (.int v101), .val (.int (6 : Int32)), .val (.int v104), .val (.int v107), .val (.int (2048 : Int32)), .val (.int (65535 : Int32)), .val (.int r_110), .val (.int r_115)] [(.int (0 : Int32))]))
              have f124 := liI_0
              exact Go.retN X113 hx hlk (by simp) Bd.returns (hb hby d2_308) (z' := (0 : Int32)) (by decide) (by rw [← hQ, e113]; exact ⟨(0 : Int32), rfl, N113, (by refine Or.inr ⟨by omega, ?_⟩; rintro ⟨hv, nn, hn⟩; unfold Vbl SecOk at hv; unfold LenIs at hn; omega), rfl⟩) (by decide) (by decide)
      ·
        refine Go.st (fun _ k => XS.icmpNo X7.here hx rfl (hb hby d2_72) rfl (feq (neI rfl liI_128 c93)).1 k) ?_
        refine Go.st (fun _ k => XS.iconst X7.here hx rfl (hb hby d2_75) k) ?_
        show Go p e below s Q 0 0 (T7.setTop (mkF m 76 #[.val (.ref ar), .val (.int s0), .val (.int (2 : Int32)), .val (.int (3 : Int32)), .val (.int v81), .val (.int v89), .unset, .unset, .unset, .unset, .unset, .unset] [(.int (0 : Int32))]))
        have f125 := liI_0
        exact Go.retN X7 hx hlk (by simp) Bd.returns (hb hby d2_76) (z' := (0 : Int32)) (by decide) (by rw [← hQ, e7]; exact ⟨(0 : Int32), rfl, N7, (by refine Or.inr ⟨by omega, ?_⟩; rintro ⟨hv, nn, hn⟩; unfold Vbl SecOk at hv; unfold LenIs at hn; omega), rfl⟩) (by decide) (by decide)
    ·
      have cs18' : r_10 = (4 : Int32) := eqI cs18 liI_4 rfl
      subst cs18'
      show Go p e below s Q 0 0 (T7.setTop (mkF m 13 #[.val (.ref ar), .val (.int s0), .val (.int (2 : Int32)), .val (.int (4 : Int32)), .unset, .unset, .unset, .unset, .unset, .unset, .unset, .unset] []))
      have f126 : 240 ≤ c0.toInt ∧ c0.toInt < 248 := by omega
      clear f1 f2 f4 f8 f11 f12 hL f13 c14 hlen'
      refine Go.st (fun _ k => XS.aloadN X7.here hx rfl (hb hby d2_13) rfl rfl k) ?_
      refine Go.st (fun _ k => XS.iloadN X7.here hx rfl (hb hby d2_14) rfl k) ?_
      have f128 := rng32 s0
      have f129 := liI_4
      have r130 : 0 ≤ s0.toInt := by omega
      have r131 : s0.toInt < (4 : Int32).toInt := by omega
      refine Go.st (Vec.ildI X7 hx hZ e7 hV (j := s0) r130 r131 (g := (mkF m 15 #[.val (.ref ar), .val (.int s0), .val (.int (2 : Int32)), .val (.int (4 : Int32)), .unset, .unset, .unset, .unset, .unset, .unset, .unset, .unset] [(.int s0), (.ref ar)])) rfl rfl (hb hby d2_15)) ?_
      show Go p e below s Q 0 0 (T7.setTop (mkF m 16 #[.val (.ref ar), .val (.int s0), .val (.int (2 : Int32)), .val (.int (4 : Int32)), .unset, .unset, .unset, .unset, .unset, .unset, .unset, .unset] [(.int (f s0.toInt.toNat))]))
      refine Go.st (fun _ k => XS.iloadN X7.here hx rfl (hb hby d2_16) rfl k) ?_
      refine Go.st (fun _ k => XS.iconst X7.here hx rfl (hb hby d2_17) k) ?_
      refine Go.st (fun _ k => XS.icmpYes X7.here hx rfl (pc0 := 18) (pc' := 26) rfl (hb hby d2_18) rfl (feq (neI liI_4 liI_1 (by decide))).2 (by decide) (by decide) k) ?_
      refine Go.st (fun _ k => XS.iloadN X7.here hx rfl (hb hby d2_26) rfl k) ?_
      refine Go.st (fun _ k => XS.iconst X7.here hx rfl (hb hby d2_27) k) ?_
      refine Go.st (fun _ k => XS.icmpYes X7.here hx rfl (pc0 := 28) (pc' := 36) rfl (hb hby d2_28) rfl (feq (neI liI_4 liI_2 (by decide))).2 (by decide) (by decide) k) ?_
      show Go p e below s Q 0 0 (T7.setTop (mkF m 36 #[.val (.ref ar), .val (.int s0), .val (.int (2 : Int32)), .val (.int (4 : Int32)), .unset, .unset, .unset, .unset, .unset, .unset, .unset, .unset] [(.int (f s0.toInt.toNat))]))
      refine Go.st (fun _ k => XS.iloadN X7.here hx rfl (hb hby d2_36) rfl k) ?_
      refine Go.st (fun _ k => XS.iconst X7.here hx rfl (hb hby d2_37) k) ?_
      refine Go.st (fun _ k => XS.icmpYes X7.here hx rfl (pc0 := 38) (pc' := 46) rfl (hb hby d2_38) rfl (feq (neI liI_4 liI_3 (by decide))).2 (by decide) (by decide) k) ?_
      refine Go.st (fun _ k => XS.bipush X7.here hx rfl (hb hby d2_46) k) ?_
      refine Go.st (fun _ k => XS.iand X7.here hx rfl (hb hby d2_48) rfl k) ?_
      refine Go.st (fun _ k => XS.istore X7.here hx rfl (hb hby d2_49) rfl (l' := #[.val (.ref ar), .val (.int s0), .val (.int (2 : Int32)), .val (.int (4 : Int32)), .val (.int ((f s0.toInt.toNat) &&& (7 : Int32))), .unset, .unset, .unset, .unset, .unset, .unset, .unset]) rfl k) ?_
      show Go p e below s Q 0 0 (T7.setTop (mkF m 51 #[.val (.ref ar), .val (.int s0), .val (.int (2 : Int32)), .val (.int (4 : Int32)), .val (.int ((f s0.toInt.toNat) &&& (7 : Int32))), .unset, .unset, .unset, .unset, .unset, .unset, .unset] []))
      have f132 := rng32 (f s0.toInt.toNat)
      have f133 := liI_7
      have f134 : ((f s0.toInt.toNat) &&& (7 : Int32)).toInt = (f s0.toInt.toNat).toInt % 8 := c_mask (f s0.toInt.toNat) (7 : Int32) 3 (by decide) (by decide)
      generalize hv_v135 : ((f s0.toInt.toNat) &&& (7 : Int32)) = v135 at f134 ⊢
      refine Go.st (fun _ k => XS.iloadN X7.here hx rfl (hb hby d2_51) rfl k) ?_
      refine Go.st (fun _ k => XS.iconst X7.here hx rfl (hb hby d2_52) k) ?_
      refine Go.st (fun _ k => XS.icmpNo X7.here hx rfl (hb hby d2_53) rfl (flt (nltI liI_2 liI_2 (by decide))).1 k) ?_
      refine Go.st (fun _ k => XS.aloadN X7.here hx rfl (hb hby d2_56) rfl rfl k) ?_
      refine Go.st (fun _ k => XS.iloadN X7.here hx rfl (hb hby d2_57) rfl k) ?_
      refine Go.st (fun _ k => XS.iconst X7.here hx rfl (hb hby d2_58) k) ?_
      show Go p e below s Q 0 0 (T7.setTop (mkF m 59 #[.val (.ref ar), .val (.int s0), .val (.int (2 : Int32)), .val (.int (4 : Int32)), .val (.int v135), .unset, .unset, .unset, .unset, .unset, .unset, .unset] [(.int (1 : Int32)), (.int s0), (.ref ar)]))
      refine Go.st (fun _ k => XS.iadd X7.here hx rfl (hb hby d2_59) rfl k) ?_
      have f137 := liI_1
      have f138 := c_iadd s0 (1 : Int32)
      have f139 := rng32 (s0 + (1 : Int32))
      have r140 : 0 ≤ (s0 + (1 : Int32)).toInt := by omega
      have r141 : (s0 + (1 : Int32)).toInt < (4 : Int32).toInt := by omega
      refine Go.st (Vec.ildI X7 hx hZ e7 hV (j := (s0 + (1 : Int32))) r140 r141 (g := (mkF m 60 #[.val (.ref ar), .val (.int s0), .val (.int (2 : Int32)), .val (.int (4 : Int32)), .val (.int v135), .unset, .unset, .unset, .unset, .unset, .unset, .unset] [(.int (s0 + (1 : Int32))), (.ref ar)])) rfl rfl (hb hby d2_60)) ?_
      show Go p e below s Q 0 0 (T7.setTop (mkF m 61 #[.val (.ref ar), .val (.int s0), .val (.int (2 : Int32)), .val (.int (4 : Int32)), .val (.int v135), .unset, .unset, .unset, .unset, .unset, .unset, .unset] [(.int (f (s0 + (1 : Int32)).toInt.toNat))]))
      refine Go.st (fun _ k => XS.istore X7.here hx rfl (hb hby d2_61) rfl (l' := #[.val (.ref ar), .val (.int s0), .val (.int (2 : Int32)), .val (.int (4 : Int32)), .val (.int v135), .val (.int (f (s0 + (1 : Int32)).toInt.toNat)), .unset, .unset, .unset, .unset, .unset, .unset]) rfl k) ?_
      show Go p e below s Q 0 0 (T7.setTop (mkF m 63 #[.val (.ref ar), .val (.int s0), .val (.int (2 : Int32)), .val (.int (4 : Int32)), .val (.int v135), .val (.int (f (s0 + (1 : Int32)).toInt.toNat)), .unset, .unset, .unset, .unset, .unset, .unset] []))
      have f142 := rng32 (f (s0 + (1 : Int32)).toInt.toNat)
      generalize hv_v143 : (f (s0 + (1 : Int32)).toInt.toNat) = v143 at f142 ⊢
      have hq1 : v143.toInt = c1.toInt := by rw [← hv_v143, ← hc1]; congr 2; omega
      refine Go.st (fun _ k => XS.iload X7.here hx rfl (hb hby d2_63) rfl k) ?_
      refine Go.st (fun _ k => XS.sipush X7.here hx rfl (hb hby d2_65) k) ?_
      refine Go.st (fun _ k => XS.iand X7.here hx rfl (hb hby d2_68) rfl k) ?_
      refine Go.st (fun _ k => XS.sipush X7.here hx rfl (hb hby d2_69) k) ?_
      have f144 := liI_192
      have f145 := himask_192 v143 (by omega)
      have f146 := liI_128
      by_cases c147 : (v143 &&& (192 : Int32)).toInt = 128
      ·
        refine Go.st (fun _ k => XS.icmpYes X7.here hx rfl (pc0 := 72) (pc' := 77) rfl (hb hby d2_72) rfl (teq (eqI rfl liI_128 c147)).1 (by decide) (by decide) k) ?_
        refine Go.st (fun _ k => XS.iload X7.here hx rfl (hb hby d2_77) rfl k) ?_
        show Go p e below s Q 0 0 (T7.setTop (mkF m 79 #[.val (.ref ar), .val (.int s0), .val (.int (2 : Int32)), .val (.int (4 : Int32)), .val (.int v135), .val (.int v143), .unset, .unset, .unset, .unset, .unset, .unset] [(.int v135)]))
        refine Go.st (fun _ k => XS.bipush X7.here hx rfl (hb hby d2_79) k) ?_
        refine Go.st (fun _ k => XS.ishl X7.here hx rfl (hb hby d2_81) rfl k) ?_
        refine Go.st (fun _ k => XS.iload X7.here hx rfl (hb hby d2_82) rfl k) ?_
        refine Go.st (fun _ k => XS.bipush X7.here hx rfl (hb hby d2_84) k) ?_
        refine Go.st (fun _ k => XS.iand X7.here hx rfl (hb hby d2_86) rfl k) ?_
        refine Go.st (fun _ k => XS.ior X7.here hx rfl (hb hby d2_87) rfl k) ?_
        show Go p e below s Q 0 0 (T7.setTop (mkF m 88 #[.val (.ref ar), .val (.int s0), .val (.int (2 : Int32)), .val (.int (4 : Int32)), .val (.int v135), .val (.int v143), .unset, .unset, .unset, .unset, .unset, .unset] [(.int ((v135 <<< ((6 : Int32) &&& 31)) ||| (v143 &&& (63 : Int32))))]))
        refine Go.st (fun _ k => XS.istore X7.here hx rfl (hb hby d2_88) rfl (l' := #[.val (.ref ar), .val (.int s0), .val (.int (2 : Int32)), .val (.int (4 : Int32)), .val (.int ((v135 <<< ((6 : Int32) &&& 31)) ||| (v143 &&& (63 : Int32)))), .val (.int v143), .unset, .unset, .unset, .unset, .unset, .unset]) rfl k) ?_
        show Go p e below s Q 0 0 (T7.setTop (mkF m 90 #[.val (.ref ar), .val (.int s0), .val (.int (2 : Int32)), .val (.int (4 : Int32)), .val (.int ((v135 <<< ((6 : Int32) &&& 31)) ||| (v143 &&& (63 : Int32)))), .val (.int v143), .unset, .unset, .unset, .unset, .unset, .unset] []))
        have f148 := liI_6
        have f149 : ((v135 <<< ((6 : Int32) &&& 31)).toInt - v135.toInt * 64) % 4294967296 = 0 := c_ishl v135 (6 : Int32) 6 (by decide)
        have f150 := rng32 (v135 <<< ((6 : Int32) &&& 31))
        have f151 := liI_63
        have f152 : (v143 &&& (63 : Int32)).toInt = v143.toInt % 64 := c_mask v143 (63 : Int32) 6 (by decide) (by decide)
        have f153 := c_or (v135 <<< ((6 : Int32) &&& 31)) (v143 &&& (63 : Int32)) 6 (by decide) 64 (by decide) (by omega) (by omega) (by omega)
        have f154 := rng32 ((v135 <<< ((6 : Int32) &&& 31)) ||| (v143 &&& (63 : Int32)))
        generalize hv_v155 : ((v135 <<< ((6 : Int32) &&& 31)) ||| (v143 &&& (63 : Int32))) = v155 at f153 f154 ⊢
        refine Go.st (fun _ k => XS.iloadN X7.here hx rfl (hb hby d2_90) rfl k) ?_
        refine Go.st (fun _ k => XS.iconst X7.here hx rfl (hb hby d2_91) k) ?_
        refine Go.st (fun _ k => XS.icmpYes X7.here hx rfl (pc0 := 92) (pc' := 129) rfl (hb hby d2_92) rfl (tlt (ltI liI_2 liI_3 (by decide))).1 (by decide) (by decide) k) ?_
        refine Go.st (fun _ k => XS.iloadN X7.here hx rfl (hb hby d2_129) rfl k) ?_
        refine Go.st (fun _ k => XS.iconst X7.here hx rfl (hb hby d2_130) k) ?_
        refine Go.st (fun _ k => XS.icmpYes X7.here hx rfl (pc0 := 131) (pc' := 168) rfl (hb hby d2_131) rfl (tlt (ltI liI_2 liI_4 (by decide))).1 (by decide) (by decide) k) ?_
        show Go p e below s Q 0 0 (T7.setTop (mkF m 168 #[.val (.ref ar), .val (.int s0), .val (.int (2 : Int32)), .val (.int (4 : Int32)), .val (.int v155), .val (.int v143), .unset, .unset, .unset, .unset, .unset, .unset] []))
        refine Go.st (fun _ k => XS.bipush X7.here hx rfl (hb hby d2_168) k) ?_
        refine Go.st (fun _ k => XS.iloadN X7.here hx rfl (hb hby d2_170) rfl k) ?_
        refine Go.st (fun _ k => XS.iloadN X7.here hx rfl (hb hby d2_171) rfl k) ?_
        refine Go.st (fun _ k => XS.isub X7.here hx rfl (hb hby d2_172) rfl k) ?_
        refine Go.st (fun _ k => XS.imul X7.here hx rfl (hb hby d2_173) rfl k) ?_
        refine Go.st (fun _ k => XS.istore X7.here hx rfl (hb hby d2_174) rfl (l' := #[.val (.ref ar), .val (.int s0), .val (.int (2 : Int32)), .val (.int (4 : Int32)), .val (.int v155), .val (.int (12 : Int32)), .unset, .unset, .unset, .unset, .unset, .unset]) rfl k) ?_
        show Go p e below s Q 0 0 (T7.setTop (mkF m 176 #[.val (.ref ar), .val (.int s0), .val (.int (2 : Int32)), .val (.int (4 : Int32)), .val (.int v155), .val (.int (12 : Int32)), .unset, .unset, .unset, .unset, .unset, .unset] []))
        refine Go.st (fun _ k => XS.iload X7.here hx rfl (hb hby d2_176) rfl k) ?_
        refine Go.st (fun _ k => XS.iload X7.here hx rfl (hb hby d2_178) rfl k) ?_
        refine Go.st (fun _ k => XS.ishl X7.here hx rfl (hb hby d2_180) rfl k) ?_
        refine Go.st (fun _ k => XS.istore X7.here hx rfl (hb hby d2_181) rfl (l' := #[.val (.ref ar), .val (.int s0), .val (.int (2 : Int32)), .val (.int (4 : Int32)), .val (.int v155), .val (.int (12 : Int32)), .val (.int (v155 <<< ((12 : Int32) &&& 31))), .unset, .unset, .unset, .unset, .unset]) rfl k) ?_
        show Go p e below s Q 0 0 (T7.setTop (mkF m 183 #[.val (.ref ar), .val (.int s0), .val (.int (2 : Int32)), .val (.int (4 : Int32)), .val (.int v155), .val (.int (12 : Int32)), .val (.int (v155 <<< ((12 : Int32) &&& 31))), .unset, .unset, .unset, .unset, .unset] []))
        have f156 := liI_12
        have f157 : ((v155 <<< ((12 : Int32) &&& 31)).toInt - v155.toInt * 4096) % 4294967296 = 0 := c_ishl v155 (12 : Int32) 12 (by decide)
        have f158 := rng32 (v155 <<< ((12 : Int32) &&& 31))
        generalize hv_v159 : (v155 <<< ((12 : Int32) &&& 31)) = v159 at f157 f158 ⊢
        refine Go.st (fun _ k => XS.iload X7.here hx rfl (hb hby d2_183) rfl k) ?_
        refine Go.st (fun _ k => XS.iconst X7.here hx rfl (hb hby d2_185) k) ?_
        refine Go.st (fun _ k => XS.iload X7.here hx rfl (hb hby d2_186) rfl k) ?_
        refine Go.st (fun _ k => XS.ishl X7.here hx rfl (hb hby d2_188) rfl k) ?_
        refine Go.st (fun _ k => XS.iconst X7.here hx rfl (hb hby d2_189) k) ?_
        refine Go.st (fun _ k => XS.isub X7.here hx rfl (hb hby d2_190) rfl k) ?_
        show Go p e below s Q 0 0 (T7.setTop (mkF m 191 #[.val (.ref ar), .val (.int s0), .val (.int (2 : Int32)), .val (.int (4 : Int32)), .val (.int v155), .val (.int (12 : Int32)), .val (.int v159), .unset, .unset, .unset, .unset, .unset] [(.int (4095 : Int32)), (.int v159)]))
        refine Go.st (fun _ k => XS.ior X7.here hx rfl (hb hby d2_191) rfl k) ?_
        refine Go.st (fun _ k => XS.istore X7.here hx rfl (hb hby d2_192) rfl (l' := #[.val (.ref ar), .val (.int s0), .val (.int (2 : Int32)), .val (.int (4 : Int32)), .val (.int v155), .val (.int (12 : Int32)), .val (.int v159), .val (.int (v159 ||| (4095 : Int32))), .unset, .unset, .unset, .unset]) rfl k) ?_
        show Go p e below s Q 0 0 (T7.setTop (mkF m 194 #[.val (.ref ar), .val (.int s0), .val (.int (2 : Int32)), .val (.int (4 : Int32)), .val (.int v155), .val (.int (12 : Int32)), .val (.int v159), .val (.int (v159 ||| (4095 : Int32))), .unset, .unset, .unset, .unset] []))
        have f160 := liI_4095
        have f161 := c_or v159 (4095 : Int32) 12 (by decide) 4096 (by decide) (by omega) (by omega) (by omega)
        have f162 := rng32 (v159 ||| (4095 : Int32))
        generalize hv_v163 : (v159 ||| (4095 : Int32)) = v163 at f161 f162 ⊢
        refine Go.st (fun _ k => XS.iloadN X7.here hx rfl (hb hby d2_194) rfl k) ?_
        refine Go.st (fun _ k => XS.iconst X7.here hx rfl (hb hby d2_195) k) ?_
        refine Go.st (fun _ k => XS.icmpYes X7.here hx rfl (pc0 := 196) (pc' := 203) rfl (hb hby d2_196) rfl (feq (neI liI_4 liI_1 (by decide))).2 (by decide) (by decide) k) ?_
        refine Go.st (fun _ k => XS.iloadN X7.here hx rfl (hb hby d2_203) rfl k) ?_
        refine Go.st (fun _ k => XS.iconst X7.here hx rfl (hb hby d2_204) k) ?_
        refine Go.st (fun _ k => XS.icmpYes X7.here hx rfl (pc0 := 205) (pc' := 214) rfl (hb hby d2_205) rfl (feq (neI liI_4 liI_2 (by decide))).2 (by decide) (by decide) k) ?_
        show Go p e below s Q 0 0 (T7.setTop (mkF m 214 #[.val (.ref ar), .val (.int s0), .val (.int (2 : Int32)), .val (.int (4 : Int32)), .val (.int v155), .val (.int (12 : Int32)), .val (.int v159), .val (.int v163), .unset, .unset, .unset, .unset] []))
        refine Go.st (fun _ k => XS.iloadN X7.here hx rfl (hb hby d2_214) rfl k) ?_
        refine Go.st (fun _ k => XS.iconst X7.here hx rfl (hb hby d2_215) k) ?_
        refine Go.st (fun _ k => XS.icmpYes X7.here hx rfl (pc0 := 216) (pc' := 225) rfl (hb hby d2_216) rfl (feq (neI liI_4 liI_3 (by decide))).2 (by decide) (by decide) k) ?_
        refine Go.st (X7.ldcInt hx hown (mvT hZ (hw _ (List.mem_of_getElem? (i := 48) rfl))) (g := (mkF m 225 #[.val (.ref ar), .val (.int s0), .val (.int (2 : Int32)), .val (.int (4 : Int32)), .val (.int v155), .val (.int (12 : Int32)), .val (.int v159), .val (.int v163), .unset, .unset, .unset, .unset] [])) rfl (hb hby d2_225)) ?_
        show Go p e below s Q 0 0 (T7.setTop (mkF m 227 #[.val (.ref ar), .val (.int s0), .val (.int (2 : Int32)), .val (.int (4 : Int32)), .val (.int v155), .val (.int (12 : Int32)), .val (.int v159), .val (.int v163), .unset, .unset, .unset, .unset] [(.int (65536 : Int32))]))
        refine Go.st (fun _ k => XS.istore X7.here hx rfl (hb hby d2_227) rfl (l' := #[.val (.ref ar), .val (.int s0), .val (.int (2 : Int32)), .val (.int (4 : Int32)), .val (.int v155), .val (.int (12 : Int32)), .val (.int v159), .val (.int v163), .val (.int (65536 : Int32)), .unset, .unset, .unset]) rfl k) ?_
        refine Go.st (fun _ k => XS.iloadN X7.here hx rfl (hb hby d2_229) rfl k) ?_
        refine Go.st (fun _ k => XS.iconst X7.here hx rfl (hb hby d2_230) k) ?_
        refine Go.st (fun _ k => XS.icmpYes X7.here hx rfl (pc0 := 231) (pc' := 239) rfl (hb hby d2_231) rfl (feq (neI liI_4 liI_1 (by decide))).2 (by decide) (by decide) k) ?_
        refine Go.st (fun _ k => XS.iloadN X7.here hx rfl (hb hby d2_239) rfl k) ?_
        refine Go.st (fun _ k => XS.iconst X7.here hx rfl (hb hby d2_240) k) ?_
        show Go p e below s Q 0 0 (T7.setTop (mkF m 241 #[.val (.ref ar), .val (.int s0), .val (.int (2 : Int32)), .val (.int (4 : Int32)), .val (.int v155), .val (.int (12 : Int32)), .val (.int v159), .val (.int v163), .val (.int (65536 : Int32)), .unset, .unset, .unset] [(.int (2 : Int32)), (.int (4 : Int32))]))
        refine Go.st (fun _ k => XS.icmpYes X7.here hx rfl (pc0 := 241) (pc' := 250) rfl (hb hby d2_241) rfl (feq (neI liI_4 liI_2 (by decide))).2 (by decide) (by decide) k) ?_
        refine Go.st (fun _ k => XS.iloadN X7.here hx rfl (hb hby d2_250) rfl k) ?_
        refine Go.st (fun _ k => XS.iconst X7.here hx rfl (hb hby d2_251) k) ?_
        refine Go.st (fun _ k => XS.icmpYes X7.here hx rfl (pc0 := 252) (pc' := 260) rfl (hb hby d2_252) rfl (feq (neI liI_4 liI_3 (by decide))).2 (by decide) (by decide) k) ?_
        refine Go.st (X7.ldcInt hx hown (mvT hZ (hw _ (List.mem_of_getElem? (i := 49) rfl))) (g := (mkF m 260 #[.val (.ref ar), .val (.int s0), .val (.int (2 : Int32)), .val (.int (4 : Int32)), .val (.int v155), .val (.int (12 : Int32)), .val (.int v159), .val (.int v163), .val (.int (65536 : Int32)), .unset, .unset, .unset] [])) rfl (hb hby d2_260)) ?_
        show Go p e below s Q 0 0 (T7.setTop (mkF m 262 #[.val (.ref ar), .val (.int s0), .val (.int (2 : Int32)), .val (.int (4 : Int32)), .val (.int v155), .val (.int (12 : Int32)), .val (.int v159), .val (.int v163), .val (.int (65536 : Int32)), .unset, .unset, .unset] [(.int (1114111 : Int32))]))
        refine Go.st (fun _ k => XS.istore X7.here hx rfl (hb hby d2_262) rfl (l' := #[.val (.ref ar), .val (.int s0), .val (.int (2 : Int32)), .val (.int (4 : Int32)), .val (.int v155), .val (.int (12 : Int32)), .val (.int v159), .val (.int v163), .val (.int (65536 : Int32)), .val (.int (1114111 : Int32)), .unset, .unset]) rfl k) ?_
        refine Go.st (fun _ k => XS.iload X7.here hx rfl (hb hby d2_264) rfl k) ?_
        refine Go.st (fun _ k => XS.iload X7.here hx rfl (hb hby d2_266) rfl k) ?_
        have f165 := liI_65536
        obtain ⟨_, _, ⟨T164, L164, k164, n164⟩, -, X164, ⟨Lc164, hQ164, l164, y164, z164⟩, st164⟩ := Jvm.LawKit.callS X7 hx (y := (⟨"java/lang/Math", "max", "(II)I"⟩ : MethodName)) hown (mvT hZ (hw _ (List.mem_of_getElem? (i := 13) rfl))) (mvT hZ (hw _ (List.mem_of_getElem? (i := 14) rfl))) (mvT hZ (hw _ (List.mem_of_getElem? (i := 15) rfl))) (mvT hZ (hw _ (List.mem_of_getElem? (i := 16) rfl))) (by decide) (backOf (W := 0) (rm4 l Z a0 hw [] v159 (65536 : Int32) h0 n0 (Nat.le_trans Z0 K0.1) ) hZ (hw _ (List.mem_of_getElem? (i := 16) rfl)) (hw _ (List.mem_of_getElem? (i := 15) rfl)) (by decide) (by decide)) (g := (mkF m 268 #[.val (.ref ar), .val (.int s0), .val (.int (2 : Int32)), .val (.int (4 : Int32)), .val (.int v155), .val (.int (12 : Int32)), .val (.int v159), .val (.int v163), .val (.int (65536 : Int32)), .val (.int (1114111 : Int32)), .unset, .unset] [(.int (65536 : Int32)), (.int v159)])) rfl (by rw [hml]; rfl) (argsL := [(.int v159), (.int (65536 : Int32))]) (rest := []) (lenOf pd_1 rfl) rfl (by show 2 * 0 + _ ≤ _; exact Nat.le_of_eq rfl) (hb hby d2_268) (fun _ _ => ⟨rfl, e7, (by decide : 0 + 0 ≤ _), (by decide : 0 + 0 ≤ _)⟩)
        dsimp only [Pt.U, Pt.locs, Pt.cells, Pt.slots] at X164 l164 y164 z164 st164 hQ164
        subst y164 z164
        obtain ⟨r_166, rfl, N164q, f167, e164⟩ := hQ164
        have N164 : Fr n0 L164 := by rw [l164]; exact Fr.app N7 N164q
        refine Go.st st164 ?_
        show Go p e below s Q 0 0 (T164.setTop (mkF m 271 #[.val (.ref ar), .val (.int s0), .val (.int (2 : Int32)), .val (.int (4 : Int32)), .val (.int v155), .val (.int (12 : Int32)), .val (.int v159), .val (.int v163), .val (.int (65536 : Int32)), .val (.int (1114111 : Int32)), .unset, .unset] [(.int r_166)]))
        have f168 := rng32 r_166
        refine Go.st (fun _ k => XS.istore X164.here hx rfl (hb hby d2_271) rfl (l' := #[.val (.ref ar), .val (.int s0), .val (.int (2 : Int32)), .val (.int (4 : Int32)), .val (.int v155), .val (.int (12 : Int32)), .val (.int v159), .val (.int v163), .val (.int (65536 : Int32)), .val (.int (1114111 : Int32)), .val (.int r_166), .unset]) rfl k) ?_
        refine Go.st (fun _ k => XS.iload X164.here hx rfl (hb hby d2_273) rfl k) ?_
        refine Go.st (fun _ k => XS.iload X164.here hx rfl (hb hby d2_275) rfl k) ?_
        have f170 := liI_1114111
        obtain ⟨_, _, ⟨T169, L169, k169, n169⟩, -, X169, ⟨Lc169, hQ169, l169, y169, z169⟩, st169⟩ := Jvm.LawKit.callS X164 hx (y := (⟨"java/lang/Math", "min", "(II)I"⟩ : MethodName)) hown (mvT hZ (hw _ (List.mem_of_getElem? (i := 17) rfl))) (mvT hZ (hw _ (List.mem_of_getElem? (i := 18) rfl))) (mvT hZ (hw _ (List.mem_of_getElem? (i := 15) rfl))) (mvT hZ (hw _ (List.mem_of_getElem? (i := 19) rfl))) (by decide) (backOf (W := 0) (rm5 l Z a0 hw [] v163 (1114111 : Int32) h0 n0 (Nat.le_trans Z0 K0.1) ) hZ (hw _ (List.mem_of_getElem? (i := 19) rfl)) (hw _ (List.mem_of_getElem? (i := 15) rfl)) (by decide) (by decide)) (g := (mkF m 277 #[.val (.ref ar), .val (.int s0), .val (.int (2 : Int32)), .val (.int (4 : Int32)), .val (.int v155), .val (.int (12 : Int32)), .val (.int v159), .val (.int v163), .val (.int (65536 : Int32)), .val (.int (1114111 : Int32)), .val (.int r_166), .unset] [(.int (1114111 : Int32)), (.int v163)])) rfl (by rw [hml]; rfl) (argsL := [(.int v163), (.int (1114111 : Int32))]) (rest := []) (lenOf pd_1 rfl) rfl (by show 2 * 0 + _ ≤ _; exact Nat.le_of_eq rfl) (hb hby d2_277) (fun _ _ => ⟨rfl, e164, (by decide : 0 + 0 ≤ _), (by decide : 0 + 0 ≤ _)⟩)
        dsimp only [Pt.U, Pt.locs, Pt.cells, Pt.slots] at X169 l169 y169 z169 st169 hQ169
        subst y169 z169
        obtain ⟨r_171, rfl, N169q, f172, e169⟩ := hQ169
        have N169 : Fr n0 L169 := by rw [l169]; exact Fr.app N164 N169q
        refine Go.st st169 ?_
        show Go p e below s Q 0 0 (T169.setTop (mkF m 280 #[.val (.ref ar), .val (.int s0), .val (.int (2 : Int32)), .val (.int (4 : Int32)), .val (.int v155), .val (.int (12 : Int32)), .val (.int v159), .val (.int v163), .val (.int (65536 : Int32)), .val (.int (1114111 : Int32)), .val (.int r_166), .unset] [(.int r_171)]))
        have f173 := rng32 r_171
        refine Go.st (fun _ k => XS.istore X169.here hx rfl (hb hby d2_280) rfl (l' := #[.val (.ref ar), .val (.int s0), .val (.int (2 : Int32)), .val (.int (4 : Int32)), .val (.int v155), .val (.int (12 : Int32)), .val (.int v159), .val (.int v163), .val (.int (65536 : Int32)), .val (.int (1114111 : Int32)), .val (.int r_166), .val (.int r_171)]) rfl k) ?_
        refine Go.st (fun _ k => XS.iload X169.here hx rfl (hb hby d2_282) rfl k) ?_
        refine Go.st (fun _ k => XS.iload X169.here hx rfl (hb hby d2_284) rfl k) ?_
        by_cases c174 : r_171.toInt < r_166.toInt
        ·
          refine Go.st (fun _ k => XS.icmpYes X169.here hx rfl (pc0 := 286) (pc' := 307) rfl (hb hby d2_286) rfl (tlt (ltI rfl rfl c174)).2.2.1 (by decide) (by decide) k) ?_
          refine Go.st (fun _ k => XS.iconst X169.here hx rfl (hb hby d2_307) k) ?_
          show Go p e below s Q 0 0 (T169.setTop (mkF m 308 #[.val (.ref ar), .val (.int s0), .val (.int (2 : Int32)), .val (.int (4 : Int32)), .val (.int v155), .val (.int (12 : Int32)), .val (.int v159), .val (.int v163), .val (.int (65536 : Int32)), .val (.int (1114111 : Int32)), .val (.int r_166), .val (.int r_171)] [(.int (0 : Int32))]))
          have f175 := liI_0
          exact Go.retN X169 hx hlk (by simp) Bd.returns (hb hby d2_308) (z' := (0 : Int32)) (by decide) (by rw [← hQ, e169]; exact ⟨(0 : Int32), rfl, N169, (by refine Or.inr ⟨by omega, ?_⟩; rintro ⟨hv, nn, hn⟩; unfold Vbl SecOk at hv; unfold LenIs at hn; omega), rfl⟩) (by decide) (by decide)
        ·
          refine Go.st (fun _ k => XS.icmpNo X169.here hx rfl (hb hby d2_286) rfl (flt (nltI rfl rfl c174)).2.2.1 k) ?_
          refine Go.st (fun _ k => XS.iload X169.here hx rfl (hb hby d2_289) rfl k) ?_
          refine Go.st (X169.ldcInt hx hown (mvT hZ (hw _ (List.mem_of_getElem? (i := 20) rfl))) (g := (mkF m 291 #[.val (.ref ar), .val (.int s0), .val (.int (2 : Int32)), .val (.int (4 : Int32)), .val (.int v155), .val (.int (12 : Int32)), .val (.int v159), .val (.int v163), .val (.int (65536 : Int32)), .val (.int (1114111 : Int32)), .val (.int r_166), .val (.int r_171)] [(.int r_166)])) rfl (hb hby d2_291)) ?_
          show Go p e below s Q 0 0 (T169.setTop (mkF m 293 #[.val (.ref ar), .val (.int s0), .val (.int (2 : Int32)), .val (.int (4 : Int32)), .val (.int v155), .val (.int (12 : Int32)), .val (.int v159), .val (.int v163), .val (.int (65536 : Int32)), .val (.int (1114111 : Int32)), .val (.int r_166), .val (.int r_171)] [(.int (55296 : Int32)), (.int r_166)]))
          have f176 := liI_55296
          by_cases c177 : r_166.toInt < 55296
          ·
            refine Go.st (fun _ k => XS.icmpYes X169.here hx rfl (pc0 := 293) (pc' := 303) rfl (hb hby d2_293) rfl (tlt (ltI rfl liI_55296 c177)).1 (by decide) (by decide) k) ?_
            refine Go.st (fun _ k => XS.iconst X169.here hx rfl (hb hby d2_303) k) ?_
            refine Go.st (fun _ k => XS.goto X169.here hx rfl (pc0 := 304) (pc' := 308) rfl (hb hby d2_304) (by decide) (by decide) k) ?_
            show Go p e below s Q 0 0 (T169.setTop (mkF m 308 #[.val (.ref ar), .val (.int s0), .val (.int (2 : Int32)), .val (.int (4 : Int32)), .val (.int v155), .val (.int (12 : Int32)), .val (.int v159), .val (.int v163), .val (.int (65536 : Int32)), .val (.int (1114111 : Int32)), .val (.int r_166), .val (.int r_171)] [(.int (1 : Int32))]))
            exact Go.retN X169 hx hlk (by simp) Bd.returns (hb hby d2_308) (z' := (1 : Int32)) (by decide) (by rw [← hQ, e169]; exact ⟨(1 : Int32), rfl, N169, (by exact Or.inl ⟨by omega, (by unfold Vbl SecOk; omega), 4, (by unfold LenIs; omega)⟩), rfl⟩) (by decide) (by decide)
          ·
            refine Go.st (fun _ k => XS.icmpNo X169.here hx rfl (hb hby d2_293) rfl (flt (nltI rfl liI_55296 c177)).1 k) ?_
            refine Go.st (fun _ k => XS.iload X169.here hx rfl (hb hby d2_296) rfl k) ?_
            refine Go.st (X169.ldcInt hx hown (mvT hZ (hw _ (List.mem_of_getElem? (i := 47) rfl))) (g := (mkF m 298 #[.val (.ref ar), .val (.int s0), .val (.int (2 : Int32)), .val (.int (4 : Int32)), .val (.int v155), .val (.int (12 : Int32)), .val (.int v159), .val (.int v163), .val (.int (65536 : Int32)), .val (.int (1114111 : Int32)), .val (.int r_166), .val (.int r_171)] [(.int r_171)])) rfl (hb hby d2_298)) ?_
            show Go p e below s Q 0 0 (T169.setTop (mkF m 300 #[.val (.ref ar), .val (.int s0), .val (.int (2 : Int32)), .val (.int (4 : Int32)), .val (.int v155), .val (.int (12 : Int32)), .val (.int v159), .val (.int v163), .val (.int (65536 : Int32)), .val (.int (1114111 : Int32)), .val (.int r_166), .val (.int r_171)] [(.int (57343 : Int32)), (.int r_171)]))
            have f178 := liI_57343
            by_cases c179 : 57343 < r_171.toInt
            ·
              refine Go.st (fun _ k => XS.icmpNo X169.here hx rfl (hb hby d2_300) rfl (tlt (ltI liI_57343 rfl c179)).2.2.2 k) ?_
              refine Go.st (fun _ k => XS.iconst X169.here hx rfl (hb hby d2_303) k) ?_
              refine Go.st (fun _ k => XS.goto X169.here hx rfl (pc0 := 304) (pc' := 308) rfl (hb hby d2_304) (by decide) (by decide) k) ?_
              show Go p e below s Q 0 0 (T169.setTop (mkF m 308 #[.val (.ref ar), .val (.int s0), .val (.int (2 : Int32)), .val (.int (4 : Int32)), .val (.int v155), .val (.int (12 : Int32)), .val (.int v159), .val (.int v163), .val (.int (65536 : Int32)), .val (.int (1114111 : Int32)), .val (.int r_166), .val (.int r_171)] [(.int (1 : Int32))]))
              exact Go.retN X169 hx hlk (by simp) Bd.returns (hb hby d2_308) (z' := (1 : Int32)) (by decide) (by rw [← hQ, e169]; exact ⟨(1 : Int32), rfl, N169, (by exact Or.inl ⟨by omega, (by unfold Vbl SecOk; omega), 4, (by unfold LenIs; omega)⟩), rfl⟩) (by decide) (by decide)
            ·
              refine Go.st (fun _ k => XS.icmpYes X169.here hx rfl (pc0 := 300) (pc' := 307) rfl (hb hby d2_300) rfl (flt (nltI liI_57343 rfl c179)).2.2.2 (by decide) (by decide) k) ?_
              refine Go.st (fun _ k => XS.iconst X169.here hx rfl (hb hby d2_307) k) ?_
              show Go p e below s Q 0 0 (T169.setTop (mkF m 308 #[.val (.ref ar), .val (.int s0), .val (.int (2 : Int32)), .val (.int (4 : Int32)), .val (.int v155), .val (.int (12 : Int32)), .val (.int v159), .val (.int v163), .val (.int (65536 : Int32)), .val (.int (1114111 : Int32)), .val (.int r_166), .val (.int r_171)] [(.int (0 : Int32))]))
              have f180 := liI_0
              exact Go.retN X169 hx hlk (by simp) Bd.returns (hb hby d2_308) (z' := (0 : Int32)) (by decide) (by rw [← hQ, e169]; exact ⟨(0 : Int32), rfl, N169, (by refine Or.inr ⟨by omega, ?_⟩; rintro ⟨hv, nn, hn⟩; unfold Vbl SecOk at hv; unfold LenIs at hn; omega), rfl⟩) (by decide) (by decide)
      ·
        refine Go.st (fun _ k => XS.icmpNo X7.here hx rfl (hb hby d2_72) rfl (feq (neI rfl liI_128 c147)).1 k) ?_
        refine Go.st (fun _ k => XS.iconst X7.here hx rfl (hb hby d2_75) k) ?_
        show Go p e below s Q 0 0 (T7.setTop (mkF m 76 #[.val (.ref ar), .val (.int s0), .val (.int (2 : Int32)), .val (.int (4 : Int32)), .val (.int v135), .val (.int v143), .unset, .unset, .unset, .unset, .unset, .unset] [(.int (0 : Int32))]))
        have f181 := liI_0
        exact Go.retN X7 hx hlk (by simp) Bd.returns (hb hby d2_76) (z' := (0 : Int32)) (by decide) (by rw [← hQ, e7]; exact ⟨(0 : Int32), rfl, N7, (by refine Or.inr ⟨by omega, ?_⟩; rintro ⟨hv, nn, hn⟩; unfold Vbl SecOk at hv; unfold LenIs at hn; omega), rfl⟩) (by decide) (by decide)
theorem d2_95 : decode method_3_code 95 = .ok (.aload_n 0, 1) := by decide +kernel
theorem d2_96 : decode method_3_code 96 = .ok (.iload_n 1, 1) := by decide +kernel
theorem d2_97 : decode method_3_code 97 = .ok (.iconst 2, 1) := by decide +kernel
theorem d2_98 : decode method_3_code 98 = .ok (.iadd, 1) := by decide +kernel
theorem d2_99 : decode method_3_code 99 = .ok (.iaload, 1) := by decide +kernel
theorem d2_100 : decode method_3_code 100 = .ok (.istore 5, 2) := by decide +kernel
theorem d2_102 : decode method_3_code 102 = .ok (.iload 5, 2) := by decide +kernel
theorem d2_104 : decode method_3_code 104 = .ok (.sipush 192, 3) := by decide +kernel
theorem d2_107 : decode method_3_code 107 = .ok (.iand, 1) := by decide +kernel
theorem d2_108 : decode method_3_code 108 = .ok (.sipush 128, 3) := by decide +kernel
theorem d2_111 : decode method_3_code 111 = .ok (.if_icmp .eq 5, 3) := by decide +kernel
theorem d2_116 : decode method_3_code 116 = .ok (.iload 4, 2) := by decide +kernel
theorem d2_118 : decode method_3_code 118 = .ok (.bipush 6, 2) := by decide +kernel
theorem d2_120 : decode method_3_code 120 = .ok (.ishl, 1) := by decide +kernel
theorem d2_121 : decode method_3_code 121 = .ok (.iload 5, 2) := by decide +kernel
theorem d2_123 : decode method_3_code 123 = .ok (.bipush 63, 2) := by decide +kernel
theorem d2_125 : decode method_3_code 125 = .ok (.iand, 1) := by decide +kernel
theorem d2_126 : decode method_3_code 126 = .ok (.ior, 1) := by decide +kernel
theorem d2_127 : decode method_3_code 127 = .ok (.istore 4, 2) := by decide +kernel
theorem d2_114 : decode method_3_code 114 = .ok (.iconst 0, 1) := by decide +kernel
theorem d2_115 : decode method_3_code 115 = .ok (.ireturn, 1) := by decide +kernel
theorem ef_rmv_3 (m : MethodId) (ar : Addr) (s0 : Int32) : entryFrame m #[(.ref ar), (.int s0), (.int (3 : Int32))] 12 = mkF m 0 #[.val (.ref ar), .val (.int s0), .val (.int (3 : Int32)), .unset, .unset, .unset, .unset, .unset, .unset, .unset, .unset, .unset] [] := by first | (simp [entryFrame, mkF, argsToLocals, Value.category]; done) | rfl
def Qv_3 (Z : State) (ar : Addr) (s0 : Int32) (f : Nat → Int32) (c0 : Int32) (c1 : Int32) (c2 : Int32) (c3 : Int32) (h0 : Heap) (n0 : Nat) (vv : Option Value) (h : Heap) (LL : List Loc) : Prop := ∃ (r : Int32), vv = some (.int r) ∧ Fr n0 LL ∧ ((r.toInt = 1 ∧ Vbl 3 c0.toInt c1.toInt c2.toInt c3.toInt ∧ ∃ n, LenIs c0.toInt n) ∨ (r.toInt = 0 ∧ ¬ (Vbl 3 c0.toInt c1.toInt c2.toInt c3.toInt ∧ ∃ n, LenIs c0.toInt n))) ∧ h = h0
set_option maxRecDepth 65536 in
set_option maxHeartbeats 40000000 in
theorem rmv_3 (l : Launch) (Z : State) (a0 : Array Value) (hw : ∀ d ∈ tables_1, d.before a0 Z = true) (ws : List Jvm.Cond) (ar : Addr) (s0 : Int32) (f : Nat → Int32) (c0 : Int32) (c1 : Int32) (c2 : Int32) (c3 : Int32) (h0 : Heap) (n0 : Nat) (Z0 : n0 ≤ h0.size) (hV : Vec Z h0 ar .int (4 : Int32) (ints f)) (hr : ∀ j : Nat, 0 ≤ (f j).toInt ∧ (f j).toInt ≤ 255) (hs0 : 0 ≤ s0.toInt ∧ s0.toInt + 3 ≤ 4) (hc0 : f (s0.toInt.toNat + 0) = c0) (hc1 : f (s0.toInt.toNat + 1) = c1) (hc2 : f (s0.toInt.toNat + 2) = c2) (hlen : LenGe c0.toInt 3) :
    MetFree l (⟨"com/example/ballast/ballast/json/Utf8CheckPinLaw", "viable", "([III)Z"⟩ : MethodName) (head1 (Jvm.Cond.code (⟨"com/example/ballast/ballast/json/Utf8CheckPinLaw", "viable", "([III)Z"⟩ : MethodName) method_3_code 12 (some .boolean) :: ws) ({ frames := 1, cells := 0, slots := 0, locals := 13 } : Room)) (fun aa UU => aa = #[(.ref ar), (.int s0), (.int (3 : Int32))] ∧ Z.Warmed39 UU.vm ∧ UU.heap = h0) (fun _ _ _ _ _ => True) (fun _ UU oo UU' => ∃ vv LL, oo = .returned vv ∧ Qv_3 Z ar s0 f c0 c1 c2 c3 h0 n0 vv UU'.heap LL ∧ FrameEnd UU oo UU' LL 0 0) := by
  refine MetFree.of_bodySF (plainFor_of_name pn_0) hisR ?_
  intro p e s m args below meth c s₁ Bd hml0 hP hK
  obtain ⟨rfl, hZ, hh⟩ := hP
  have hx := Bd.exec
  have hby := Bd.bytes
  have hlk : meth.locks = false := BodyLoose.notSynchronized Bd
  have hml : c.maxLocals = 12 := hml0
  have hown : s.vm.findClass "com/example/ballast/ballast/json/Utf8CheckPinLaw" = some m.cls := findClass_of_methodNamed Bd.named
  have hnm := (name_of_methodNamed Bd.named Bd.method).1
  have X0 : Stand p l e ({ frames := 1, cells := 0, slots := 0, locals := 13 } : Room) s m #[(.ref ar), (.int s0), (.int (3 : Int32))] below meth c s₁ [] 0 0 := Stand.of_body Bd
  have e0 : s₁.heap = h0 := by rw [← hh, Bd.state]; rfl
  have N0 := Fr.nil n0
  have K0 : Keep h0 h0 [] := Keep.refl h0 _
  refine (?_ : Go p e below s (Qv_3 Z ar s0 f c0 c1 c2 c3 h0 n0) 0 0 (s₁.setTop (entryFrame m #[(.ref ar), (.int s0), (.int (3 : Int32))] 12)))
  rw [ef_rmv_3]
  generalize hQ : Qv_3 Z ar s0 f c0 c1 c2 c3 h0 n0 = Q
  have hlen' := hlen
  unfold LenGe at hlen'
  have hrr0 : 0 ≤ c0.toInt ∧ c0.toInt ≤ 255 := by rw [← hc0]; exact hr _
  have hrr1 : 0 ≤ c1.toInt ∧ c1.toInt ≤ 255 := by rw [← hc1]; exact hr _
  have hrr2 : 0 ≤ c2.toInt ∧ c2.toInt ≤ 255 := by rw [← hc2]; exact hr _
  show Go p e below s Q 0 0 (s₁.setTop (mkF m 0 #[.val (.ref ar), .val (.int s0), .val (.int (3 : Int32)), .unset, .unset, .unset, .unset, .unset, .unset, .unset, .unset, .unset] []))
  have f1 := rng32 s0
  have f2 := liI_3
  refine Go.st (fun _ k => XS.aloadN X0.here hx rfl (hb hby d2_0) rfl rfl k) ?_
  refine Go.st (fun _ k => XS.iloadN X0.here hx rfl (hb hby d2_1) rfl k) ?_
  have f4 := liI_4
  have r5 : 0 ≤ s0.toInt := by omega
  have r6 : s0.toInt < (4 : Int32).toInt := by omega
  refine Go.st (Vec.ildI X0 hx hZ e0 hV (j := s0) r5 r6 (g := (mkF m 2 #[.val (.ref ar), .val (.int s0), .val (.int (3 : Int32)), .unset, .unset, .unset, .unset, .unset, .unset, .unset, .unset, .unset] [(.int s0), (.ref ar)])) rfl rfl (hb hby d2_2)) ?_
  show Go p e below s Q 0 0 (s₁.setTop (mkF m 3 #[.val (.ref ar), .val (.int s0), .val (.int (3 : Int32)), .unset, .unset, .unset, .unset, .unset, .unset, .unset, .unset, .unset] [(.int (f s0.toInt.toNat))]))
  have f8 := rng32 (f s0.toInt.toNat)
  have p9 : 0 ≤ (f s0.toInt.toNat).toInt ∧ (f s0.toInt.toNat).toInt < 256 := by have := hr s0.toInt.toNat; omega
  obtain ⟨_, _, ⟨T7, L7, k7, n7⟩, -, X7, ⟨Lc7, hQ7, l7, y7, z7⟩, st7⟩ := Jvm.LawKit.callS X0 hx (y := (⟨"com/example/ballast/ballast/json/Utf8CheckPinLaw", "len", "(I)I"⟩ : MethodName)) hown (mvT hZ (hw _ (List.mem_of_getElem? (i := 10) rfl))) (mvT hZ (hw _ (List.mem_of_getElem? (i := 11) rfl))) (mvT hZ (hw _ (List.mem_of_getElem? (i := 5) rfl))) (mvT hZ (hw _ (List.mem_of_getElem? (i := 12) rfl))) (by decide) (backOf (W := 0) (rm3 l Z a0 hw [] (f s0.toInt.toNat) h0 n0 (Nat.le_trans Z0 K0.1) p9) hZ (hw _ (List.mem_of_getElem? (i := 12) rfl)) (hw _ (List.mem_of_getElem? (i := 5) rfl)) (by decide) (by decide)) (g := (mkF m 3 #[.val (.ref ar), .val (.int s0), .val (.int (3 : Int32)), .unset, .unset, .unset, .unset, .unset, .unset, .unset, .unset, .unset] [(.int (f s0.toInt.toNat))])) rfl (by rw [hml]; rfl) (argsL := [(.int (f s0.toInt.toNat))]) (rest := []) (lenOf pd_0 rfl) rfl (by show 2 * 0 + _ ≤ _; exact Nat.le_of_eq rfl) (hb hby d2_3) (fun _ _ => ⟨rfl, e0, (by decide : 0 + 0 ≤ _), (by decide : 0 + 0 ≤ _)⟩)
  dsimp only [Pt.U, Pt.locs, Pt.cells, Pt.slots] at X7 l7 y7 z7 st7 hQ7
  subst y7 z7
  obtain ⟨r_10, rfl, N7q, f11, e7⟩ := hQ7
  have N7 : Fr n0 L7 := by rw [l7]; exact Fr.app N0 N7q
  refine Go.st st7 ?_
  show Go p e below s Q 0 0 (T7.setTop (mkF m 6 #[.val (.ref ar), .val (.int s0), .val (.int (3 : Int32)), .unset, .unset, .unset, .unset, .unset, .unset, .unset, .unset, .unset] [(.int r_10)]))
  have f12 := rng32 r_10
  have hL := f11
  unfold LenIs at hL
  have hc0' : (f s0.toInt.toNat).toInt = c0.toInt := by rw [← hc0]; rfl
  refine Go.st (fun _ k => XS.istoreN X7.here hx rfl (hb hby d2_6) rfl (l' := #[.val (.ref ar), .val (.int s0), .val (.int (3 : Int32)), .val (.int r_10), .unset, .unset, .unset, .unset, .unset, .unset, .unset, .unset]) rfl k) ?_
  refine Go.st (fun _ k => XS.iloadN X7.here hx rfl (hb hby d2_7) rfl k) ?_
  have f13 := liI_0
  by_cases c14 : r_10.toInt = 0
  ·
    refine Go.st (fun _ k => XS.ifNo X7.here hx rfl (hb hby d2_8) rfl ((if0 _ _).trans (teq (eqI rfl liI_0 c14)).2) k) ?_
    refine Go.st (fun _ k => XS.iconst X7.here hx rfl (hb hby d2_11) k) ?_
    show Go p e below s Q 0 0 (T7.setTop (mkF m 12 #[.val (.ref ar), .val (.int s0), .val (.int (3 : Int32)), .val (.int r_10), .unset, .unset, .unset, .unset, .unset, .unset, .unset, .unset] [(.int (0 : Int32))]))
    exact Go.retN X7 hx hlk (by simp) Bd.returns (hb hby d2_12) (z' := (0 : Int32)) (by decide) (by rw [← hQ, e7]; exact ⟨(0 : Int32), rfl, N7, (by refine Or.inr ⟨by omega, ?_⟩; rintro ⟨hv, nn, hn⟩; unfold Vbl SecOk at hv; unfold LenIs at hn; omega), rfl⟩) (by decide) (by decide)
  ·
    refine Go.st (fun _ k => XS.ifYes X7.here hx rfl (pc0 := 8) (pc' := 13) rfl (hb hby d2_8) rfl ((if0 _ _).trans (feq (neI rfl liI_0 c14)).2) (by decide) (by decide) k) ?_
    show Go p e below s Q 0 0 (T7.setTop (mkF m 13 #[.val (.ref ar), .val (.int s0), .val (.int (3 : Int32)), .val (.int r_10), .unset, .unset, .unset, .unset, .unset, .unset, .unset, .unset] []))
    have cs15 : r_10.toInt = 3 ∨ r_10.toInt = 4 := by omega
    rcases cs15 with cs16 | cs17
    ·
      have cs16' : r_10 = (3 : Int32) := eqI cs16 liI_3 rfl
      subst cs16'
      show Go p e below s Q 0 0 (T7.setTop (mkF m 13 #[.val (.ref ar), .val (.int s0), .val (.int (3 : Int32)), .val (.int (3 : Int32)), .unset, .unset, .unset, .unset, .unset, .unset, .unset, .unset] []))
      have f18 : 224 ≤ c0.toInt ∧ c0.toInt < 240 := by omega
      clear f1 f2 f4 f8 f11 f12 hL f13 c14 hlen'
      refine Go.st (fun _ k => XS.aloadN X7.here hx rfl (hb hby d2_13) rfl rfl k) ?_
      refine Go.st (fun _ k => XS.iloadN X7.here hx rfl (hb hby d2_14) rfl k) ?_
      have f20 := rng32 s0
      have f21 := liI_4
      have r22 : 0 ≤ s0.toInt := by omega
      have r23 : s0.toInt < (4 : Int32).toInt := by omega
      refine Go.st (Vec.ildI X7 hx hZ e7 hV (j := s0) r22 r23 (g := (mkF m 15 #[.val (.ref ar), .val (.int s0), .val (.int (3 : Int32)), .val (.int (3 : Int32)), .unset, .unset, .unset, .unset, .unset, .unset, .unset, .unset] [(.int s0), (.ref ar)])) rfl rfl (hb hby d2_15)) ?_
      show Go p e below s Q 0 0 (T7.setTop (mkF m 16 #[.val (.ref ar), .val (.int s0), .val (.int (3 : Int32)), .val (.int (3 : Int32)), .unset, .unset, .unset, .unset, .unset, .unset, .unset, .unset] [(.int (f s0.toInt.toNat))]))
      refine Go.st (fun _ k => XS.iloadN X7.here hx rfl (hb hby d2_16) rfl k) ?_
      refine Go.st (fun _ k => XS.iconst X7.here hx rfl (hb hby d2_17) k) ?_
      refine Go.st (fun _ k => XS.icmpYes X7.here hx rfl (pc0 := 18) (pc' := 26) rfl (hb hby d2_18) rfl (feq (neI liI_3 liI_1 (by decide))).2 (by decide) (by decide) k) ?_
      refine Go.st (fun _ k => XS.iloadN X7.here hx rfl (hb hby d2_26) rfl k) ?_
      refine Go.st (fun _ k => XS.iconst X7.here hx rfl (hb hby d2_27) k) ?_
      refine Go.st (fun _ k => XS.icmpYes X7.here hx rfl (pc0 := 28) (pc' := 36) rfl (hb hby d2_28) rfl (feq (neI liI_3 liI_2 (by decide))).2 (by decide) (by decide) k) ?_
      show Go p e below s Q 0 0 (T7.setTop (mkF m 36 #[.val (.ref ar), .val (.int s0), .val (.int (3 : Int32)), .val (.int (3 : Int32)), .unset, .unset, .unset, .unset, .unset, .unset, .unset, .unset] [(.int (f s0.toInt.toNat))]))
      refine Go.st (fun _ k => XS.iloadN X7.here hx rfl (hb hby d2_36) rfl k) ?_
      refine Go.st (fun _ k => XS.iconst X7.here hx rfl (hb hby d2_37) k) ?_
      refine Go.st (fun _ k => XS.icmpNo X7.here hx rfl (hb hby d2_38) rfl (teq (eqI liI_3 liI_3 (by decide))).2 k) ?_
      refine Go.st (fun _ k => XS.bipush X7.here hx rfl (hb hby d2_41) k) ?_
      refine Go.st (fun _ k => XS.goto X7.here hx rfl (pc0 := 43) (pc' := 48) rfl (hb hby d2_43) (by decide) (by decide) k) ?_
      refine Go.st (fun _ k => XS.iand X7.here hx rfl (hb hby d2_48) rfl k) ?_
      show Go p e below s Q 0 0 (T7.setTop (mkF m 49 #[.val (.ref ar), .val (.int s0), .val (.int (3 : Int32)), .val (.int (3 : Int32)), .unset, .unset, .unset, .unset, .unset, .unset, .unset, .unset] [(.int ((f s0.toInt.toNat) &&& (15 : Int32)))]))
      refine Go.st (fun _ k => XS.istore X7.here hx rfl (hb hby d2_49) rfl (l' := #[.val (.ref ar), .val (.int s0), .val (.int (3 : Int32)), .val (.int (3 : Int32)), .val (.int ((f s0.toInt.toNat) &&& (15 : Int32))), .unset, .unset, .unset, .unset, .unset, .unset, .unset]) rfl k) ?_
      show Go p e below s Q 0 0 (T7.setTop (mkF m 51 #[.val (.ref ar), .val (.int s0), .val (.int (3 : Int32)), .val (.int (3 : Int32)), .val (.int ((f s0.toInt.toNat) &&& (15 : Int32))), .unset, .unset, .unset, .unset, .unset, .unset, .unset] []))
      have f24 := rng32 (f s0.toInt.toNat)
      have f25 := liI_15
      have f26 : ((f s0.toInt.toNat) &&& (15 : Int32)).toInt = (f s0.toInt.toNat).toInt % 16 := c_mask (f s0.toInt.toNat) (15 : Int32) 4 (by decide) (by decide)
      generalize hv_v27 : ((f s0.toInt.toNat) &&& (15 : Int32)) = v27 at f26 ⊢
      refine Go.st (fun _ k => XS.iloadN X7.here hx rfl (hb hby d2_51) rfl k) ?_
      refine Go.st (fun _ k => XS.iconst X7.here hx rfl (hb hby d2_52) k) ?_
      refine Go.st (fun _ k => XS.icmpNo X7.here hx rfl (hb hby d2_53) rfl (flt (nltI liI_3 liI_2 (by decide))).1 k) ?_
      refine Go.st (fun _ k => XS.aloadN X7.here hx rfl (hb hby d2_56) rfl rfl k) ?_
      refine Go.st (fun _ k => XS.iloadN X7.here hx rfl (hb hby d2_57) rfl k) ?_
      refine Go.st (fun _ k => XS.iconst X7.here hx rfl (hb hby d2_58) k) ?_
      show Go p e below s Q 0 0 (T7.setTop (mkF m 59 #[.val (.ref ar), .val (.int s0), .val (.int (3 : Int32)), .val (.int (3 : Int32)), .val (.int v27), .unset, .unset, .unset, .unset, .unset, .unset, .unset] [(.int (1 : Int32)), (.int s0), (.ref ar)]))
      refine Go.st (fun _ k => XS.iadd X7.here hx rfl (hb hby d2_59) rfl k) ?_
      have f29 := liI_1
      have f30 := c_iadd s0 (1 : Int32)
      have f31 := rng32 (s0 + (1 : Int32))
      have r32 : 0 ≤ (s0 + (1 : Int32)).toInt := by omega
      have r33 : (s0 + (1 : Int32)).toInt < (4 : Int32).toInt := by omega
      refine Go.st (Vec.ildI X7 hx hZ e7 hV (j := (s0 + (1 : Int32))) r32 r33 (g := (mkF m 60 #[.val (.ref ar), .val (.int s0), .val (.int (3 : Int32)), .val (.int (3 : Int32)), .val (.int v27), .unset, .unset, .unset, .unset, .unset, .unset, .unset] [(.int (s0 + (1 : Int32))), (.ref ar)])) rfl rfl (hb hby d2_60)) ?_
      show Go p e below s Q 0 0 (T7.setTop (mkF m 61 #[.val (.ref ar), .val (.int s0), .val (.int (3 : Int32)), .val (.int (3 : Int32)), .val (.int v27), .unset, .unset, .unset, .unset, .unset, .unset, .unset] [(.int (f (s0 + (1 : Int32)).toInt.toNat))]))
      refine Go.st (fun _ k => XS.istore X7.here hx rfl (hb hby d2_61) rfl (l' := #[.val (.ref ar), .val (.int s0), .val (.int (3 : Int32)), .val (.int (3 : Int32)), .val (.int v27), .val (.int (f (s0 + (1 : Int32)).toInt.toNat)), .unset, .unset, .unset, .unset, .unset, .unset]) rfl k) ?_
      show Go p e below s Q 0 0 (T7.setTop (mkF m 63 #[.val (.ref ar), .val (.int s0), .val (.int (3 : Int32)), .val (.int (3 : Int32)), .val (.int v27), .val (.int (f (s0 + (1 : Int32)).toInt.toNat)), .unset, .unset, .unset, .unset, .unset, .unset] []))
      have f34 := rng32 (f (s0 + (1 : Int32)).toInt.toNat)
      generalize hv_v35 : (f (s0 + (1 : Int32)).toInt.toNat) = v35 at f34 ⊢
      have hq1 : v35.toInt = c1.toInt := by rw [← hv_v35, ← hc1]; congr 2; omega
      refine Go.st (fun _ k => XS.iload X7.here hx rfl (hb hby d2_63) rfl k) ?_
      refine Go.st (fun _ k => XS.sipush X7.here hx rfl (hb hby d2_65) k) ?_
      refine Go.st (fun _ k => XS.iand X7.here hx rfl (hb hby d2_68) rfl k) ?_
      refine Go.st (fun _ k => XS.sipush X7.here hx rfl (hb hby d2_69) k) ?_
      have f36 := liI_192
      have f37 := himask_192 v35 (by omega)
      have f38 := liI_128
      by_cases c39 : (v35 &&& (192 : Int32)).toInt = 128
      ·
        refine Go.st (fun _ k => XS.icmpYes X7.here hx rfl (pc0 := 72) (pc' := 77) rfl (hb hby d2_72) rfl (teq (eqI rfl liI_128 c39)).1 (by decide) (by decide) k) ?_
        refine Go.st (fun _ k => XS.iload X7.here hx rfl (hb hby d2_77) rfl k) ?_
        show Go p e below s Q 0 0 (T7.setTop (mkF m 79 #[.val (.ref ar), .val (.int s0), .val (.int (3 : Int32)), .val (.int (3 : Int32)), .val (.int v27), .val (.int v35), .unset, .unset, .unset, .unset, .unset, .unset] [(.int v27)]))
        refine Go.st (fun _ k => XS.bipush X7.here hx rfl (hb hby d2_79) k) ?_
        refine Go.st (fun _ k => XS.ishl X7.here hx rfl (hb hby d2_81) rfl k) ?_
        refine Go.st (fun _ k => XS.iload X7.here hx rfl (hb hby d2_82) rfl k) ?_
        refine Go.st (fun _ k => XS.bipush X7.here hx rfl (hb hby d2_84) k) ?_
        refine Go.st (fun _ k => XS.iand X7.here hx rfl (hb hby d2_86) rfl k) ?_
        refine Go.st (fun _ k => XS.ior X7.here hx rfl (hb hby d2_87) rfl k) ?_
        show Go p e below s Q 0 0 (T7.setTop (mkF m 88 #[.val (.ref ar), .val (.int s0), .val (.int (3 : Int32)), .val (.int (3 : Int32)), .val (.int v27), .val (.int v35), .unset, .unset, .unset, .unset, .unset, .unset] [(.int ((v27 <<< ((6 : Int32) &&& 31)) ||| (v35 &&& (63 : Int32))))]))
        refine Go.st (fun _ k => XS.istore X7.here hx rfl (hb hby d2_88) rfl (l' := #[.val (.ref ar), .val (.int s0), .val (.int (3 : Int32)), .val (.int (3 : Int32)), .val (.int ((v27 <<< ((6 : Int32) &&& 31)) ||| (v35 &&& (63 : Int32)))), .val (.int v35), .unset, .unset, .unset, .unset, .unset, .unset]) rfl k) ?_
        show Go p e below s Q 0 0 (T7.setTop (mkF m 90 #[.val (.ref ar), .val (.int s0), .val (.int (3 : Int32)), .val (.int (3 : Int32)), .val (.int ((v27 <<< ((6 : Int32) &&& 31)) ||| (v35 &&& (63 : Int32)))), .val (.int v35), .unset, .unset, .unset, .unset, .unset, .unset] []))
        have f40 := liI_6
        have f41 : ((v27 <<< ((6 : Int32) &&& 31)).toInt - v27.toInt * 64) % 4294967296 = 0 := c_ishl v27 (6 : Int32) 6 (by decide)
        have f42 := rng32 (v27 <<< ((6 : Int32) &&& 31))
        have f43 := liI_63
        have f44 : (v35 &&& (63 : Int32)).toInt = v35.toInt % 64 := c_mask v35 (63 : Int32) 6 (by decide) (by decide)
        have f45 := c_or (v27 <<< ((6 : Int32) &&& 31)) (v35 &&& (63 : Int32)) 6 (by decide) 64 (by decide) (by omega) (by omega) (by omega)
        have f46 := rng32 ((v27 <<< ((6 : Int32) &&& 31)) ||| (v35 &&& (63 : Int32)))
        generalize hv_v47 : ((v27 <<< ((6 : Int32) &&& 31)) ||| (v35 &&& (63 : Int32))) = v47 at f45 f46 ⊢
        refine Go.st (fun _ k => XS.iloadN X7.here hx rfl (hb hby d2_90) rfl k) ?_
        refine Go.st (fun _ k => XS.iconst X7.here hx rfl (hb hby d2_91) k) ?_
        refine Go.st (fun _ k => XS.icmpNo X7.here hx rfl (hb hby d2_92) rfl (flt (nltI liI_3 liI_3 (by decide))).1 k) ?_
        refine Go.st (fun _ k => XS.aloadN X7.here hx rfl (hb hby d2_95) rfl rfl k) ?_
        refine Go.st (fun _ k => XS.iloadN X7.here hx rfl (hb hby d2_96) rfl k) ?_
        refine Go.st (fun _ k => XS.iconst X7.here hx rfl (hb hby d2_97) k) ?_
        show Go p e below s Q 0 0 (T7.setTop (mkF m 98 #[.val (.ref ar), .val (.int s0), .val (.int (3 : Int32)), .val (.int (3 : Int32)), .val (.int v47), .val (.int v35), .unset, .unset, .unset, .unset, .unset, .unset] [(.int (2 : Int32)), (.int s0), (.ref ar)]))
        refine Go.st (fun _ k => XS.iadd X7.here hx rfl (hb hby d2_98) rfl k) ?_
        have f49 := liI_2
        have f50 := c_iadd s0 (2 : Int32)
        have f51 := rng32 (s0 + (2 : Int32))
        have r52 : 0 ≤ (s0 + (2 : Int32)).toInt := by omega
        have r53 : (s0 + (2 : Int32)).toInt < (4 : Int32).toInt := by omega
        refine Go.st (Vec.ildI X7 hx hZ e7 hV (j := (s0 + (2 : Int32))) r52 r53 (g := (mkF m 99 #[.val (.ref ar), .val (.int s0), .val (.int (3 : Int32)), .val (.int (3 : Int32)), .val (.int v47), .val (.int v35), .unset, .unset, .unset, .unset, .unset, .unset] [(.int (s0 + (2 : Int32))), (.ref ar)])) rfl rfl (hb hby d2_99)) ?_
        show Go p e below s Q 0 0 (T7.setTop (mkF m 100 #[.val (.ref ar), .val (.int s0), .val (.int (3 : Int32)), .val (.int (3 : Int32)), .val (.int v47), .val (.int v35), .unset, .unset, .unset, .unset, .unset, .unset] [(.int (f (s0 + (2 : Int32)).toInt.toNat))]))
        refine Go.st (fun _ k => XS.istore X7.here hx rfl (hb hby d2_100) rfl (l' := #[.val (.ref ar), .val (.int s0), .val (.int (3 : Int32)), .val (.int (3 : Int32)), .val (.int v47), .val (.int (f (s0 + (2 : Int32)).toInt.toNat)), .unset, .unset, .unset, .unset, .unset, .unset]) rfl k) ?_
        show Go p e below s Q 0 0 (T7.setTop (mkF m 102 #[.val (.ref ar), .val (.int s0), .val (.int (3 : Int32)), .val (.int (3 : Int32)), .val (.int v47), .val (.int (f (s0 + (2 : Int32)).toInt.toNat)), .unset, .unset, .unset, .unset, .unset, .unset] []))
        have f54 := rng32 (f (s0 + (2 : Int32)).toInt.toNat)
        generalize hv_v55 : (f (s0 + (2 : Int32)).toInt.toNat) = v55 at f54 ⊢
        have hq2 : v55.toInt = c2.toInt := by rw [← hv_v55, ← hc2]; congr 2; omega
        refine Go.st (fun _ k => XS.iload X7.here hx rfl (hb hby d2_102) rfl k) ?_
        refine Go.st (fun _ k => XS.sipush X7.here hx rfl (hb hby d2_104) k) ?_
        refine Go.st (fun _ k => XS.iand X7.here hx rfl (hb hby d2_107) rfl k) ?_
        refine Go.st (fun _ k => XS.sipush X7.here hx rfl (hb hby d2_108) k) ?_
        have f56 := himask_192 v55 (by omega)
        by_cases c57 : (v55 &&& (192 : Int32)).toInt = 128
        ·
          refine Go.st (fun _ k => XS.icmpYes X7.here hx rfl (pc0 := 111) (pc' := 116) rfl (hb hby d2_111) rfl (teq (eqI rfl liI_128 c57)).1 (by decide) (by decide) k) ?_
          refine Go.st (fun _ k => XS.iload X7.here hx rfl (hb hby d2_116) rfl k) ?_
          show Go p e below s Q 0 0 (T7.setTop (mkF m 118 #[.val (.ref ar), .val (.int s0), .val (.int (3 : Int32)), .val (.int (3 : Int32)), .val (.int v47), .val (.int v55), .unset, .unset, .unset, .unset, .unset, .unset] [(.int v47)]))
          refine Go.st (fun _ k => XS.bipush X7.here hx rfl (hb hby d2_118) k) ?_
          refine Go.st (fun _ k => XS.ishl X7.here hx rfl (hb hby d2_120) rfl k) ?_
          refine Go.st (fun _ k => XS.iload X7.here hx rfl (hb hby d2_121) rfl k) ?_
          refine Go.st (fun _ k => XS.bipush X7.here hx rfl (hb hby d2_123) k) ?_
          refine Go.st (fun _ k => XS.iand X7.here hx rfl (hb hby d2_125) rfl k) ?_
          refine Go.st (fun _ k => XS.ior X7.here hx rfl (hb hby d2_126) rfl k) ?_
          show Go p e below s Q 0 0 (T7.setTop (mkF m 127 #[.val (.ref ar), .val (.int s0), .val (.int (3 : Int32)), .val (.int (3 : Int32)), .val (.int v47), .val (.int v55), .unset, .unset, .unset, .unset, .unset, .unset] [(.int ((v47 <<< ((6 : Int32) &&& 31)) ||| (v55 &&& (63 : Int32))))]))
          refine Go.st (fun _ k => XS.istore X7.here hx rfl (hb hby d2_127) rfl (l' := #[.val (.ref ar), .val (.int s0), .val (.int (3 : Int32)), .val (.int (3 : Int32)), .val (.int ((v47 <<< ((6 : Int32) &&& 31)) ||| (v55 &&& (63 : Int32)))), .val (.int v55), .unset, .unset, .unset, .unset, .unset, .unset]) rfl k) ?_
          show Go p e below s Q 0 0 (T7.setTop (mkF m 129 #[.val (.ref ar), .val (.int s0), .val (.int (3 : Int32)), .val (.int (3 : Int32)), .val (.int ((v47 <<< ((6 : Int32) &&& 31)) ||| (v55 &&& (63 : Int32)))), .val (.int v55), .unset, .unset, .unset, .unset, .unset, .unset] []))
          have f58 : ((v47 <<< ((6 : Int32) &&& 31)).toInt - v47.toInt * 64) % 4294967296 = 0 := c_ishl v47 (6 : Int32) 6 (by decide)
          have f59 := rng32 (v47 <<< ((6 : Int32) &&& 31))
          have f60 : (v55 &&& (63 : Int32)).toInt = v55.toInt % 64 := c_mask v55 (63 : Int32) 6 (by decide) (by decide)
          have f61 := c_or (v47 <<< ((6 : Int32) &&& 31)) (v55 &&& (63 : Int32)) 6 (by decide) 64 (by decide) (by omega) (by omega) (by omega)
          have f62 := rng32 ((v47 <<< ((6 : Int32) &&& 31)) ||| (v55 &&& (63 : Int32)))
          generalize hv_v63 : ((v47 <<< ((6 : Int32) &&& 31)) ||| (v55 &&& (63 : Int32))) = v63 at f61 f62 ⊢
          refine Go.st (fun _ k => XS.iloadN X7.here hx rfl (hb hby d2_129) rfl k) ?_
          refine Go.st (fun _ k => XS.iconst X7.here hx rfl (hb hby d2_130) k) ?_
          refine Go.st (fun _ k => XS.icmpYes X7.here hx rfl (pc0 := 131) (pc' := 168) rfl (hb hby d2_131) rfl (tlt (ltI liI_3 liI_4 (by decide))).1 (by decide) (by decide) k) ?_
          refine Go.st (fun _ k => XS.bipush X7.here hx rfl (hb hby d2_168) k) ?_
          refine Go.st (fun _ k => XS.iloadN X7.here hx rfl (hb hby d2_170) rfl k) ?_
          refine Go.st (fun _ k => XS.iloadN X7.here hx rfl (hb hby d2_171) rfl k) ?_
          show Go p e below s Q 0 0 (T7.setTop (mkF m 172 #[.val (.ref ar), .val (.int s0), .val (.int (3 : Int32)), .val (.int (3 : Int32)), .val (.int v63), .val (.int v55), .unset, .unset, .unset, .unset, .unset, .unset] [(.int (3 : Int32)), (.int (3 : Int32)), (.int (6 : Int32))]))
          refine Go.st (fun _ k => XS.isub X7.here hx rfl (hb hby d2_172) rfl k) ?_
          refine Go.st (fun _ k => XS.imul X7.here hx rfl (hb hby d2_173) rfl k) ?_
          refine Go.st (fun _ k => XS.istore X7.here hx rfl (hb hby d2_174) rfl (l' := #[.val (.ref ar), .val (.int s0), .val (.int (3 : Int32)), .val (.int (3 : Int32)), .val (.int v63), .val (.int (0 : Int32)), .unset, .unset, .unset, .unset, .unset, .unset]) rfl k) ?_
          refine Go.st (fun _ k => XS.iload X7.here hx rfl (hb hby d2_176) rfl k) ?_
          refine Go.st (fun _ k => XS.iload X7.here hx rfl (hb hby d2_178) rfl k) ?_
          refine Go.st (fun _ k => XS.ishl X7.here hx rfl (hb hby d2_180) rfl k) ?_
          show Go p e below s Q 0 0 (T7.setTop (mkF m 181 #[.val (.ref ar), .val (.int s0), .val (.int (3 : Int32)), .val (.int (3 : Int32)), .val (.int v63), .val (.int (0 : Int32)), .unset, .unset, .unset, .unset, .unset, .unset] [(.int (v63 <<< ((0 : Int32) &&& 31)))]))
          refine Go.st (fun _ k => XS.istore X7.here hx rfl (hb hby d2_181) rfl (l' := #[.val (.ref ar), .val (.int s0), .val (.int (3 : Int32)), .val (.int (3 : Int32)), .val (.int v63), .val (.int (0 : Int32)), .val (.int (v63 <<< ((0 : Int32) &&& 31))), .unset, .unset, .unset, .unset, .unset]) rfl k) ?_
          show Go p e below s Q 0 0 (T7.setTop (mkF m 183 #[.val (.ref ar), .val (.int s0), .val (.int (3 : Int32)), .val (.int (3 : Int32)), .val (.int v63), .val (.int (0 : Int32)), .val (.int (v63 <<< ((0 : Int32) &&& 31))), .unset, .unset, .unset, .unset, .unset] []))
          have f64 := liI_0
          have f65 : ((v63 <<< ((0 : Int32) &&& 31)).toInt - v63.toInt * 1) % 4294967296 = 0 := c_ishl v63 (0 : Int32) 0 (by decide)
          have f66 := rng32 (v63 <<< ((0 : Int32) &&& 31))
          generalize hv_v67 : (v63 <<< ((0 : Int32) &&& 31)) = v67 at f65 f66 ⊢
          refine Go.st (fun _ k => XS.iload X7.here hx rfl (hb hby d2_183) rfl k) ?_
          refine Go.st (fun _ k => XS.iconst X7.here hx rfl (hb hby d2_185) k) ?_
          refine Go.st (fun _ k => XS.iload X7.here hx rfl (hb hby d2_186) rfl k) ?_
          refine Go.st (fun _ k => XS.ishl X7.here hx rfl (hb hby d2_188) rfl k) ?_
          refine Go.st (fun _ k => XS.iconst X7.here hx rfl (hb hby d2_189) k) ?_
          refine Go.st (fun _ k => XS.isub X7.here hx rfl (hb hby d2_190) rfl k) ?_
          show Go p e below s Q 0 0 (T7.setTop (mkF m 191 #[.val (.ref ar), .val (.int s0), .val (.int (3 : Int32)), .val (.int (3 : Int32)), .val (.int v63), .val (.int (0 : Int32)), .val (.int v67), .unset, .unset, .unset, .unset, .unset] [(.int (0 : Int32)), (.int v67)]))
          refine Go.st (fun _ k => XS.ior X7.here hx rfl (hb hby d2_191) rfl k) ?_
          refine Go.st (fun _ k => XS.istore X7.here hx rfl (hb hby d2_192) rfl (l' := #[.val (.ref ar), .val (.int s0), .val (.int (3 : Int32)), .val (.int (3 : Int32)), .val (.int v63), .val (.int (0 : Int32)), .val (.int v67), .val (.int (v67 ||| (0 : Int32))), .unset, .unset, .unset, .unset]) rfl k) ?_
          show Go p e below s Q 0 0 (T7.setTop (mkF m 194 #[.val (.ref ar), .val (.int s0), .val (.int (3 : Int32)), .val (.int (3 : Int32)), .val (.int v63), .val (.int (0 : Int32)), .val (.int v67), .val (.int (v67 ||| (0 : Int32))), .unset, .unset, .unset, .unset] []))
          have f68 := c_or v67 (0 : Int32) 0 (by decide) 1 (by decide) (by omega) (by omega) (by omega)
          have f69 := rng32 (v67 ||| (0 : Int32))
          generalize hv_v70 : (v67 ||| (0 : Int32)) = v70 at f68 f69 ⊢
          refine Go.st (fun _ k => XS.iloadN X7.here hx rfl (hb hby d2_194) rfl k) ?_
          refine Go.st (fun _ k => XS.iconst X7.here hx rfl (hb hby d2_195) k) ?_
          refine Go.st (fun _ k => XS.icmpYes X7.here hx rfl (pc0 := 196) (pc' := 203) rfl (hb hby d2_196) rfl (feq (neI liI_3 liI_1 (by decide))).2 (by decide) (by decide) k) ?_
          refine Go.st (fun _ k => XS.iloadN X7.here hx rfl (hb hby d2_203) rfl k) ?_
          refine Go.st (fun _ k => XS.iconst X7.here hx rfl (hb hby d2_204) k) ?_
          refine Go.st (fun _ k => XS.icmpYes X7.here hx rfl (pc0 := 205) (pc' := 214) rfl (hb hby d2_205) rfl (feq (neI liI_3 liI_2 (by decide))).2 (by decide) (by decide) k) ?_
          show Go p e below s Q 0 0 (T7.setTop (mkF m 214 #[.val (.ref ar), .val (.int s0), .val (.int (3 : Int32)), .val (.int (3 : Int32)), .val (.int v63), .val (.int (0 : Int32)), .val (.int v67), .val (.int v70), .unset, .unset, .unset, .unset] []))
          refine Go.st (fun _ k => XS.iloadN X7.here hx rfl (hb hby d2_214) rfl k) ?_
          refine Go.st (fun _ k => XS.iconst X7.here hx rfl (hb hby d2_215) k) ?_
          refine Go.st (fun _ k => XS.icmpNo X7.here hx rfl (hb hby d2_216) rfl (teq (eqI liI_3 liI_3 (by decide))).2 k) ?_
          refine Go.st (fun _ k => XS.sipush X7.here hx rfl (hb hby d2_219) k) ?_
          refine Go.st (fun _ k => XS.goto X7.here hx rfl (pc0 := 222) (pc' := 227) rfl (hb hby d2_222) (by decide) (by decide) k) ?_
          refine Go.st (fun _ k => XS.istore X7.here hx rfl (hb hby d2_227) rfl (l' := #[.val (.ref ar), .val (.int s0), .val (.int (3 : Int32)), .val (.int (3 : Int32)), .val (.int v63), .val (.int (0 : Int32)), .val (.int v67), .val (.int v70), .val (.int (2048 : Int32)), .unset, .unset, .unset]) rfl k) ?_
          show Go p e below s Q 0 0 (T7.setTop (mkF m 229 #[.val (.ref ar), .val (.int s0), .val (.int (3 : Int32)), .val (.int (3 : Int32)), .val (.int v63), .val (.int (0 : Int32)), .val (.int v67), .val (.int v70), .val (.int (2048 : Int32)), .unset, .unset, .unset] []))
          refine Go.st (fun _ k => XS.iloadN X7.here hx rfl (hb hby d2_229) rfl k) ?_
          refine Go.st (fun _ k => XS.iconst X7.here hx rfl (hb hby d2_230) k) ?_
          refine Go.st (fun _ k => XS.icmpYes X7.here hx rfl (pc0 := 231) (pc' := 239) rfl (hb hby d2_231) rfl (feq (neI liI_3 liI_1 (by decide))).2 (by decide) (by decide) k) ?_
          refine Go.st (fun _ k => XS.iloadN X7.here hx rfl (hb hby d2_239) rfl k) ?_
          refine Go.st (fun _ k => XS.iconst X7.here hx rfl (hb hby d2_240) k) ?_
          refine Go.st (fun _ k => XS.icmpYes X7.here hx rfl (pc0 := 241) (pc' := 250) rfl (hb hby d2_241) rfl (feq (neI liI_3 liI_2 (by decide))).2 (by decide) (by decide) k) ?_
          show Go p e below s Q 0 0 (T7.setTop (mkF m 250 #[.val (.ref ar), .val (.int s0), .val (.int (3 : Int32)), .val (.int (3 : Int32)), .val (.int v63), .val (.int (0 : Int32)), .val (.int v67), .val (.int v70), .val (.int (2048 : Int32)), .unset, .unset, .unset] []))
          refine Go.st (fun _ k => XS.iloadN X7.here hx rfl (hb hby d2_250) rfl k) ?_
          refine Go.st (fun _ k => XS.iconst X7.here hx rfl (hb hby d2_251) k) ?_
          refine Go.st (fun _ k => XS.icmpNo X7.here hx rfl (hb hby d2_252) rfl (teq (eqI liI_3 liI_3 (by decide))).2 k) ?_
          refine Go.st (X7.ldcInt hx hown (mvT hZ (hw _ (List.mem_of_getElem? (i := 46) rfl))) (g := (mkF m 255 #[.val (.ref ar), .val (.int s0), .val (.int (3 : Int32)), .val (.int (3 : Int32)), .val (.int v63), .val (.int (0 : Int32)), .val (.int v67), .val (.int v70), .val (.int (2048 : Int32)), .unset, .unset, .unset] [])) rfl (hb hby d2_255)) ?_
          show Go p e below s Q 0 0 (T7.setTop (mkF m 257 #[.val (.ref ar), .val (.int s0), .val (.int (3 : Int32)), .val (.int (3 : Int32)), .val (.int v63), .val (.int (0 : Int32)), .val (.int v67), .val (.int v70), .val (.int (2048 : Int32)), .unset, .unset, .unset] [(.int (65535 : Int32))]))
          refine Go.st (fun _ k => XS.goto X7.here hx rfl (pc0 := 257) (pc' := 262) rfl (hb hby d2_257) (by decide) (by decide) k) ?_
          refine Go.st (fun _ k => XS.istore X7.here hx rfl (hb hby d2_262) rfl (l' := #[.val (.ref ar), .val (.int s0), .val (.int (3 : Int32)), .val (.int (3 : Int32)), .val (.int v63), .val (.int (0 : Int32)), .val (.int v67), .val (.int v70), .val (.int (2048 : Int32)), .val (.int (65535 : Int32)), .unset, .unset]) rfl k) ?_
          refine Go.st (fun _ k => XS.iload X7.here hx rfl (hb hby d2_264) rfl k) ?_
          refine Go.st (fun _ k => XS.iload X7.here hx rfl (hb hby d2_266) rfl k) ?_
          have f72 := liI_2048
          obtain ⟨_, _, ⟨T71, L71, k71, n71⟩, -, X71, ⟨Lc71, hQ71, l71, y71, z71⟩, st71⟩ := Jvm.LawKit.callS X7 hx (y := (⟨"java/lang/Math", "max", "(II)I"⟩ : MethodName)) hown (mvT hZ (hw _ (List.mem_of_getElem? (i := 13) rfl))) (mvT hZ (hw _ (List.mem_of_getElem? (i := 14) rfl))) (mvT hZ (hw _ (List.mem_of_getElem? (i := 15) rfl))) (mvT hZ (hw _ (List.mem_of_getElem? (i := 16) rfl))) (by decide) (backOf (W := 0) (rm4 l Z a0 hw [] v67 (2048 : Int32) h0 n0 (Nat.le_trans Z0 K0.1) ) hZ (hw _ (List.mem_of_getElem? (i := 16) rfl)) (hw _ (List.mem_of_getElem? (i := 15) rfl)) (by decide) (by decide)) (g := (mkF m 268 #[.val (.ref ar), .val (.int s0), .val (.int (3 : Int32)), .val (.int (3 : Int32)), .val (.int v63), .val (.int (0 : Int32)), .val (.int v67), .val (.int v70), .val (.int (2048 : Int32)), .val (.int (65535 : Int32)), .unset, .unset] [(.int (2048 : Int32)), (.int v67)])) rfl (by rw [hml]; rfl) (argsL := [(.int v67), (.int (2048 : Int32))]) (rest := []) (lenOf pd_1 rfl) rfl (by show 2 * 0 + _ ≤ _; exact Nat.le_of_eq rfl) (hb hby d2_268) (fun _ _ => ⟨rfl, e7, (by decide : 0 + 0 ≤ _), (by decide : 0 + 0 ≤ _)⟩)
          dsimp only [Pt.U, Pt.locs, Pt.cells, Pt.slots] at X71 l71 y71 z71 st71 hQ71
          subst y71 z71
          obtain ⟨r_73, rfl, N71q, f74, e71⟩ := hQ71
          have N71 : Fr n0 L71 := by rw [l71]; exact Fr.app N7 N71q
          refine Go.st st71 ?_
          show Go p e below s Q 0 0 (T71.setTop (mkF m 271 #[.val (.ref ar), .val (.int s0), .val (.int (3 : Int32)), .val (.int (3 : Int32)), .val (.int v63), .val (.int (0 : Int32)), .val (.int v67), .val (.int v70), .val (.int (2048 : Int32)), .val (.int (65535 : Int32)), .unset, .unset] [(.int r_73)]))
          have f75 := rng32 r_73
          refine Go.st (fun _ k => XS.istore X71.here hx rfl (hb hby d2_271) rfl (l' := #[.val (.ref ar), .val (.int s0), .val (.int (3 : Int32)), .val (.int (3 : Int32)), .val (.int v63), .val (.int (0 : Int32)), .val (.int v67), .val (.int v70), .val (.int (2048 : Int32)), .val (.int (65535 : Int32)), .val (.int r_73), .unset]) rfl k) ?_
          refine Go.st (fun _ k => XS.iload X71.here hx rfl (hb hby d2_273) rfl k) ?_
          refine Go.st (fun _ k => XS.iload X71.here hx rfl (hb hby d2_275) rfl k) ?_
          have f77 := liI_65535
          obtain ⟨_, _, ⟨T76, L76, k76, n76⟩, -, X76, ⟨Lc76, hQ76, l76, y76, z76⟩, st76⟩ := Jvm.LawKit.callS X71 hx (y := (⟨"java/lang/Math", "min", "(II)I"⟩ : MethodName)) hown (mvT hZ (hw _ (List.mem_of_getElem? (i := 17) rfl))) (mvT hZ (hw _ (List.mem_of_getElem? (i := 18) rfl))) (mvT hZ (hw _ (List.mem_of_getElem? (i := 15) rfl))) (mvT hZ (hw _ (List.mem_of_getElem? (i := 19) rfl))) (by decide) (backOf (W := 0) (rm5 l Z a0 hw [] v70 (65535 : Int32) h0 n0 (Nat.le_trans Z0 K0.1) ) hZ (hw _ (List.mem_of_getElem? (i := 19) rfl)) (hw _ (List.mem_of_getElem? (i := 15) rfl)) (by decide) (by decide)) (g := (mkF m 277 #[.val (.ref ar), .val (.int s0), .val (.int (3 : Int32)), .val (.int (3 : Int32)), .val (.int v63), .val (.int (0 : Int32)), .val (.int v67), .val (.int v70), .val (.int (2048 : Int32)), .val (.int (65535 : Int32)), .val (.int r_73), .unset] [(.int (65535 : Int32)), (.int v70)])) rfl (by rw [hml]; rfl) (argsL := [(.int v70), (.int (65535 : Int32))]) (rest := []) (lenOf pd_1 rfl) rfl (by show 2 * 0 + _ ≤ _; exact Nat.le_of_eq rfl) (hb hby d2_277) (fun _ _ => ⟨rfl, e71, (by decide : 0 + 0 ≤ _), (by decide : 0 + 0 ≤ _)⟩)
          dsimp only [Pt.U, Pt.locs, Pt.cells, Pt.slots] at X76 l76 y76 z76 st76 hQ76
          subst y76 z76
          obtain ⟨r_78, rfl, N76q, f79, e76⟩ := hQ76
          have N76 : Fr n0 L76 := by rw [l76]; exact Fr.app N71 N76q
          refine Go.st st76 ?_
          show Go p e below s Q 0 0 (T76.setTop (mkF m 280 #[.val (.ref ar), .val (.int s0), .val (.int (3 : Int32)), .val (.int (3 : Int32)), .val (.int v63), .val (.int (0 : Int32)), .val (.int v67), .val (.int v70), .val (.int (2048 : Int32)), .val (.int (65535 : Int32)), .val (.int r_73), .unset] [(.int r_78)]))
          have f80 := rng32 r_78
          refine Go.st (fun _ k => XS.istore X76.here hx rfl (hb hby d2_280) rfl (l' := #[.val (.ref ar), .val (.int s0), .val (.int (3 : Int32)), .val (.int (3 : Int32)), .val (.int v63), .val (.int (0 : Int32)), .val (.int v67), .val (.int v70), .val (.int (2048 : Int32)), .val (.int (65535 : Int32)), .val (.int r_73), .val (.int r_78)]) rfl k) ?_
          refine Go.st (fun _ k => XS.iload X76.here hx rfl (hb hby d2_282) rfl k) ?_
          refine Go.st (fun _ k => XS.iload X76.here hx rfl (hb hby d2_284) rfl k) ?_
          by_cases c81 : r_78.toInt < r_73.toInt
          ·
            refine Go.st (fun _ k => XS.icmpYes X76.here hx rfl (pc0 := 286) (pc' := 307) rfl (hb hby d2_286) rfl (tlt (ltI rfl rfl c81)).2.2.1 (by decide) (by decide) k) ?_
            refine Go.st (fun _ k => XS.iconst X76.here hx rfl (hb hby d2_307) k) ?_
            show Go p e below s Q 0 0 (T76.setTop (mkF m 308 #[.val (.ref ar), .val (.int s0), .val (.int (3 : Int32)), .val (.int (3 : Int32)), .val (.int v63), .val (.int (0 : Int32)), .val (.int v67), .val (.int v70), .val (.int (2048 : Int32)), .val (.int (65535 : Int32)), .val (.int r_73), .val (.int r_78)] [(.int (0 : Int32))]))
            exact Go.retN X76 hx hlk (by simp) Bd.returns (hb hby d2_308) (z' := (0 : Int32)) (by decide) (by rw [← hQ, e76]; exact ⟨(0 : Int32), rfl, N76, (by refine Or.inr ⟨by omega, ?_⟩; rintro ⟨hv, nn, hn⟩; unfold Vbl SecOk at hv; unfold LenIs at hn; omega), rfl⟩) (by decide) (by decide)
          ·
            refine Go.st (fun _ k => XS.icmpNo X76.here hx rfl (hb hby d2_286) rfl (flt (nltI rfl rfl c81)).2.2.1 k) ?_
            refine Go.st (fun _ k => XS.iload X76.here hx rfl (hb hby d2_289) rfl k) ?_
            refine Go.st (X76.ldcInt hx hown (mvT hZ (hw _ (List.mem_of_getElem? (i := 20) rfl))) (g := (mkF m 291 #[.val (.ref ar), .val (.int s0), .val (.int (3 : Int32)), .val (.int (3 : Int32)), .val (.int v63), .val (.int (0 : Int32)), .val (.int v67), .val (.int v70), .val (.int (2048 : Int32)), .val (.int (65535 : Int32)), .val (.int r_73), .val (.int r_78)] [(.int r_73)])) rfl (hb hby d2_291)) ?_
            show Go p e below s Q 0 0 (T76.setTop (mkF m 293 #[.val (.ref ar), .val (.int s0), .val (.int (3 : Int32)), .val (.int (3 : Int32)), .val (.int v63), .val (.int (0 : Int32)), .val (.int v67), .val (.int v70), .val (.int (2048 : Int32)), .val (.int (65535 : Int32)), .val (.int r_73), .val (.int r_78)] [(.int (55296 : Int32)), (.int r_73)]))
            have f82 := liI_55296
            by_cases c83 : r_73.toInt < 55296
            ·
              refine Go.st (fun _ k => XS.icmpYes X76.here hx rfl (pc0 := 293) (pc' := 303) rfl (hb hby d2_293) rfl (tlt (ltI rfl liI_55296 c83)).1 (by decide) (by decide) k) ?_
              refine Go.st (fun _ k => XS.iconst X76.here hx rfl (hb hby d2_303) k) ?_
              refine Go.st (fun _ k => XS.goto X76.here hx rfl (pc0 := 304) (pc' := 308) rfl (hb hby d2_304) (by decide) (by decide) k) ?_
              show Go p e below s Q 0 0 (T76.setTop (mkF m 308 #[.val (.ref ar), .val (.int s0), .val (.int (3 : Int32)), .val (.int (3 : Int32)), .val (.int v63), .val (.int (0 : Int32)), .val (.int v67), .val (.int v70), .val (.int (2048 : Int32)), .val (.int (65535 : Int32)), .val (.int r_73), .val (.int r_78)] [(.int (1 : Int32))]))
              exact Go.retN X76 hx hlk (by simp) Bd.returns (hb hby d2_308) (z' := (1 : Int32)) (by decide) (by rw [← hQ, e76]; exact ⟨(1 : Int32), rfl, N76, (by exact Or.inl ⟨by omega, (by unfold Vbl SecOk; omega), 3, (by unfold LenIs; omega)⟩), rfl⟩) (by decide) (by decide)
            ·
              refine Go.st (fun _ k => XS.icmpNo X76.here hx rfl (hb hby d2_293) rfl (flt (nltI rfl liI_55296 c83)).1 k) ?_
              refine Go.st (fun _ k => XS.iload X76.here hx rfl (hb hby d2_296) rfl k) ?_
              refine Go.st (X76.ldcInt hx hown (mvT hZ (hw _ (List.mem_of_getElem? (i := 47) rfl))) (g := (mkF m 298 #[.val (.ref ar), .val (.int s0), .val (.int (3 : Int32)), .val (.int (3 : Int32)), .val (.int v63), .val (.int (0 : Int32)), .val (.int v67), .val (.int v70), .val (.int (2048 : Int32)), .val (.int (65535 : Int32)), .val (.int r_73), .val (.int r_78)] [(.int r_78)])) rfl (hb hby d2_298)) ?_
              show Go p e below s Q 0 0 (T76.setTop (mkF m 300 #[.val (.ref ar), .val (.int s0), .val (.int (3 : Int32)), .val (.int (3 : Int32)), .val (.int v63), .val (.int (0 : Int32)), .val (.int v67), .val (.int v70), .val (.int (2048 : Int32)), .val (.int (65535 : Int32)), .val (.int r_73), .val (.int r_78)] [(.int (57343 : Int32)), (.int r_78)]))
              have f84 := liI_57343
              by_cases c85 : 57343 < r_78.toInt
              ·
                refine Go.st (fun _ k => XS.icmpNo X76.here hx rfl (hb hby d2_300) rfl (tlt (ltI liI_57343 rfl c85)).2.2.2 k) ?_
                refine Go.st (fun _ k => XS.iconst X76.here hx rfl (hb hby d2_303) k) ?_
                refine Go.st (fun _ k => XS.goto X76.here hx rfl (pc0 := 304) (pc' := 308) rfl (hb hby d2_304) (by decide) (by decide) k) ?_
                show Go p e below s Q 0 0 (T76.setTop (mkF m 308 #[.val (.ref ar), .val (.int s0), .val (.int (3 : Int32)), .val (.int (3 : Int32)), .val (.int v63), .val (.int (0 : Int32)), .val (.int v67), .val (.int v70), .val (.int (2048 : Int32)), .val (.int (65535 : Int32)), .val (.int r_73), .val (.int r_78)] [(.int (1 : Int32))]))
                exact Go.retN X76 hx hlk (by simp) Bd.returns (hb hby d2_308) (z' := (1 : Int32)) (by decide) (by rw [← hQ, e76]; exact ⟨(1 : Int32), rfl, N76, (by exact Or.inl ⟨by omega, (by unfold Vbl SecOk; omega), 3, (by unfold LenIs; omega)⟩), rfl⟩) (by decide) (by decide)
              ·
                refine Go.st (fun _ k => XS.icmpYes X76.here hx rfl (pc0 := 300) (pc' := 307) rfl (hb hby d2_300) rfl (flt (nltI liI_57343 rfl c85)).2.2.2 (by decide) (by decide) k) ?_
                refine Go.st (fun _ k => XS.iconst X76.here hx rfl (hb hby d2_307) k) ?_
                show Go p e below s Q 0 0 (T76.setTop (mkF m 308 #[.val (.ref ar), .val (.int s0), .val (.int (3 : Int32)), .val (.int (3 : Int32)), .val (.int v63), .val (.int (0 : Int32)), .val (.int v67), .val (.int v70), .val (.int (2048 : Int32)), .val (.int (65535 : Int32)), .val (.int r_73), .val (.int r_78)] [(.int (0 : Int32))]))
                exact Go.retN X76 hx hlk (by simp) Bd.returns (hb hby d2_308) (z' := (0 : Int32)) (by decide) (by rw [← hQ, e76]; exact ⟨(0 : Int32), rfl, N76, (by refine Or.inr ⟨by omega, ?_⟩; rintro ⟨hv, nn, hn⟩; unfold Vbl SecOk at hv; unfold LenIs at hn; omega), rfl⟩) (by decide) (by decide)
        ·
          refine Go.st (fun _ k => XS.icmpNo X7.here hx rfl (hb hby d2_111) rfl (feq (neI rfl liI_128 c57)).1 k) ?_
          refine Go.st (fun _ k => XS.iconst X7.here hx rfl (hb hby d2_114) k) ?_
          show Go p e below s Q 0 0 (T7.setTop (mkF m 115 #[.val (.ref ar), .val (.int s0), .val (.int (3 : Int32)), .val (.int (3 : Int32)), .val (.int v47), .val (.int v55), .unset, .unset, .unset, .unset, .unset, .unset] [(.int (0 : Int32))]))
          have f86 := liI_0
          exact Go.retN X7 hx hlk (by simp) Bd.returns (hb hby d2_115) (z' := (0 : Int32)) (by decide) (by rw [← hQ, e7]; exact ⟨(0 : Int32), rfl, N7, (by refine Or.inr ⟨by omega, ?_⟩; rintro ⟨hv, nn, hn⟩; unfold Vbl SecOk at hv; unfold LenIs at hn; omega), rfl⟩) (by decide) (by decide)
      ·
        refine Go.st (fun _ k => XS.icmpNo X7.here hx rfl (hb hby d2_72) rfl (feq (neI rfl liI_128 c39)).1 k) ?_
        refine Go.st (fun _ k => XS.iconst X7.here hx rfl (hb hby d2_75) k) ?_
        show Go p e below s Q 0 0 (T7.setTop (mkF m 76 #[.val (.ref ar), .val (.int s0), .val (.int (3 : Int32)), .val (.int (3 : Int32)), .val (.int v27), .val (.int v35), .unset, .unset, .unset, .unset, .unset, .unset] [(.int (0 : Int32))]))
        have f87 := liI_0
        exact Go.retN X7 hx hlk (by simp) Bd.returns (hb hby d2_76) (z' := (0 : Int32)) (by decide) (by rw [← hQ, e7]; exact ⟨(0 : Int32), rfl, N7, (by refine Or.inr ⟨by omega, ?_⟩; rintro ⟨hv, nn, hn⟩; unfold Vbl SecOk at hv; unfold LenIs at hn; omega), rfl⟩) (by decide) (by decide)
    ·
      have cs17' : r_10 = (4 : Int32) := eqI cs17 liI_4 rfl
      subst cs17'
      show Go p e below s Q 0 0 (T7.setTop (mkF m 13 #[.val (.ref ar), .val (.int s0), .val (.int (3 : Int32)), .val (.int (4 : Int32)), .unset, .unset, .unset, .unset, .unset, .unset, .unset, .unset] []))
      have f88 : 240 ≤ c0.toInt ∧ c0.toInt < 248 := by omega
      clear f1 f2 f4 f8 f11 f12 hL f13 c14 hlen'
      refine Go.st (fun _ k => XS.aloadN X7.here hx rfl (hb hby d2_13) rfl rfl k) ?_
      refine Go.st (fun _ k => XS.iloadN X7.here hx rfl (hb hby d2_14) rfl k) ?_
      have f90 := rng32 s0
      have f91 := liI_4
      have r92 : 0 ≤ s0.toInt := by omega
      have r93 : s0.toInt < (4 : Int32).toInt := by omega
      refine Go.st (Vec.ildI X7 hx hZ e7 hV (j := s0) r92 r93 (g := (mkF m 15 #[.val (.ref ar), .val (.int s0), .val (.int (3 : Int32)), .val (.int (4 : Int32)), .unset, .unset, .unset, .unset, .unset, .unset, .unset, .unset] [(.int s0), (.ref ar)])) rfl rfl (hb hby d2_15)) ?_
      show Go p e below s Q 0 0 (T7.setTop (mkF m 16 #[.val (.ref ar), .val (.int s0), .val (.int (3 : Int32)), .val (.int (4 : Int32)), .unset, .unset, .unset, .unset, .unset, .unset, .unset, .unset] [(.int (f s0.toInt.toNat))]))
      refine Go.st (fun _ k => XS.iloadN X7.here hx rfl (hb hby d2_16) rfl k) ?_
      refine Go.st (fun _ k => XS.iconst X7.here hx rfl (hb hby d2_17) k) ?_
      refine Go.st (fun _ k => XS.icmpYes X7.here hx rfl (pc0 := 18) (pc' := 26) rfl (hb hby d2_18) rfl (feq (neI liI_4 liI_1 (by decide))).2 (by decide) (by decide) k) ?_
      refine Go.st (fun _ k => XS.iloadN X7.here hx rfl (hb hby d2_26) rfl k) ?_
      refine Go.st (fun _ k => XS.iconst X7.here hx rfl (hb hby d2_27) k) ?_
      refine Go.st (fun _ k => XS.icmpYes X7.here hx rfl (pc0 := 28) (pc' := 36) rfl (hb hby d2_28) rfl (feq (neI liI_4 liI_2 (by decide))).2 (by decide) (by decide) k) ?_
      show Go p e below s Q 0 0 (T7.setTop (mkF m 36 #[.val (.ref ar), .val (.int s0), .val (.int (3 : Int32)), .val (.int (4 : Int32)), .unset, .unset, .unset, .unset, .unset, .unset, .unset, .unset] [(.int (f s0.toInt.toNat))]))
      refine Go.st (fun _ k => XS.iloadN X7.here hx rfl (hb hby d2_36) rfl k) ?_
      refine Go.st (fun _ k => XS.iconst X7.here hx rfl (hb hby d2_37) k) ?_
      refine Go.st (fun _ k => XS.icmpYes X7.here hx rfl (pc0 := 38) (pc' := 46) rfl (hb hby d2_38) rfl (feq (neI liI_4 liI_3 (by decide))).2 (by decide) (by decide) k) ?_
      refine Go.st (fun _ k => XS.bipush X7.here hx rfl (hb hby d2_46) k) ?_
      refine Go.st (fun _ k => XS.iand X7.here hx rfl (hb hby d2_48) rfl k) ?_
      refine Go.st (fun _ k => XS.istore X7.here hx rfl (hb hby d2_49) rfl (l' := #[.val (.ref ar), .val (.int s0), .val (.int (3 : Int32)), .val (.int (4 : Int32)), .val (.int ((f s0.toInt.toNat) &&& (7 : Int32))), .unset, .unset, .unset, .unset, .unset, .unset, .unset]) rfl k) ?_
      show Go p e below s Q 0 0 (T7.setTop (mkF m 51 #[.val (.ref ar), .val (.int s0), .val (.int (3 : Int32)), .val (.int (4 : Int32)), .val (.int ((f s0.toInt.toNat) &&& (7 : Int32))), .unset, .unset, .unset, .unset, .unset, .unset, .unset] []))
      have f94 := rng32 (f s0.toInt.toNat)
      have f95 := liI_7
      have f96 : ((f s0.toInt.toNat) &&& (7 : Int32)).toInt = (f s0.toInt.toNat).toInt % 8 := c_mask (f s0.toInt.toNat) (7 : Int32) 3 (by decide) (by decide)
      generalize hv_v97 : ((f s0.toInt.toNat) &&& (7 : Int32)) = v97 at f96 ⊢
      refine Go.st (fun _ k => XS.iloadN X7.here hx rfl (hb hby d2_51) rfl k) ?_
      refine Go.st (fun _ k => XS.iconst X7.here hx rfl (hb hby d2_52) k) ?_
      refine Go.st (fun _ k => XS.icmpNo X7.here hx rfl (hb hby d2_53) rfl (flt (nltI liI_3 liI_2 (by decide))).1 k) ?_
      refine Go.st (fun _ k => XS.aloadN X7.here hx rfl (hb hby d2_56) rfl rfl k) ?_
      refine Go.st (fun _ k => XS.iloadN X7.here hx rfl (hb hby d2_57) rfl k) ?_
      refine Go.st (fun _ k => XS.iconst X7.here hx rfl (hb hby d2_58) k) ?_
      show Go p e below s Q 0 0 (T7.setTop (mkF m 59 #[.val (.ref ar), .val (.int s0), .val (.int (3 : Int32)), .val (.int (4 : Int32)), .val (.int v97), .unset, .unset, .unset, .unset, .unset, .unset, .unset] [(.int (1 : Int32)), (.int s0), (.ref ar)]))
      refine Go.st (fun _ k => XS.iadd X7.here hx rfl (hb hby d2_59) rfl k) ?_
      have f99 := liI_1
      have f100 := c_iadd s0 (1 : Int32)
      have f101 := rng32 (s0 + (1 : Int32))
      have r102 : 0 ≤ (s0 + (1 : Int32)).toInt := by omega
      have r103 : (s0 + (1 : Int32)).toInt < (4 : Int32).toInt := by omega
      refine Go.st (Vec.ildI X7 hx hZ e7 hV (j := (s0 + (1 : Int32))) r102 r103 (g := (mkF m 60 #[.val (.ref ar), .val (.int s0), .val (.int (3 : Int32)), .val (.int (4 : Int32)), .val (.int v97), .unset, .unset, .unset, .unset, .unset, .unset, .unset] [(.int (s0 + (1 : Int32))), (.ref ar)])) rfl rfl (hb hby d2_60)) ?_
      show Go p e below s Q 0 0 (T7.setTop (mkF m 61 #[.val (.ref ar), .val (.int s0), .val (.int (3 : Int32)), .val (.int (4 : Int32)), .val (.int v97), .unset, .unset, .unset, .unset, .unset, .unset, .unset] [(.int (f (s0 + (1 : Int32)).toInt.toNat))]))
      refine Go.st (fun _ k => XS.istore X7.here hx rfl (hb hby d2_61) rfl (l' := #[.val (.ref ar), .val (.int s0), .val (.int (3 : Int32)), .val (.int (4 : Int32)), .val (.int v97), .val (.int (f (s0 + (1 : Int32)).toInt.toNat)), .unset, .unset, .unset, .unset, .unset, .unset]) rfl k) ?_
      show Go p e below s Q 0 0 (T7.setTop (mkF m 63 #[.val (.ref ar), .val (.int s0), .val (.int (3 : Int32)), .val (.int (4 : Int32)), .val (.int v97), .val (.int (f (s0 + (1 : Int32)).toInt.toNat)), .unset, .unset, .unset, .unset, .unset, .unset] []))
      have f104 := rng32 (f (s0 + (1 : Int32)).toInt.toNat)
      generalize hv_v105 : (f (s0 + (1 : Int32)).toInt.toNat) = v105 at f104 ⊢
      have hq1 : v105.toInt = c1.toInt := by rw [← hv_v105, ← hc1]; congr 2; omega
      refine Go.st (fun _ k => XS.iload X7.here hx rfl (hb hby d2_63) rfl k) ?_
      refine Go.st (fun _ k => XS.sipush X7.here hx rfl (hb hby d2_65) k) ?_
      refine Go.st (fun _ k => XS.iand X7.here hx rfl (hb hby d2_68) rfl k) ?_
      refine Go.st (fun _ k => XS.sipush X7.here hx rfl (hb hby d2_69) k) ?_
      have f106 := liI_192
      have f107 := himask_192 v105 (by omega)
      have f108 := liI_128
      by_cases c109 : (v105 &&& (192 : Int32)).toInt = 128
      ·
        refine Go.st (fun _ k => XS.icmpYes X7.here hx rfl (pc0 := 72) (pc' := 77) rfl (hb hby d2_72) rfl (teq (eqI rfl liI_128 c109)).1 (by decide) (by decide) k) ?_
        refine Go.st (fun _ k => XS.iload X7.here hx rfl (hb hby d2_77) rfl k) ?_
        show Go p e below s Q 0 0 (T7.setTop (mkF m 79 #[.val (.ref ar), .val (.int s0), .val (.int (3 : Int32)), .val (.int (4 : Int32)), .val (.int v97), .val (.int v105), .unset, .unset, .unset, .unset, .unset, .unset] [(.int v97)]))
        refine Go.st (fun _ k => XS.bipush X7.here hx rfl (hb hby d2_79) k) ?_
        refine Go.st (fun _ k => XS.ishl X7.here hx rfl (hb hby d2_81) rfl k) ?_
        refine Go.st (fun _ k => XS.iload X7.here hx rfl (hb hby d2_82) rfl k) ?_
        refine Go.st (fun _ k => XS.bipush X7.here hx rfl (hb hby d2_84) k) ?_
        refine Go.st (fun _ k => XS.iand X7.here hx rfl (hb hby d2_86) rfl k) ?_
        refine Go.st (fun _ k => XS.ior X7.here hx rfl (hb hby d2_87) rfl k) ?_
        show Go p e below s Q 0 0 (T7.setTop (mkF m 88 #[.val (.ref ar), .val (.int s0), .val (.int (3 : Int32)), .val (.int (4 : Int32)), .val (.int v97), .val (.int v105), .unset, .unset, .unset, .unset, .unset, .unset] [(.int ((v97 <<< ((6 : Int32) &&& 31)) ||| (v105 &&& (63 : Int32))))]))
        refine Go.st (fun _ k => XS.istore X7.here hx rfl (hb hby d2_88) rfl (l' := #[.val (.ref ar), .val (.int s0), .val (.int (3 : Int32)), .val (.int (4 : Int32)), .val (.int ((v97 <<< ((6 : Int32) &&& 31)) ||| (v105 &&& (63 : Int32)))), .val (.int v105), .unset, .unset, .unset, .unset, .unset, .unset]) rfl k) ?_
        show Go p e below s Q 0 0 (T7.setTop (mkF m 90 #[.val (.ref ar), .val (.int s0), .val (.int (3 : Int32)), .val (.int (4 : Int32)), .val (.int ((v97 <<< ((6 : Int32) &&& 31)) ||| (v105 &&& (63 : Int32)))), .val (.int v105), .unset, .unset, .unset, .unset, .unset, .unset] []))
        have f110 := liI_6
        have f111 : ((v97 <<< ((6 : Int32) &&& 31)).toInt - v97.toInt * 64) % 4294967296 = 0 := c_ishl v97 (6 : Int32) 6 (by decide)
        have f112 := rng32 (v97 <<< ((6 : Int32) &&& 31))
        have f113 := liI_63
        have f114 : (v105 &&& (63 : Int32)).toInt = v105.toInt % 64 := c_mask v105 (63 : Int32) 6 (by decide) (by decide)
        have f115 := c_or (v97 <<< ((6 : Int32) &&& 31)) (v105 &&& (63 : Int32)) 6 (by decide) 64 (by decide) (by omega) (by omega) (by omega)
        have f116 := rng32 ((v97 <<< ((6 : Int32) &&& 31)) ||| (v105 &&& (63 : Int32)))
        generalize hv_v117 : ((v97 <<< ((6 : Int32) &&& 31)) ||| (v105 &&& (63 : Int32))) = v117 at f115 f116 ⊢
        refine Go.st (fun _ k => XS.iloadN X7.here hx rfl (hb hby d2_90) rfl k) ?_
        refine Go.st (fun _ k => XS.iconst X7.here hx rfl (hb hby d2_91) k) ?_
        refine Go.st (fun _ k => XS.icmpNo X7.here hx rfl (hb hby d2_92) rfl (flt (nltI liI_3 liI_3 (by decide))).1 k) ?_
        refine Go.st (fun _ k => XS.aloadN X7.here hx rfl (hb hby d2_95) rfl rfl k) ?_
        refine Go.st (fun _ k => XS.iloadN X7.here hx rfl (hb hby d2_96) rfl k) ?_
        refine Go.st (fun _ k => XS.iconst X7.here hx rfl (hb hby d2_97) k) ?_
        show Go p e below s Q 0 0 (T7.setTop (mkF m 98 #[.val (.ref ar), .val (.int s0), .val (.int (3 : Int32)), .val (.int (4 : Int32)), .val (.int v117), .val (.int v105), .unset, .unset, .unset, .unset, .unset, .unset] [(.int (2 : Int32)), (.int s0), (.ref ar)]))
        refine Go.st (fun _ k => XS.iadd X7.here hx rfl (hb hby d2_98) rfl k) ?_
        have f119 := liI_2
        have f120 := c_iadd s0 (2 : Int32)
        have f121 := rng32 (s0 + (2 : Int32))
        have r122 : 0 ≤ (s0 + (2 : Int32)).toInt := by omega
        have r123 : (s0 + (2 : Int32)).toInt < (4 : Int32).toInt := by omega
        refine Go.st (Vec.ildI X7 hx hZ e7 hV (j := (s0 + (2 : Int32))) r122 r123 (g := (mkF m 99 #[.val (.ref ar), .val (.int s0), .val (.int (3 : Int32)), .val (.int (4 : Int32)), .val (.int v117), .val (.int v105), .unset, .unset, .unset, .unset, .unset, .unset] [(.int (s0 + (2 : Int32))), (.ref ar)])) rfl rfl (hb hby d2_99)) ?_
        show Go p e below s Q 0 0 (T7.setTop (mkF m 100 #[.val (.ref ar), .val (.int s0), .val (.int (3 : Int32)), .val (.int (4 : Int32)), .val (.int v117), .val (.int v105), .unset, .unset, .unset, .unset, .unset, .unset] [(.int (f (s0 + (2 : Int32)).toInt.toNat))]))
        refine Go.st (fun _ k => XS.istore X7.here hx rfl (hb hby d2_100) rfl (l' := #[.val (.ref ar), .val (.int s0), .val (.int (3 : Int32)), .val (.int (4 : Int32)), .val (.int v117), .val (.int (f (s0 + (2 : Int32)).toInt.toNat)), .unset, .unset, .unset, .unset, .unset, .unset]) rfl k) ?_
        show Go p e below s Q 0 0 (T7.setTop (mkF m 102 #[.val (.ref ar), .val (.int s0), .val (.int (3 : Int32)), .val (.int (4 : Int32)), .val (.int v117), .val (.int (f (s0 + (2 : Int32)).toInt.toNat)), .unset, .unset, .unset, .unset, .unset, .unset] []))
        have f124 := rng32 (f (s0 + (2 : Int32)).toInt.toNat)
        generalize hv_v125 : (f (s0 + (2 : Int32)).toInt.toNat) = v125 at f124 ⊢
        have hq2 : v125.toInt = c2.toInt := by rw [← hv_v125, ← hc2]; congr 2; omega
        refine Go.st (fun _ k => XS.iload X7.here hx rfl (hb hby d2_102) rfl k) ?_
        refine Go.st (fun _ k => XS.sipush X7.here hx rfl (hb hby d2_104) k) ?_
        refine Go.st (fun _ k => XS.iand X7.here hx rfl (hb hby d2_107) rfl k) ?_
        refine Go.st (fun _ k => XS.sipush X7.here hx rfl (hb hby d2_108) k) ?_
        have f126 := himask_192 v125 (by omega)
        by_cases c127 : (v125 &&& (192 : Int32)).toInt = 128
        ·
          refine Go.st (fun _ k => XS.icmpYes X7.here hx rfl (pc0 := 111) (pc' := 116) rfl (hb hby d2_111) rfl (teq (eqI rfl liI_128 c127)).1 (by decide) (by decide) k) ?_
          refine Go.st (fun _ k => XS.iload X7.here hx rfl (hb hby d2_116) rfl k) ?_
          show Go p e below s Q 0 0 (T7.setTop (mkF m 118 #[.val (.ref ar), .val (.int s0), .val (.int (3 : Int32)), .val (.int (4 : Int32)), .val (.int v117), .val (.int v125), .unset, .unset, .unset, .unset, .unset, .unset] [(.int v117)]))
          refine Go.st (fun _ k => XS.bipush X7.here hx rfl (hb hby d2_118) k) ?_
          refine Go.st (fun _ k => XS.ishl X7.here hx rfl (hb hby d2_120) rfl k) ?_
          refine Go.st (fun _ k => XS.iload X7.here hx rfl (hb hby d2_121) rfl k) ?_
          refine Go.st (fun _ k => XS.bipush X7.here hx rfl (hb hby d2_123) k) ?_
          refine Go.st (fun _ k => XS.iand X7.here hx rfl (hb hby d2_125) rfl k) ?_
          refine Go.st (fun _ k => XS.ior X7.here hx rfl (hb hby d2_126) rfl k) ?_
          show Go p e below s Q 0 0 (T7.setTop (mkF m 127 #[.val (.ref ar), .val (.int s0), .val (.int (3 : Int32)), .val (.int (4 : Int32)), .val (.int v117), .val (.int v125), .unset, .unset, .unset, .unset, .unset, .unset] [(.int ((v117 <<< ((6 : Int32) &&& 31)) ||| (v125 &&& (63 : Int32))))]))
          refine Go.st (fun _ k => XS.istore X7.here hx rfl (hb hby d2_127) rfl (l' := #[.val (.ref ar), .val (.int s0), .val (.int (3 : Int32)), .val (.int (4 : Int32)), .val (.int ((v117 <<< ((6 : Int32) &&& 31)) ||| (v125 &&& (63 : Int32)))), .val (.int v125), .unset, .unset, .unset, .unset, .unset, .unset]) rfl k) ?_
          show Go p e below s Q 0 0 (T7.setTop (mkF m 129 #[.val (.ref ar), .val (.int s0), .val (.int (3 : Int32)), .val (.int (4 : Int32)), .val (.int ((v117 <<< ((6 : Int32) &&& 31)) ||| (v125 &&& (63 : Int32)))), .val (.int v125), .unset, .unset, .unset, .unset, .unset, .unset] []))
          have f128 : ((v117 <<< ((6 : Int32) &&& 31)).toInt - v117.toInt * 64) % 4294967296 = 0 := c_ishl v117 (6 : Int32) 6 (by decide)
          have f129 := rng32 (v117 <<< ((6 : Int32) &&& 31))
          have f130 : (v125 &&& (63 : Int32)).toInt = v125.toInt % 64 := c_mask v125 (63 : Int32) 6 (by decide) (by decide)
          have f131 := c_or (v117 <<< ((6 : Int32) &&& 31)) (v125 &&& (63 : Int32)) 6 (by decide) 64 (by decide) (by omega) (by omega) (by omega)
          have f132 := rng32 ((v117 <<< ((6 : Int32) &&& 31)) ||| (v125 &&& (63 : Int32)))
          generalize hv_v133 : ((v117 <<< ((6 : Int32) &&& 31)) ||| (v125 &&& (63 : Int32))) = v133 at f131 f132 ⊢
          refine Go.st (fun _ k => XS.iloadN X7.here hx rfl (hb hby d2_129) rfl k) ?_
          refine Go.st (fun _ k => XS.iconst X7.here hx rfl (hb hby d2_130) k) ?_
          refine Go.st (fun _ k => XS.icmpYes X7.here hx rfl (pc0 := 131) (pc' := 168) rfl (hb hby d2_131) rfl (tlt (ltI liI_3 liI_4 (by decide))).1 (by decide) (by decide) k) ?_
          refine Go.st (fun _ k => XS.bipush X7.here hx rfl (hb hby d2_168) k) ?_
          refine Go.st (fun _ k => XS.iloadN X7.here hx rfl (hb hby d2_170) rfl k) ?_
          refine Go.st (fun _ k => XS.iloadN X7.here hx rfl (hb hby d2_171) rfl k) ?_
          show Go p e below s Q 0 0 (T7.setTop (mkF m 172 #[.val (.ref ar), .val (.int s0), .val (.int (3 : Int32)), .val (.int (4 : Int32)), .val (.int v133), .val (.int v125), .unset, .unset, .unset, .unset, .unset, .unset] [(.int (3 : Int32)), (.int (4 : Int32)), (.int (6 : Int32))]))
          refine Go.st (fun _ k => XS.isub X7.here hx rfl (hb hby d2_172) rfl k) ?_
          refine Go.st (fun _ k => XS.imul X7.here hx rfl (hb hby d2_173) rfl k) ?_
          refine Go.st (fun _ k => XS.istore X7.here hx rfl (hb hby d2_174) rfl (l' := #[.val (.ref ar), .val (.int s0), .val (.int (3 : Int32)), .val (.int (4 : Int32)), .val (.int v133), .val (.int (6 : Int32)), .unset, .unset, .unset, .unset, .unset, .unset]) rfl k) ?_
          refine Go.st (fun _ k => XS.iload X7.here hx rfl (hb hby d2_176) rfl k) ?_
          refine Go.st (fun _ k => XS.iload X7.here hx rfl (hb hby d2_178) rfl k) ?_
          refine Go.st (fun _ k => XS.ishl X7.here hx rfl (hb hby d2_180) rfl k) ?_
          show Go p e below s Q 0 0 (T7.setTop (mkF m 181 #[.val (.ref ar), .val (.int s0), .val (.int (3 : Int32)), .val (.int (4 : Int32)), .val (.int v133), .val (.int (6 : Int32)), .unset, .unset, .unset, .unset, .unset, .unset] [(.int (v133 <<< ((6 : Int32) &&& 31)))]))
          refine Go.st (fun _ k => XS.istore X7.here hx rfl (hb hby d2_181) rfl (l' := #[.val (.ref ar), .val (.int s0), .val (.int (3 : Int32)), .val (.int (4 : Int32)), .val (.int v133), .val (.int (6 : Int32)), .val (.int (v133 <<< ((6 : Int32) &&& 31))), .unset, .unset, .unset, .unset, .unset]) rfl k) ?_
          show Go p e below s Q 0 0 (T7.setTop (mkF m 183 #[.val (.ref ar), .val (.int s0), .val (.int (3 : Int32)), .val (.int (4 : Int32)), .val (.int v133), .val (.int (6 : Int32)), .val (.int (v133 <<< ((6 : Int32) &&& 31))), .unset, .unset, .unset, .unset, .unset] []))
          have f134 : ((v133 <<< ((6 : Int32) &&& 31)).toInt - v133.toInt * 64) % 4294967296 = 0 := c_ishl v133 (6 : Int32) 6 (by decide)
          have f135 := rng32 (v133 <<< ((6 : Int32) &&& 31))
          generalize hv_v136 : (v133 <<< ((6 : Int32) &&& 31)) = v136 at f134 f135 ⊢
          refine Go.st (fun _ k => XS.iload X7.here hx rfl (hb hby d2_183) rfl k) ?_
          refine Go.st (fun _ k => XS.iconst X7.here hx rfl (hb hby d2_185) k) ?_
          refine Go.st (fun _ k => XS.iload X7.here hx rfl (hb hby d2_186) rfl k) ?_
          refine Go.st (fun _ k => XS.ishl X7.here hx rfl (hb hby d2_188) rfl k) ?_
          refine Go.st (fun _ k => XS.iconst X7.here hx rfl (hb hby d2_189) k) ?_
          refine Go.st (fun _ k => XS.isub X7.here hx rfl (hb hby d2_190) rfl k) ?_
          show Go p e below s Q 0 0 (T7.setTop (mkF m 191 #[.val (.ref ar), .val (.int s0), .val (.int (3 : Int32)), .val (.int (4 : Int32)), .val (.int v133), .val (.int (6 : Int32)), .val (.int v136), .unset, .unset, .unset, .unset, .unset] [(.int (63 : Int32)), (.int v136)]))
          refine Go.st (fun _ k => XS.ior X7.here hx rfl (hb hby d2_191) rfl k) ?_
          refine Go.st (fun _ k => XS.istore X7.here hx rfl (hb hby d2_192) rfl (l' := #[.val (.ref ar), .val (.int s0), .val (.int (3 : Int32)), .val (.int (4 : Int32)), .val (.int v133), .val (.int (6 : Int32)), .val (.int v136), .val (.int (v136 ||| (63 : Int32))), .unset, .unset, .unset, .unset]) rfl k) ?_
          show Go p e below s Q 0 0 (T7.setTop (mkF m 194 #[.val (.ref ar), .val (.int s0), .val (.int (3 : Int32)), .val (.int (4 : Int32)), .val (.int v133), .val (.int (6 : Int32)), .val (.int v136), .val (.int (v136 ||| (63 : Int32))), .unset, .unset, .unset, .unset] []))
          have f137 := c_or v136 (63 : Int32) 6 (by decide) 64 (by decide) (by omega) (by omega) (by omega)
          have f138 := rng32 (v136 ||| (63 : Int32))
          generalize hv_v139 : (v136 ||| (63 : Int32)) = v139 at f137 f138 ⊢
          refine Go.st (fun _ k => XS.iloadN X7.here hx rfl (hb hby d2_194) rfl k) ?_
          refine Go.st (fun _ k => XS.iconst X7.here hx rfl (hb hby d2_195) k) ?_
          refine Go.st (fun _ k => XS.icmpYes X7.here hx rfl (pc0 := 196) (pc' := 203) rfl (hb hby d2_196) rfl (feq (neI liI_4 liI_1 (by decide))).2 (by decide) (by decide) k) ?_
          refine Go.st (fun _ k => XS.iloadN X7.here hx rfl (hb hby d2_203) rfl k) ?_
          refine Go.st (fun _ k => XS.iconst X7.here hx rfl (hb hby d2_204) k) ?_
          refine Go.st (fun _ k => XS.icmpYes X7.here hx rfl (pc0 := 205) (pc' := 214) rfl (hb hby d2_205) rfl (feq (neI liI_4 liI_2 (by decide))).2 (by decide) (by decide) k) ?_
          show Go p e below s Q 0 0 (T7.setTop (mkF m 214 #[.val (.ref ar), .val (.int s0), .val (.int (3 : Int32)), .val (.int (4 : Int32)), .val (.int v133), .val (.int (6 : Int32)), .val (.int v136), .val (.int v139), .unset, .unset, .unset, .unset] []))
          refine Go.st (fun _ k => XS.iloadN X7.here hx rfl (hb hby d2_214) rfl k) ?_
          refine Go.st (fun _ k => XS.iconst X7.here hx rfl (hb hby d2_215) k) ?_
          refine Go.st (fun _ k => XS.icmpYes X7.here hx rfl (pc0 := 216) (pc' := 225) rfl (hb hby d2_216) rfl (feq (neI liI_4 liI_3 (by decide))).2 (by decide) (by decide) k) ?_
          refine Go.st (X7.ldcInt hx hown (mvT hZ (hw _ (List.mem_of_getElem? (i := 48) rfl))) (g := (mkF m 225 #[.val (.ref ar), .val (.int s0), .val (.int (3 : Int32)), .val (.int (4 : Int32)), .val (.int v133), .val (.int (6 : Int32)), .val (.int v136), .val (.int v139), .unset, .unset, .unset, .unset] [])) rfl (hb hby d2_225)) ?_
          show Go p e below s Q 0 0 (T7.setTop (mkF m 227 #[.val (.ref ar), .val (.int s0), .val (.int (3 : Int32)), .val (.int (4 : Int32)), .val (.int v133), .val (.int (6 : Int32)), .val (.int v136), .val (.int v139), .unset, .unset, .unset, .unset] [(.int (65536 : Int32))]))
          refine Go.st (fun _ k => XS.istore X7.here hx rfl (hb hby d2_227) rfl (l' := #[.val (.ref ar), .val (.int s0), .val (.int (3 : Int32)), .val (.int (4 : Int32)), .val (.int v133), .val (.int (6 : Int32)), .val (.int v136), .val (.int v139), .val (.int (65536 : Int32)), .unset, .unset, .unset]) rfl k) ?_
          refine Go.st (fun _ k => XS.iloadN X7.here hx rfl (hb hby d2_229) rfl k) ?_
          refine Go.st (fun _ k => XS.iconst X7.here hx rfl (hb hby d2_230) k) ?_
          refine Go.st (fun _ k => XS.icmpYes X7.here hx rfl (pc0 := 231) (pc' := 239) rfl (hb hby d2_231) rfl (feq (neI liI_4 liI_1 (by decide))).2 (by decide) (by decide) k) ?_
          refine Go.st (fun _ k => XS.iloadN X7.here hx rfl (hb hby d2_239) rfl k) ?_
          refine Go.st (fun _ k => XS.iconst X7.here hx rfl (hb hby d2_240) k) ?_
          show Go p e below s Q 0 0 (T7.setTop (mkF m 241 #[.val (.ref ar), .val (.int s0), .val (.int (3 : Int32)), .val (.int (4 : Int32)), .val (.int v133), .val (.int (6 : Int32)), .val (.int v136), .val (.int v139), .val (.int (65536 : Int32)), .unset, .unset, .unset] [(.int (2 : Int32)), (.int (4 : Int32))]))
          refine Go.st (fun _ k => XS.icmpYes X7.here hx rfl (pc0 := 241) (pc' := 250) rfl (hb hby d2_241) rfl (feq (neI liI_4 liI_2 (by decide))).2 (by decide) (by decide) k) ?_
          refine Go.st (fun _ k => XS.iloadN X7.here hx rfl (hb hby d2_250) rfl k) ?_
          refine Go.st (fun _ k => XS.iconst X7.here hx rfl (hb hby d2_251) k) ?_
          refine Go.st (fun _ k => XS.icmpYes X7.here hx rfl (pc0 := 252) (pc' := 260) rfl (hb hby d2_252) rfl (feq (neI liI_4 liI_3 (by decide))).2 (by decide) (by decide) k) ?_
          refine Go.st (X7.ldcInt hx hown (mvT hZ (hw _ (List.mem_of_getElem? (i := 49) rfl))) (g := (mkF m 260 #[.val (.ref ar), .val (.int s0), .val (.int (3 : Int32)), .val (.int (4 : Int32)), .val (.int v133), .val (.int (6 : Int32)), .val (.int v136), .val (.int v139), .val (.int (65536 : Int32)), .unset, .unset, .unset] [])) rfl (hb hby d2_260)) ?_
          show Go p e below s Q 0 0 (T7.setTop (mkF m 262 #[.val (.ref ar), .val (.int s0), .val (.int (3 : Int32)), .val (.int (4 : Int32)), .val (.int v133), .val (.int (6 : Int32)), .val (.int v136), .val (.int v139), .val (.int (65536 : Int32)), .unset, .unset, .unset] [(.int (1114111 : Int32))]))
          refine Go.st (fun _ k => XS.istore X7.here hx rfl (hb hby d2_262) rfl (l' := #[.val (.ref ar), .val (.int s0), .val (.int (3 : Int32)), .val (.int (4 : Int32)), .val (.int v133), .val (.int (6 : Int32)), .val (.int v136), .val (.int v139), .val (.int (65536 : Int32)), .val (.int (1114111 : Int32)), .unset, .unset]) rfl k) ?_
          refine Go.st (fun _ k => XS.iload X7.here hx rfl (hb hby d2_264) rfl k) ?_
          refine Go.st (fun _ k => XS.iload X7.here hx rfl (hb hby d2_266) rfl k) ?_
          have f141 := liI_65536
          obtain ⟨_, _, ⟨T140, L140, k140, n140⟩, -, X140, ⟨Lc140, hQ140, l140, y140, z140⟩, st140⟩ := Jvm.LawKit.callS X7 hx (y := (⟨"java/lang/Math", "max", "(II)I"⟩ : MethodName)) hown (mvT hZ (hw _ (List.mem_of_getElem? (i := 13) rfl))) (mvT hZ (hw _ (List.mem_of_getElem? (i := 14) rfl))) (mvT hZ (hw _ (List.mem_of_getElem? (i := 15) rfl))) (mvT hZ (hw _ (List.mem_of_getElem? (i := 16) rfl))) (by decide) (backOf (W := 0) (rm4 l Z a0 hw [] v136 (65536 : Int32) h0 n0 (Nat.le_trans Z0 K0.1) ) hZ (hw _ (List.mem_of_getElem? (i := 16) rfl)) (hw _ (List.mem_of_getElem? (i := 15) rfl)) (by decide) (by decide)) (g := (mkF m 268 #[.val (.ref ar), .val (.int s0), .val (.int (3 : Int32)), .val (.int (4 : Int32)), .val (.int v133), .val (.int (6 : Int32)), .val (.int v136), .val (.int v139), .val (.int (65536 : Int32)), .val (.int (1114111 : Int32)), .unset, .unset] [(.int (65536 : Int32)), (.int v136)])) rfl (by rw [hml]; rfl) (argsL := [(.int v136), (.int (65536 : Int32))]) (rest := []) (lenOf pd_1 rfl) rfl (by show 2 * 0 + _ ≤ _; exact Nat.le_of_eq rfl) (hb hby d2_268) (fun _ _ => ⟨rfl, e7, (by decide : 0 + 0 ≤ _), (by decide : 0 + 0 ≤ _)⟩)
          dsimp only [Pt.U, Pt.locs, Pt.cells, Pt.slots] at X140 l140 y140 z140 st140 hQ140
          subst y140 z140
          obtain ⟨r_142, rfl, N140q, f143, e140⟩ := hQ140
          have N140 : Fr n0 L140 := by rw [l140]; exact Fr.app N7 N140q
          refine Go.st st140 ?_
          show Go p e below s Q 0 0 (T140.setTop (mkF m 271 #[.val (.ref ar), .val (.int s0), .val (.int (3 : Int32)), .val (.int (4 : Int32)), .val (.int v133), .val (.int (6 : Int32)), .val (.int v136), .val (.int v139), .val (.int (65536 : Int32)), .val (.int (1114111 : Int32)), .unset, .unset] [(.int r_142)]))
          have f144 := rng32 r_142
          refine Go.st (fun _ k => XS.istore X140.here hx rfl (hb hby d2_271) rfl (l' := #[.val (.ref ar), .val (.int s0), .val (.int (3 : Int32)), .val (.int (4 : Int32)), .val (.int v133), .val (.int (6 : Int32)), .val (.int v136), .val (.int v139), .val (.int (65536 : Int32)), .val (.int (1114111 : Int32)), .val (.int r_142), .unset]) rfl k) ?_
          refine Go.st (fun _ k => XS.iload X140.here hx rfl (hb hby d2_273) rfl k) ?_
          refine Go.st (fun _ k => XS.iload X140.here hx rfl (hb hby d2_275) rfl k) ?_
          have f146 := liI_1114111
          obtain ⟨_, _, ⟨T145, L145, k145, n145⟩, -, X145, ⟨Lc145, hQ145, l145, y145, z145⟩, st145⟩ := Jvm.LawKit.callS X140 hx (y := (⟨"java/lang/Math", "min", "(II)I"⟩ : MethodName)) hown (mvT hZ (hw _ (List.mem_of_getElem? (i := 17) rfl))) (mvT hZ (hw _ (List.mem_of_getElem? (i := 18) rfl))) (mvT hZ (hw _ (List.mem_of_getElem? (i := 15) rfl))) (mvT hZ (hw _ (List.mem_of_getElem? (i := 19) rfl))) (by decide) (backOf (W := 0) (rm5 l Z a0 hw [] v139 (1114111 : Int32) h0 n0 (Nat.le_trans Z0 K0.1) ) hZ (hw _ (List.mem_of_getElem? (i := 19) rfl)) (hw _ (List.mem_of_getElem? (i := 15) rfl)) (by decide) (by decide)) (g := (mkF m 277 #[.val (.ref ar), .val (.int s0), .val (.int (3 : Int32)), .val (.int (4 : Int32)), .val (.int v133), .val (.int (6 : Int32)), .val (.int v136), .val (.int v139), .val (.int (65536 : Int32)), .val (.int (1114111 : Int32)), .val (.int r_142), .unset] [(.int (1114111 : Int32)), (.int v139)])) rfl (by rw [hml]; rfl) (argsL := [(.int v139), (.int (1114111 : Int32))]) (rest := []) (lenOf pd_1 rfl) rfl (by show 2 * 0 + _ ≤ _; exact Nat.le_of_eq rfl) (hb hby d2_277) (fun _ _ => ⟨rfl, e140, (by decide : 0 + 0 ≤ _), (by decide : 0 + 0 ≤ _)⟩)
          dsimp only [Pt.U, Pt.locs, Pt.cells, Pt.slots] at X145 l145 y145 z145 st145 hQ145
          subst y145 z145
          obtain ⟨r_147, rfl, N145q, f148, e145⟩ := hQ145
          have N145 : Fr n0 L145 := by rw [l145]; exact Fr.app N140 N145q
          refine Go.st st145 ?_
          show Go p e below s Q 0 0 (T145.setTop (mkF m 280 #[.val (.ref ar), .val (.int s0), .val (.int (3 : Int32)), .val (.int (4 : Int32)), .val (.int v133), .val (.int (6 : Int32)), .val (.int v136), .val (.int v139), .val (.int (65536 : Int32)), .val (.int (1114111 : Int32)), .val (.int r_142), .unset] [(.int r_147)]))
          have f149 := rng32 r_147
          refine Go.st (fun _ k => XS.istore X145.here hx rfl (hb hby d2_280) rfl (l' := #[.val (.ref ar), .val (.int s0), .val (.int (3 : Int32)), .val (.int (4 : Int32)), .val (.int v133), .val (.int (6 : Int32)), .val (.int v136), .val (.int v139), .val (.int (65536 : Int32)), .val (.int (1114111 : Int32)), .val (.int r_142), .val (.int r_147)]) rfl k) ?_
          refine Go.st (fun _ k => XS.iload X145.here hx rfl (hb hby d2_282) rfl k) ?_
          refine Go.st (fun _ k => XS.iload X145.here hx rfl (hb hby d2_284) rfl k) ?_
          by_cases c150 : r_147.toInt < r_142.toInt
          ·
            refine Go.st (fun _ k => XS.icmpYes X145.here hx rfl (pc0 := 286) (pc' := 307) rfl (hb hby d2_286) rfl (tlt (ltI rfl rfl c150)).2.2.1 (by decide) (by decide) k) ?_
            refine Go.st (fun _ k => XS.iconst X145.here hx rfl (hb hby d2_307) k) ?_
            show Go p e below s Q 0 0 (T145.setTop (mkF m 308 #[.val (.ref ar), .val (.int s0), .val (.int (3 : Int32)), .val (.int (4 : Int32)), .val (.int v133), .val (.int (6 : Int32)), .val (.int v136), .val (.int v139), .val (.int (65536 : Int32)), .val (.int (1114111 : Int32)), .val (.int r_142), .val (.int r_147)] [(.int (0 : Int32))]))
            have f151 := liI_0
            exact Go.retN X145 hx hlk (by simp) Bd.returns (hb hby d2_308) (z' := (0 : Int32)) (by decide) (by rw [← hQ, e145]; exact ⟨(0 : Int32), rfl, N145, (by refine Or.inr ⟨by omega, ?_⟩; rintro ⟨hv, nn, hn⟩; unfold Vbl SecOk at hv; unfold LenIs at hn; omega), rfl⟩) (by decide) (by decide)
          ·
            refine Go.st (fun _ k => XS.icmpNo X145.here hx rfl (hb hby d2_286) rfl (flt (nltI rfl rfl c150)).2.2.1 k) ?_
            refine Go.st (fun _ k => XS.iload X145.here hx rfl (hb hby d2_289) rfl k) ?_
            refine Go.st (X145.ldcInt hx hown (mvT hZ (hw _ (List.mem_of_getElem? (i := 20) rfl))) (g := (mkF m 291 #[.val (.ref ar), .val (.int s0), .val (.int (3 : Int32)), .val (.int (4 : Int32)), .val (.int v133), .val (.int (6 : Int32)), .val (.int v136), .val (.int v139), .val (.int (65536 : Int32)), .val (.int (1114111 : Int32)), .val (.int r_142), .val (.int r_147)] [(.int r_142)])) rfl (hb hby d2_291)) ?_
            show Go p e below s Q 0 0 (T145.setTop (mkF m 293 #[.val (.ref ar), .val (.int s0), .val (.int (3 : Int32)), .val (.int (4 : Int32)), .val (.int v133), .val (.int (6 : Int32)), .val (.int v136), .val (.int v139), .val (.int (65536 : Int32)), .val (.int (1114111 : Int32)), .val (.int r_142), .val (.int r_147)] [(.int (55296 : Int32)), (.int r_142)]))
            have f152 := liI_55296
            by_cases c153 : r_142.toInt < 55296
            ·
              refine Go.st (fun _ k => XS.icmpYes X145.here hx rfl (pc0 := 293) (pc' := 303) rfl (hb hby d2_293) rfl (tlt (ltI rfl liI_55296 c153)).1 (by decide) (by decide) k) ?_
              refine Go.st (fun _ k => XS.iconst X145.here hx rfl (hb hby d2_303) k) ?_
              refine Go.st (fun _ k => XS.goto X145.here hx rfl (pc0 := 304) (pc' := 308) rfl (hb hby d2_304) (by decide) (by decide) k) ?_
              show Go p e below s Q 0 0 (T145.setTop (mkF m 308 #[.val (.ref ar), .val (.int s0), .val (.int (3 : Int32)), .val (.int (4 : Int32)), .val (.int v133), .val (.int (6 : Int32)), .val (.int v136), .val (.int v139), .val (.int (65536 : Int32)), .val (.int (1114111 : Int32)), .val (.int r_142), .val (.int r_147)] [(.int (1 : Int32))]))
              exact Go.retN X145 hx hlk (by simp) Bd.returns (hb hby d2_308) (z' := (1 : Int32)) (by decide) (by rw [← hQ, e145]; exact ⟨(1 : Int32), rfl, N145, (by exact Or.inl ⟨by omega, (by unfold Vbl SecOk; omega), 4, (by unfold LenIs; omega)⟩), rfl⟩) (by decide) (by decide)
            ·
              refine Go.st (fun _ k => XS.icmpNo X145.here hx rfl (hb hby d2_293) rfl (flt (nltI rfl liI_55296 c153)).1 k) ?_
              refine Go.st (fun _ k => XS.iload X145.here hx rfl (hb hby d2_296) rfl k) ?_
              refine Go.st (X145.ldcInt hx hown (mvT hZ (hw _ (List.mem_of_getElem? (i := 47) rfl))) (g := (mkF m 298 #[.val (.ref ar), .val (.int s0), .val (.int (3 : Int32)), .val (.int (4 : Int32)), .val (.int v133), .val (.int (6 : Int32)), .val (.int v136), .val (.int v139), .val (.int (65536 : Int32)), .val (.int (1114111 : Int32)), .val (.int r_142), .val (.int r_147)] [(.int r_147)])) rfl (hb hby d2_298)) ?_
              show Go p e below s Q 0 0 (T145.setTop (mkF m 300 #[.val (.ref ar), .val (.int s0), .val (.int (3 : Int32)), .val (.int (4 : Int32)), .val (.int v133), .val (.int (6 : Int32)), .val (.int v136), .val (.int v139), .val (.int (65536 : Int32)), .val (.int (1114111 : Int32)), .val (.int r_142), .val (.int r_147)] [(.int (57343 : Int32)), (.int r_147)]))
              have f154 := liI_57343
              by_cases c155 : 57343 < r_147.toInt
              ·
                refine Go.st (fun _ k => XS.icmpNo X145.here hx rfl (hb hby d2_300) rfl (tlt (ltI liI_57343 rfl c155)).2.2.2 k) ?_
                refine Go.st (fun _ k => XS.iconst X145.here hx rfl (hb hby d2_303) k) ?_
                refine Go.st (fun _ k => XS.goto X145.here hx rfl (pc0 := 304) (pc' := 308) rfl (hb hby d2_304) (by decide) (by decide) k) ?_
                show Go p e below s Q 0 0 (T145.setTop (mkF m 308 #[.val (.ref ar), .val (.int s0), .val (.int (3 : Int32)), .val (.int (4 : Int32)), .val (.int v133), .val (.int (6 : Int32)), .val (.int v136), .val (.int v139), .val (.int (65536 : Int32)), .val (.int (1114111 : Int32)), .val (.int r_142), .val (.int r_147)] [(.int (1 : Int32))]))
                exact Go.retN X145 hx hlk (by simp) Bd.returns (hb hby d2_308) (z' := (1 : Int32)) (by decide) (by rw [← hQ, e145]; exact ⟨(1 : Int32), rfl, N145, (by exact Or.inl ⟨by omega, (by unfold Vbl SecOk; omega), 4, (by unfold LenIs; omega)⟩), rfl⟩) (by decide) (by decide)
              ·
                refine Go.st (fun _ k => XS.icmpYes X145.here hx rfl (pc0 := 300) (pc' := 307) rfl (hb hby d2_300) rfl (flt (nltI liI_57343 rfl c155)).2.2.2 (by decide) (by decide) k) ?_
                refine Go.st (fun _ k => XS.iconst X145.here hx rfl (hb hby d2_307) k) ?_
                show Go p e below s Q 0 0 (T145.setTop (mkF m 308 #[.val (.ref ar), .val (.int s0), .val (.int (3 : Int32)), .val (.int (4 : Int32)), .val (.int v133), .val (.int (6 : Int32)), .val (.int v136), .val (.int v139), .val (.int (65536 : Int32)), .val (.int (1114111 : Int32)), .val (.int r_142), .val (.int r_147)] [(.int (0 : Int32))]))
                have f156 := liI_0
                exact Go.retN X145 hx hlk (by simp) Bd.returns (hb hby d2_308) (z' := (0 : Int32)) (by decide) (by rw [← hQ, e145]; exact ⟨(0 : Int32), rfl, N145, (by refine Or.inr ⟨by omega, ?_⟩; rintro ⟨hv, nn, hn⟩; unfold Vbl SecOk at hv; unfold LenIs at hn; omega), rfl⟩) (by decide) (by decide)
        ·
          refine Go.st (fun _ k => XS.icmpNo X7.here hx rfl (hb hby d2_111) rfl (feq (neI rfl liI_128 c127)).1 k) ?_
          refine Go.st (fun _ k => XS.iconst X7.here hx rfl (hb hby d2_114) k) ?_
          show Go p e below s Q 0 0 (T7.setTop (mkF m 115 #[.val (.ref ar), .val (.int s0), .val (.int (3 : Int32)), .val (.int (4 : Int32)), .val (.int v117), .val (.int v125), .unset, .unset, .unset, .unset, .unset, .unset] [(.int (0 : Int32))]))
          have f157 := liI_0
          exact Go.retN X7 hx hlk (by simp) Bd.returns (hb hby d2_115) (z' := (0 : Int32)) (by decide) (by rw [← hQ, e7]; exact ⟨(0 : Int32), rfl, N7, (by refine Or.inr ⟨by omega, ?_⟩; rintro ⟨hv, nn, hn⟩; unfold Vbl SecOk at hv; unfold LenIs at hn; omega), rfl⟩) (by decide) (by decide)
      ·
        refine Go.st (fun _ k => XS.icmpNo X7.here hx rfl (hb hby d2_72) rfl (feq (neI rfl liI_128 c109)).1 k) ?_
        refine Go.st (fun _ k => XS.iconst X7.here hx rfl (hb hby d2_75) k) ?_
        show Go p e below s Q 0 0 (T7.setTop (mkF m 76 #[.val (.ref ar), .val (.int s0), .val (.int (3 : Int32)), .val (.int (4 : Int32)), .val (.int v97), .val (.int v105), .unset, .unset, .unset, .unset, .unset, .unset] [(.int (0 : Int32))]))
        have f158 := liI_0
        exact Go.retN X7 hx hlk (by simp) Bd.returns (hb hby d2_76) (z' := (0 : Int32)) (by decide) (by rw [← hQ, e7]; exact ⟨(0 : Int32), rfl, N7, (by refine Or.inr ⟨by omega, ?_⟩; rintro ⟨hv, nn, hn⟩; unfold Vbl SecOk at hv; unfold LenIs at hn; omega), rfl⟩) (by decide) (by decide)
theorem d2_134 : decode method_3_code 134 = .ok (.aload_n 0, 1) := by decide +kernel
theorem d2_135 : decode method_3_code 135 = .ok (.iload_n 1, 1) := by decide +kernel
theorem d2_136 : decode method_3_code 136 = .ok (.iconst 3, 1) := by decide +kernel
theorem d2_137 : decode method_3_code 137 = .ok (.iadd, 1) := by decide +kernel
theorem d2_138 : decode method_3_code 138 = .ok (.iaload, 1) := by decide +kernel
theorem d2_139 : decode method_3_code 139 = .ok (.istore 5, 2) := by decide +kernel
theorem d2_141 : decode method_3_code 141 = .ok (.iload 5, 2) := by decide +kernel
theorem d2_143 : decode method_3_code 143 = .ok (.sipush 192, 3) := by decide +kernel
theorem d2_146 : decode method_3_code 146 = .ok (.iand, 1) := by decide +kernel
theorem d2_147 : decode method_3_code 147 = .ok (.sipush 128, 3) := by decide +kernel
theorem d2_150 : decode method_3_code 150 = .ok (.if_icmp .eq 5, 3) := by decide +kernel
theorem d2_155 : decode method_3_code 155 = .ok (.iload 4, 2) := by decide +kernel
theorem d2_157 : decode method_3_code 157 = .ok (.bipush 6, 2) := by decide +kernel
theorem d2_159 : decode method_3_code 159 = .ok (.ishl, 1) := by decide +kernel
theorem d2_160 : decode method_3_code 160 = .ok (.iload 5, 2) := by decide +kernel
theorem d2_162 : decode method_3_code 162 = .ok (.bipush 63, 2) := by decide +kernel
theorem d2_164 : decode method_3_code 164 = .ok (.iand, 1) := by decide +kernel
theorem d2_165 : decode method_3_code 165 = .ok (.ior, 1) := by decide +kernel
theorem d2_166 : decode method_3_code 166 = .ok (.istore 4, 2) := by decide +kernel
theorem d2_153 : decode method_3_code 153 = .ok (.iconst 0, 1) := by decide +kernel
theorem d2_154 : decode method_3_code 154 = .ok (.ireturn, 1) := by decide +kernel
theorem ef_rmv_4 (m : MethodId) (ar : Addr) (s0 : Int32) : entryFrame m #[(.ref ar), (.int s0), (.int (4 : Int32))] 12 = mkF m 0 #[.val (.ref ar), .val (.int s0), .val (.int (4 : Int32)), .unset, .unset, .unset, .unset, .unset, .unset, .unset, .unset, .unset] [] := by first | (simp [entryFrame, mkF, argsToLocals, Value.category]; done) | rfl
def Qv_4 (Z : State) (ar : Addr) (s0 : Int32) (f : Nat → Int32) (c0 : Int32) (c1 : Int32) (c2 : Int32) (c3 : Int32) (h0 : Heap) (n0 : Nat) (vv : Option Value) (h : Heap) (LL : List Loc) : Prop := ∃ (r : Int32), vv = some (.int r) ∧ Fr n0 LL ∧ ((r.toInt = 1 ∧ Vbl 4 c0.toInt c1.toInt c2.toInt c3.toInt ∧ ∃ n, LenIs c0.toInt n) ∨ (r.toInt = 0 ∧ ¬ (Vbl 4 c0.toInt c1.toInt c2.toInt c3.toInt ∧ ∃ n, LenIs c0.toInt n))) ∧ h = h0
set_option maxRecDepth 65536 in
set_option maxHeartbeats 40000000 in
theorem rmv_4 (l : Launch) (Z : State) (a0 : Array Value) (hw : ∀ d ∈ tables_1, d.before a0 Z = true) (ws : List Jvm.Cond) (ar : Addr) (s0 : Int32) (f : Nat → Int32) (c0 : Int32) (c1 : Int32) (c2 : Int32) (c3 : Int32) (h0 : Heap) (n0 : Nat) (Z0 : n0 ≤ h0.size) (hV : Vec Z h0 ar .int (4 : Int32) (ints f)) (hr : ∀ j : Nat, 0 ≤ (f j).toInt ∧ (f j).toInt ≤ 255) (hs0 : 0 ≤ s0.toInt ∧ s0.toInt + 4 ≤ 4) (hc0 : f (s0.toInt.toNat + 0) = c0) (hc1 : f (s0.toInt.toNat + 1) = c1) (hc2 : f (s0.toInt.toNat + 2) = c2) (hc3 : f (s0.toInt.toNat + 3) = c3) (hlen : LenGe c0.toInt 4) :
    MetFree l (⟨"com/example/ballast/ballast/json/Utf8CheckPinLaw", "viable", "([III)Z"⟩ : MethodName) (head1 (Jvm.Cond.code (⟨"com/example/ballast/ballast/json/Utf8CheckPinLaw", "viable", "([III)Z"⟩ : MethodName) method_3_code 12 (some .boolean) :: ws) ({ frames := 1, cells := 0, slots := 0, locals := 13 } : Room)) (fun aa UU => aa = #[(.ref ar), (.int s0), (.int (4 : Int32))] ∧ Z.Warmed39 UU.vm ∧ UU.heap = h0) (fun _ _ _ _ _ => True) (fun _ UU oo UU' => ∃ vv LL, oo = .returned vv ∧ Qv_4 Z ar s0 f c0 c1 c2 c3 h0 n0 vv UU'.heap LL ∧ FrameEnd UU oo UU' LL 0 0) := by
  refine MetFree.of_bodySF (plainFor_of_name pn_0) hisR ?_
  intro p e s m args below meth c s₁ Bd hml0 hP hK
  obtain ⟨rfl, hZ, hh⟩ := hP
  have hx := Bd.exec
  have hby := Bd.bytes
  have hlk : meth.locks = false := BodyLoose.notSynchronized Bd
  have hml : c.maxLocals = 12 := hml0
  have hown : s.vm.findClass "com/example/ballast/ballast/json/Utf8CheckPinLaw" = some m.cls := findClass_of_methodNamed Bd.named
  have hnm := (name_of_methodNamed Bd.named Bd.method).1
  have X0 : Stand p l e ({ frames := 1, cells := 0, slots := 0, locals := 13 } : Room) s m #[(.ref ar), (.int s0), (.int (4 : Int32))] below meth c s₁ [] 0 0 := Stand.of_body Bd
  have e0 : s₁.heap = h0 := by rw [← hh, Bd.state]; rfl
  have N0 := Fr.nil n0
  have K0 : Keep h0 h0 [] := Keep.refl h0 _
  refine (?_ : Go p e below s (Qv_4 Z ar s0 f c0 c1 c2 c3 h0 n0) 0 0 (s₁.setTop (entryFrame m #[(.ref ar), (.int s0), (.int (4 : Int32))] 12)))
  rw [ef_rmv_4]
  generalize hQ : Qv_4 Z ar s0 f c0 c1 c2 c3 h0 n0 = Q
  have hlen' := hlen
  unfold LenGe at hlen'
  have hrr0 : 0 ≤ c0.toInt ∧ c0.toInt ≤ 255 := by rw [← hc0]; exact hr _
  have hrr1 : 0 ≤ c1.toInt ∧ c1.toInt ≤ 255 := by rw [← hc1]; exact hr _
  have hrr2 : 0 ≤ c2.toInt ∧ c2.toInt ≤ 255 := by rw [← hc2]; exact hr _
  have hrr3 : 0 ≤ c3.toInt ∧ c3.toInt ≤ 255 := by rw [← hc3]; exact hr _
  show Go p e below s Q 0 0 (s₁.setTop (mkF m 0 #[.val (.ref ar), .val (.int s0), .val (.int (4 : Int32)), .unset, .unset, .unset, .unset, .unset, .unset, .unset, .unset, .unset] []))
  have f1 := rng32 s0
  have f2 := liI_4
  refine Go.st (fun _ k => XS.aloadN X0.here hx rfl (hb hby d2_0) rfl rfl k) ?_
  refine Go.st (fun _ k => XS.iloadN X0.here hx rfl (hb hby d2_1) rfl k) ?_
  have r4 : 0 ≤ s0.toInt := by omega
  have r5 : s0.toInt < (4 : Int32).toInt := by omega
  refine Go.st (Vec.ildI X0 hx hZ e0 hV (j := s0) r4 r5 (g := (mkF m 2 #[.val (.ref ar), .val (.int s0), .val (.int (4 : Int32)), .unset, .unset, .unset, .unset, .unset, .unset, .unset, .unset, .unset] [(.int s0), (.ref ar)])) rfl rfl (hb hby d2_2)) ?_
  show Go p e below s Q 0 0 (s₁.setTop (mkF m 3 #[.val (.ref ar), .val (.int s0), .val (.int (4 : Int32)), .unset, .unset, .unset, .unset, .unset, .unset, .unset, .unset, .unset] [(.int (f s0.toInt.toNat))]))
  have f7 := rng32 (f s0.toInt.toNat)
  have p8 : 0 ≤ (f s0.toInt.toNat).toInt ∧ (f s0.toInt.toNat).toInt < 256 := by have := hr s0.toInt.toNat; omega
  obtain ⟨_, _, ⟨T6, L6, k6, n6⟩, -, X6, ⟨Lc6, hQ6, l6, y6, z6⟩, st6⟩ := Jvm.LawKit.callS X0 hx (y := (⟨"com/example/ballast/ballast/json/Utf8CheckPinLaw", "len", "(I)I"⟩ : MethodName)) hown (mvT hZ (hw _ (List.mem_of_getElem? (i := 10) rfl))) (mvT hZ (hw _ (List.mem_of_getElem? (i := 11) rfl))) (mvT hZ (hw _ (List.mem_of_getElem? (i := 5) rfl))) (mvT hZ (hw _ (List.mem_of_getElem? (i := 12) rfl))) (by decide) (backOf (W := 0) (rm3 l Z a0 hw [] (f s0.toInt.toNat) h0 n0 (Nat.le_trans Z0 K0.1) p8) hZ (hw _ (List.mem_of_getElem? (i := 12) rfl)) (hw _ (List.mem_of_getElem? (i := 5) rfl)) (by decide) (by decide)) (g := (mkF m 3 #[.val (.ref ar), .val (.int s0), .val (.int (4 : Int32)), .unset, .unset, .unset, .unset, .unset, .unset, .unset, .unset, .unset] [(.int (f s0.toInt.toNat))])) rfl (by rw [hml]; rfl) (argsL := [(.int (f s0.toInt.toNat))]) (rest := []) (lenOf pd_0 rfl) rfl (by show 2 * 0 + _ ≤ _; exact Nat.le_of_eq rfl) (hb hby d2_3) (fun _ _ => ⟨rfl, e0, (by decide : 0 + 0 ≤ _), (by decide : 0 + 0 ≤ _)⟩)
  dsimp only [Pt.U, Pt.locs, Pt.cells, Pt.slots] at X6 l6 y6 z6 st6 hQ6
  subst y6 z6
  obtain ⟨r_9, rfl, N6q, f10, e6⟩ := hQ6
  have N6 : Fr n0 L6 := by rw [l6]; exact Fr.app N0 N6q
  refine Go.st st6 ?_
  show Go p e below s Q 0 0 (T6.setTop (mkF m 6 #[.val (.ref ar), .val (.int s0), .val (.int (4 : Int32)), .unset, .unset, .unset, .unset, .unset, .unset, .unset, .unset, .unset] [(.int r_9)]))
  have f11 := rng32 r_9
  have hL := f10
  unfold LenIs at hL
  have hc0' : (f s0.toInt.toNat).toInt = c0.toInt := by rw [← hc0]; rfl
  refine Go.st (fun _ k => XS.istoreN X6.here hx rfl (hb hby d2_6) rfl (l' := #[.val (.ref ar), .val (.int s0), .val (.int (4 : Int32)), .val (.int r_9), .unset, .unset, .unset, .unset, .unset, .unset, .unset, .unset]) rfl k) ?_
  refine Go.st (fun _ k => XS.iloadN X6.here hx rfl (hb hby d2_7) rfl k) ?_
  have f12 := liI_0
  by_cases c13 : r_9.toInt = 0
  ·
    refine Go.st (fun _ k => XS.ifNo X6.here hx rfl (hb hby d2_8) rfl ((if0 _ _).trans (teq (eqI rfl liI_0 c13)).2) k) ?_
    refine Go.st (fun _ k => XS.iconst X6.here hx rfl (hb hby d2_11) k) ?_
    show Go p e below s Q 0 0 (T6.setTop (mkF m 12 #[.val (.ref ar), .val (.int s0), .val (.int (4 : Int32)), .val (.int r_9), .unset, .unset, .unset, .unset, .unset, .unset, .unset, .unset] [(.int (0 : Int32))]))
    exact Go.retN X6 hx hlk (by simp) Bd.returns (hb hby d2_12) (z' := (0 : Int32)) (by decide) (by rw [← hQ, e6]; exact ⟨(0 : Int32), rfl, N6, (by refine Or.inr ⟨by omega, ?_⟩; rintro ⟨hv, nn, hn⟩; unfold Vbl SecOk at hv; unfold LenIs at hn; omega), rfl⟩) (by decide) (by decide)
  ·
    refine Go.st (fun _ k => XS.ifYes X6.here hx rfl (pc0 := 8) (pc' := 13) rfl (hb hby d2_8) rfl ((if0 _ _).trans (feq (neI rfl liI_0 c13)).2) (by decide) (by decide) k) ?_
    show Go p e below s Q 0 0 (T6.setTop (mkF m 13 #[.val (.ref ar), .val (.int s0), .val (.int (4 : Int32)), .val (.int r_9), .unset, .unset, .unset, .unset, .unset, .unset, .unset, .unset] []))
    have cs14 : r_9.toInt = 4 := by omega
    ·
      have cs14' : r_9 = (4 : Int32) := eqI cs14 liI_4 rfl
      subst cs14'
      show Go p e below s Q 0 0 (T6.setTop (mkF m 13 #[.val (.ref ar), .val (.int s0), .val (.int (4 : Int32)), .val (.int (4 : Int32)), .unset, .unset, .unset, .unset, .unset, .unset, .unset, .unset] []))
      have f15 : 240 ≤ c0.toInt ∧ c0.toInt < 248 := by omega
      clear f1 f2 f7 f10 f11 hL f12 c13 hlen'
      refine Go.st (fun _ k => XS.aloadN X6.here hx rfl (hb hby d2_13) rfl rfl k) ?_
      refine Go.st (fun _ k => XS.iloadN X6.here hx rfl (hb hby d2_14) rfl k) ?_
      have f17 := rng32 s0
      have f18 := liI_4
      have r19 : 0 ≤ s0.toInt := by omega
      have r20 : s0.toInt < (4 : Int32).toInt := by omega
      refine Go.st (Vec.ildI X6 hx hZ e6 hV (j := s0) r19 r20 (g := (mkF m 15 #[.val (.ref ar), .val (.int s0), .val (.int (4 : Int32)), .val (.int (4 : Int32)), .unset, .unset, .unset, .unset, .unset, .unset, .unset, .unset] [(.int s0), (.ref ar)])) rfl rfl (hb hby d2_15)) ?_
      show Go p e below s Q 0 0 (T6.setTop (mkF m 16 #[.val (.ref ar), .val (.int s0), .val (.int (4 : Int32)), .val (.int (4 : Int32)), .unset, .unset, .unset, .unset, .unset, .unset, .unset, .unset] [(.int (f s0.toInt.toNat))]))
      refine Go.st (fun _ k => XS.iloadN X6.here hx rfl (hb hby d2_16) rfl k) ?_
      refine Go.st (fun _ k => XS.iconst X6.here hx rfl (hb hby d2_17) k) ?_
      refine Go.st (fun _ k => XS.icmpYes X6.here hx rfl (pc0 := 18) (pc' := 26) rfl (hb hby d2_18) rfl (feq (neI liI_4 liI_1 (by decide))).2 (by decide) (by decide) k) ?_
      refine Go.st (fun _ k => XS.iloadN X6.here hx rfl (hb hby d2_26) rfl k) ?_
      refine Go.st (fun _ k => XS.iconst X6.here hx rfl (hb hby d2_27) k) ?_
      refine Go.st (fun _ k => XS.icmpYes X6.here hx rfl (pc0 := 28) (pc' := 36) rfl (hb hby d2_28) rfl (feq (neI liI_4 liI_2 (by decide))).2 (by decide) (by decide) k) ?_
      show Go p e below s Q 0 0 (T6.setTop (mkF m 36 #[.val (.ref ar), .val (.int s0), .val (.int (4 : Int32)), .val (.int (4 : Int32)), .unset, .unset, .unset, .unset, .unset, .unset, .unset, .unset] [(.int (f s0.toInt.toNat))]))
      refine Go.st (fun _ k => XS.iloadN X6.here hx rfl (hb hby d2_36) rfl k) ?_
      refine Go.st (fun _ k => XS.iconst X6.here hx rfl (hb hby d2_37) k) ?_
      refine Go.st (fun _ k => XS.icmpYes X6.here hx rfl (pc0 := 38) (pc' := 46) rfl (hb hby d2_38) rfl (feq (neI liI_4 liI_3 (by decide))).2 (by decide) (by decide) k) ?_
      refine Go.st (fun _ k => XS.bipush X6.here hx rfl (hb hby d2_46) k) ?_
      refine Go.st (fun _ k => XS.iand X6.here hx rfl (hb hby d2_48) rfl k) ?_
      refine Go.st (fun _ k => XS.istore X6.here hx rfl (hb hby d2_49) rfl (l' := #[.val (.ref ar), .val (.int s0), .val (.int (4 : Int32)), .val (.int (4 : Int32)), .val (.int ((f s0.toInt.toNat) &&& (7 : Int32))), .unset, .unset, .unset, .unset, .unset, .unset, .unset]) rfl k) ?_
      show Go p e below s Q 0 0 (T6.setTop (mkF m 51 #[.val (.ref ar), .val (.int s0), .val (.int (4 : Int32)), .val (.int (4 : Int32)), .val (.int ((f s0.toInt.toNat) &&& (7 : Int32))), .unset, .unset, .unset, .unset, .unset, .unset, .unset] []))
      have f21 := rng32 (f s0.toInt.toNat)
      have f22 := liI_7
      have f23 : ((f s0.toInt.toNat) &&& (7 : Int32)).toInt = (f s0.toInt.toNat).toInt % 8 := c_mask (f s0.toInt.toNat) (7 : Int32) 3 (by decide) (by decide)
      generalize hv_v24 : ((f s0.toInt.toNat) &&& (7 : Int32)) = v24 at f23 ⊢
      refine Go.st (fun _ k => XS.iloadN X6.here hx rfl (hb hby d2_51) rfl k) ?_
      refine Go.st (fun _ k => XS.iconst X6.here hx rfl (hb hby d2_52) k) ?_
      refine Go.st (fun _ k => XS.icmpNo X6.here hx rfl (hb hby d2_53) rfl (flt (nltI liI_4 liI_2 (by decide))).1 k) ?_
      refine Go.st (fun _ k => XS.aloadN X6.here hx rfl (hb hby d2_56) rfl rfl k) ?_
      refine Go.st (fun _ k => XS.iloadN X6.here hx rfl (hb hby d2_57) rfl k) ?_
      refine Go.st (fun _ k => XS.iconst X6.here hx rfl (hb hby d2_58) k) ?_
      show Go p e below s Q 0 0 (T6.setTop (mkF m 59 #[.val (.ref ar), .val (.int s0), .val (.int (4 : Int32)), .val (.int (4 : Int32)), .val (.int v24), .unset, .unset, .unset, .unset, .unset, .unset, .unset] [(.int (1 : Int32)), (.int s0), (.ref ar)]))
      refine Go.st (fun _ k => XS.iadd X6.here hx rfl (hb hby d2_59) rfl k) ?_
      have f26 := liI_1
      have f27 := c_iadd s0 (1 : Int32)
      have f28 := rng32 (s0 + (1 : Int32))
      have r29 : 0 ≤ (s0 + (1 : Int32)).toInt := by omega
      have r30 : (s0 + (1 : Int32)).toInt < (4 : Int32).toInt := by omega
      refine Go.st (Vec.ildI X6 hx hZ e6 hV (j := (s0 + (1 : Int32))) r29 r30 (g := (mkF m 60 #[.val (.ref ar), .val (.int s0), .val (.int (4 : Int32)), .val (.int (4 : Int32)), .val (.int v24), .unset, .unset, .unset, .unset, .unset, .unset, .unset] [(.int (s0 + (1 : Int32))), (.ref ar)])) rfl rfl (hb hby d2_60)) ?_
      show Go p e below s Q 0 0 (T6.setTop (mkF m 61 #[.val (.ref ar), .val (.int s0), .val (.int (4 : Int32)), .val (.int (4 : Int32)), .val (.int v24), .unset, .unset, .unset, .unset, .unset, .unset, .unset] [(.int (f (s0 + (1 : Int32)).toInt.toNat))]))
      refine Go.st (fun _ k => XS.istore X6.here hx rfl (hb hby d2_61) rfl (l' := #[.val (.ref ar), .val (.int s0), .val (.int (4 : Int32)), .val (.int (4 : Int32)), .val (.int v24), .val (.int (f (s0 + (1 : Int32)).toInt.toNat)), .unset, .unset, .unset, .unset, .unset, .unset]) rfl k) ?_
      show Go p e below s Q 0 0 (T6.setTop (mkF m 63 #[.val (.ref ar), .val (.int s0), .val (.int (4 : Int32)), .val (.int (4 : Int32)), .val (.int v24), .val (.int (f (s0 + (1 : Int32)).toInt.toNat)), .unset, .unset, .unset, .unset, .unset, .unset] []))
      have f31 := rng32 (f (s0 + (1 : Int32)).toInt.toNat)
      generalize hv_v32 : (f (s0 + (1 : Int32)).toInt.toNat) = v32 at f31 ⊢
      have hq1 : v32.toInt = c1.toInt := by rw [← hv_v32, ← hc1]; congr 2; omega
      refine Go.st (fun _ k => XS.iload X6.here hx rfl (hb hby d2_63) rfl k) ?_
      refine Go.st (fun _ k => XS.sipush X6.here hx rfl (hb hby d2_65) k) ?_
      refine Go.st (fun _ k => XS.iand X6.here hx rfl (hb hby d2_68) rfl k) ?_
      refine Go.st (fun _ k => XS.sipush X6.here hx rfl (hb hby d2_69) k) ?_
      have f33 := liI_192
      have f34 := himask_192 v32 (by omega)
      have f35 := liI_128
      by_cases c36 : (v32 &&& (192 : Int32)).toInt = 128
      ·
        refine Go.st (fun _ k => XS.icmpYes X6.here hx rfl (pc0 := 72) (pc' := 77) rfl (hb hby d2_72) rfl (teq (eqI rfl liI_128 c36)).1 (by decide) (by decide) k) ?_
        refine Go.st (fun _ k => XS.iload X6.here hx rfl (hb hby d2_77) rfl k) ?_
        show Go p e below s Q 0 0 (T6.setTop (mkF m 79 #[.val (.ref ar), .val (.int s0), .val (.int (4 : Int32)), .val (.int (4 : Int32)), .val (.int v24), .val (.int v32), .unset, .unset, .unset, .unset, .unset, .unset] [(.int v24)]))
        refine Go.st (fun _ k => XS.bipush X6.here hx rfl (hb hby d2_79) k) ?_
        refine Go.st (fun _ k => XS.ishl X6.here hx rfl (hb hby d2_81) rfl k) ?_
        refine Go.st (fun _ k => XS.iload X6.here hx rfl (hb hby d2_82) rfl k) ?_
        refine Go.st (fun _ k => XS.bipush X6.here hx rfl (hb hby d2_84) k) ?_
        refine Go.st (fun _ k => XS.iand X6.here hx rfl (hb hby d2_86) rfl k) ?_
        refine Go.st (fun _ k => XS.ior X6.here hx rfl (hb hby d2_87) rfl k) ?_
        show Go p e below s Q 0 0 (T6.setTop (mkF m 88 #[.val (.ref ar), .val (.int s0), .val (.int (4 : Int32)), .val (.int (4 : Int32)), .val (.int v24), .val (.int v32), .unset, .unset, .unset, .unset, .unset, .unset] [(.int ((v24 <<< ((6 : Int32) &&& 31)) ||| (v32 &&& (63 : Int32))))]))
        refine Go.st (fun _ k => XS.istore X6.here hx rfl (hb hby d2_88) rfl (l' := #[.val (.ref ar), .val (.int s0), .val (.int (4 : Int32)), .val (.int (4 : Int32)), .val (.int ((v24 <<< ((6 : Int32) &&& 31)) ||| (v32 &&& (63 : Int32)))), .val (.int v32), .unset, .unset, .unset, .unset, .unset, .unset]) rfl k) ?_
        show Go p e below s Q 0 0 (T6.setTop (mkF m 90 #[.val (.ref ar), .val (.int s0), .val (.int (4 : Int32)), .val (.int (4 : Int32)), .val (.int ((v24 <<< ((6 : Int32) &&& 31)) ||| (v32 &&& (63 : Int32)))), .val (.int v32), .unset, .unset, .unset, .unset, .unset, .unset] []))
        have f37 := liI_6
        have f38 : ((v24 <<< ((6 : Int32) &&& 31)).toInt - v24.toInt * 64) % 4294967296 = 0 := c_ishl v24 (6 : Int32) 6 (by decide)
        have f39 := rng32 (v24 <<< ((6 : Int32) &&& 31))
        have f40 := liI_63
        have f41 : (v32 &&& (63 : Int32)).toInt = v32.toInt % 64 := c_mask v32 (63 : Int32) 6 (by decide) (by decide)
        have f42 := c_or (v24 <<< ((6 : Int32) &&& 31)) (v32 &&& (63 : Int32)) 6 (by decide) 64 (by decide) (by omega) (by omega) (by omega)
        have f43 := rng32 ((v24 <<< ((6 : Int32) &&& 31)) ||| (v32 &&& (63 : Int32)))
        generalize hv_v44 : ((v24 <<< ((6 : Int32) &&& 31)) ||| (v32 &&& (63 : Int32))) = v44 at f42 f43 ⊢
        refine Go.st (fun _ k => XS.iloadN X6.here hx rfl (hb hby d2_90) rfl k) ?_
        refine Go.st (fun _ k => XS.iconst X6.here hx rfl (hb hby d2_91) k) ?_
        refine Go.st (fun _ k => XS.icmpNo X6.here hx rfl (hb hby d2_92) rfl (flt (nltI liI_4 liI_3 (by decide))).1 k) ?_
        refine Go.st (fun _ k => XS.aloadN X6.here hx rfl (hb hby d2_95) rfl rfl k) ?_
        refine Go.st (fun _ k => XS.iloadN X6.here hx rfl (hb hby d2_96) rfl k) ?_
        refine Go.st (fun _ k => XS.iconst X6.here hx rfl (hb hby d2_97) k) ?_
        show Go p e below s Q 0 0 (T6.setTop (mkF m 98 #[.val (.ref ar), .val (.int s0), .val (.int (4 : Int32)), .val (.int (4 : Int32)), .val (.int v44), .val (.int v32), .unset, .unset, .unset, .unset, .unset, .unset] [(.int (2 : Int32)), (.int s0), (.ref ar)]))
        refine Go.st (fun _ k => XS.iadd X6.here hx rfl (hb hby d2_98) rfl k) ?_
        have f46 := liI_2
        have f47 := c_iadd s0 (2 : Int32)
        have f48 := rng32 (s0 + (2 : Int32))
        have r49 : 0 ≤ (s0 + (2 : Int32)).toInt := by omega
        have r50 : (s0 + (2 : Int32)).toInt < (4 : Int32).toInt := by omega
        refine Go.st (Vec.ildI X6 hx hZ e6 hV (j := (s0 + (2 : Int32))) r49 r50 (g := (mkF m 99 #[.val (.ref ar), .val (.int s0), .val (.int (4 : Int32)), .val (.int (4 : Int32)), .val (.int v44), .val (.int v32), .unset, .unset, .unset, .unset, .unset, .unset] [(.int (s0 + (2 : Int32))), (.ref ar)])) rfl rfl (hb hby d2_99)) ?_
        show Go p e below s Q 0 0 (T6.setTop (mkF m 100 #[.val (.ref ar), .val (.int s0), .val (.int (4 : Int32)), .val (.int (4 : Int32)), .val (.int v44), .val (.int v32), .unset, .unset, .unset, .unset, .unset, .unset] [(.int (f (s0 + (2 : Int32)).toInt.toNat))]))
        refine Go.st (fun _ k => XS.istore X6.here hx rfl (hb hby d2_100) rfl (l' := #[.val (.ref ar), .val (.int s0), .val (.int (4 : Int32)), .val (.int (4 : Int32)), .val (.int v44), .val (.int (f (s0 + (2 : Int32)).toInt.toNat)), .unset, .unset, .unset, .unset, .unset, .unset]) rfl k) ?_
        show Go p e below s Q 0 0 (T6.setTop (mkF m 102 #[.val (.ref ar), .val (.int s0), .val (.int (4 : Int32)), .val (.int (4 : Int32)), .val (.int v44), .val (.int (f (s0 + (2 : Int32)).toInt.toNat)), .unset, .unset, .unset, .unset, .unset, .unset] []))
        have f51 := rng32 (f (s0 + (2 : Int32)).toInt.toNat)
        generalize hv_v52 : (f (s0 + (2 : Int32)).toInt.toNat) = v52 at f51 ⊢
        have hq2 : v52.toInt = c2.toInt := by rw [← hv_v52, ← hc2]; congr 2; omega
        refine Go.st (fun _ k => XS.iload X6.here hx rfl (hb hby d2_102) rfl k) ?_
        refine Go.st (fun _ k => XS.sipush X6.here hx rfl (hb hby d2_104) k) ?_
        refine Go.st (fun _ k => XS.iand X6.here hx rfl (hb hby d2_107) rfl k) ?_
        refine Go.st (fun _ k => XS.sipush X6.here hx rfl (hb hby d2_108) k) ?_
        have f53 := himask_192 v52 (by omega)
        by_cases c54 : (v52 &&& (192 : Int32)).toInt = 128
        ·
          refine Go.st (fun _ k => XS.icmpYes X6.here hx rfl (pc0 := 111) (pc' := 116) rfl (hb hby d2_111) rfl (teq (eqI rfl liI_128 c54)).1 (by decide) (by decide) k) ?_
          refine Go.st (fun _ k => XS.iload X6.here hx rfl (hb hby d2_116) rfl k) ?_
          show Go p e below s Q 0 0 (T6.setTop (mkF m 118 #[.val (.ref ar), .val (.int s0), .val (.int (4 : Int32)), .val (.int (4 : Int32)), .val (.int v44), .val (.int v52), .unset, .unset, .unset, .unset, .unset, .unset] [(.int v44)]))
          refine Go.st (fun _ k => XS.bipush X6.here hx rfl (hb hby d2_118) k) ?_
          refine Go.st (fun _ k => XS.ishl X6.here hx rfl (hb hby d2_120) rfl k) ?_
          refine Go.st (fun _ k => XS.iload X6.here hx rfl (hb hby d2_121) rfl k) ?_
          refine Go.st (fun _ k => XS.bipush X6.here hx rfl (hb hby d2_123) k) ?_
          refine Go.st (fun _ k => XS.iand X6.here hx rfl (hb hby d2_125) rfl k) ?_
          refine Go.st (fun _ k => XS.ior X6.here hx rfl (hb hby d2_126) rfl k) ?_
          show Go p e below s Q 0 0 (T6.setTop (mkF m 127 #[.val (.ref ar), .val (.int s0), .val (.int (4 : Int32)), .val (.int (4 : Int32)), .val (.int v44), .val (.int v52), .unset, .unset, .unset, .unset, .unset, .unset] [(.int ((v44 <<< ((6 : Int32) &&& 31)) ||| (v52 &&& (63 : Int32))))]))
          refine Go.st (fun _ k => XS.istore X6.here hx rfl (hb hby d2_127) rfl (l' := #[.val (.ref ar), .val (.int s0), .val (.int (4 : Int32)), .val (.int (4 : Int32)), .val (.int ((v44 <<< ((6 : Int32) &&& 31)) ||| (v52 &&& (63 : Int32)))), .val (.int v52), .unset, .unset, .unset, .unset, .unset, .unset]) rfl k) ?_
          show Go p e below s Q 0 0 (T6.setTop (mkF m 129 #[.val (.ref ar), .val (.int s0), .val (.int (4 : Int32)), .val (.int (4 : Int32)), .val (.int ((v44 <<< ((6 : Int32) &&& 31)) ||| (v52 &&& (63 : Int32)))), .val (.int v52), .unset, .unset, .unset, .unset, .unset, .unset] []))
          have f55 : ((v44 <<< ((6 : Int32) &&& 31)).toInt - v44.toInt * 64) % 4294967296 = 0 := c_ishl v44 (6 : Int32) 6 (by decide)
          have f56 := rng32 (v44 <<< ((6 : Int32) &&& 31))
          have f57 : (v52 &&& (63 : Int32)).toInt = v52.toInt % 64 := c_mask v52 (63 : Int32) 6 (by decide) (by decide)
          have f58 := c_or (v44 <<< ((6 : Int32) &&& 31)) (v52 &&& (63 : Int32)) 6 (by decide) 64 (by decide) (by omega) (by omega) (by omega)
          have f59 := rng32 ((v44 <<< ((6 : Int32) &&& 31)) ||| (v52 &&& (63 : Int32)))
          generalize hv_v60 : ((v44 <<< ((6 : Int32) &&& 31)) ||| (v52 &&& (63 : Int32))) = v60 at f58 f59 ⊢
          refine Go.st (fun _ k => XS.iloadN X6.here hx rfl (hb hby d2_129) rfl k) ?_
          refine Go.st (fun _ k => XS.iconst X6.here hx rfl (hb hby d2_130) k) ?_
          refine Go.st (fun _ k => XS.icmpNo X6.here hx rfl (hb hby d2_131) rfl (flt (nltI liI_4 liI_4 (by decide))).1 k) ?_
          refine Go.st (fun _ k => XS.aloadN X6.here hx rfl (hb hby d2_134) rfl rfl k) ?_
          refine Go.st (fun _ k => XS.iloadN X6.here hx rfl (hb hby d2_135) rfl k) ?_
          refine Go.st (fun _ k => XS.iconst X6.here hx rfl (hb hby d2_136) k) ?_
          show Go p e below s Q 0 0 (T6.setTop (mkF m 137 #[.val (.ref ar), .val (.int s0), .val (.int (4 : Int32)), .val (.int (4 : Int32)), .val (.int v60), .val (.int v52), .unset, .unset, .unset, .unset, .unset, .unset] [(.int (3 : Int32)), (.int s0), (.ref ar)]))
          refine Go.st (fun _ k => XS.iadd X6.here hx rfl (hb hby d2_137) rfl k) ?_
          have f62 := liI_3
          have f63 := c_iadd s0 (3 : Int32)
          have f64 := rng32 (s0 + (3 : Int32))
          have r65 : 0 ≤ (s0 + (3 : Int32)).toInt := by omega
          have r66 : (s0 + (3 : Int32)).toInt < (4 : Int32).toInt := by omega
          refine Go.st (Vec.ildI X6 hx hZ e6 hV (j := (s0 + (3 : Int32))) r65 r66 (g := (mkF m 138 #[.val (.ref ar), .val (.int s0), .val (.int (4 : Int32)), .val (.int (4 : Int32)), .val (.int v60), .val (.int v52), .unset, .unset, .unset, .unset, .unset, .unset] [(.int (s0 + (3 : Int32))), (.ref ar)])) rfl rfl (hb hby d2_138)) ?_
          show Go p e below s Q 0 0 (T6.setTop (mkF m 139 #[.val (.ref ar), .val (.int s0), .val (.int (4 : Int32)), .val (.int (4 : Int32)), .val (.int v60), .val (.int v52), .unset, .unset, .unset, .unset, .unset, .unset] [(.int (f (s0 + (3 : Int32)).toInt.toNat))]))
          refine Go.st (fun _ k => XS.istore X6.here hx rfl (hb hby d2_139) rfl (l' := #[.val (.ref ar), .val (.int s0), .val (.int (4 : Int32)), .val (.int (4 : Int32)), .val (.int v60), .val (.int (f (s0 + (3 : Int32)).toInt.toNat)), .unset, .unset, .unset, .unset, .unset, .unset]) rfl k) ?_
          show Go p e below s Q 0 0 (T6.setTop (mkF m 141 #[.val (.ref ar), .val (.int s0), .val (.int (4 : Int32)), .val (.int (4 : Int32)), .val (.int v60), .val (.int (f (s0 + (3 : Int32)).toInt.toNat)), .unset, .unset, .unset, .unset, .unset, .unset] []))
          have f67 := rng32 (f (s0 + (3 : Int32)).toInt.toNat)
          generalize hv_v68 : (f (s0 + (3 : Int32)).toInt.toNat) = v68 at f67 ⊢
          have hq3 : v68.toInt = c3.toInt := by rw [← hv_v68, ← hc3]; congr 2; omega
          refine Go.st (fun _ k => XS.iload X6.here hx rfl (hb hby d2_141) rfl k) ?_
          refine Go.st (fun _ k => XS.sipush X6.here hx rfl (hb hby d2_143) k) ?_
          refine Go.st (fun _ k => XS.iand X6.here hx rfl (hb hby d2_146) rfl k) ?_
          refine Go.st (fun _ k => XS.sipush X6.here hx rfl (hb hby d2_147) k) ?_
          have f69 := himask_192 v68 (by omega)
          by_cases c70 : (v68 &&& (192 : Int32)).toInt = 128
          ·
            refine Go.st (fun _ k => XS.icmpYes X6.here hx rfl (pc0 := 150) (pc' := 155) rfl (hb hby d2_150) rfl (teq (eqI rfl liI_128 c70)).1 (by decide) (by decide) k) ?_
            refine Go.st (fun _ k => XS.iload X6.here hx rfl (hb hby d2_155) rfl k) ?_
            show Go p e below s Q 0 0 (T6.setTop (mkF m 157 #[.val (.ref ar), .val (.int s0), .val (.int (4 : Int32)), .val (.int (4 : Int32)), .val (.int v60), .val (.int v68), .unset, .unset, .unset, .unset, .unset, .unset] [(.int v60)]))
            refine Go.st (fun _ k => XS.bipush X6.here hx rfl (hb hby d2_157) k) ?_
            refine Go.st (fun _ k => XS.ishl X6.here hx rfl (hb hby d2_159) rfl k) ?_
            refine Go.st (fun _ k => XS.iload X6.here hx rfl (hb hby d2_160) rfl k) ?_
            refine Go.st (fun _ k => XS.bipush X6.here hx rfl (hb hby d2_162) k) ?_
            refine Go.st (fun _ k => XS.iand X6.here hx rfl (hb hby d2_164) rfl k) ?_
            refine Go.st (fun _ k => XS.ior X6.here hx rfl (hb hby d2_165) rfl k) ?_
            show Go p e below s Q 0 0 (T6.setTop (mkF m 166 #[.val (.ref ar), .val (.int s0), .val (.int (4 : Int32)), .val (.int (4 : Int32)), .val (.int v60), .val (.int v68), .unset, .unset, .unset, .unset, .unset, .unset] [(.int ((v60 <<< ((6 : Int32) &&& 31)) ||| (v68 &&& (63 : Int32))))]))
            refine Go.st (fun _ k => XS.istore X6.here hx rfl (hb hby d2_166) rfl (l' := #[.val (.ref ar), .val (.int s0), .val (.int (4 : Int32)), .val (.int (4 : Int32)), .val (.int ((v60 <<< ((6 : Int32) &&& 31)) ||| (v68 &&& (63 : Int32)))), .val (.int v68), .unset, .unset, .unset, .unset, .unset, .unset]) rfl k) ?_
            show Go p e below s Q 0 0 (T6.setTop (mkF m 168 #[.val (.ref ar), .val (.int s0), .val (.int (4 : Int32)), .val (.int (4 : Int32)), .val (.int ((v60 <<< ((6 : Int32) &&& 31)) ||| (v68 &&& (63 : Int32)))), .val (.int v68), .unset, .unset, .unset, .unset, .unset, .unset] []))
            have f71 : ((v60 <<< ((6 : Int32) &&& 31)).toInt - v60.toInt * 64) % 4294967296 = 0 := c_ishl v60 (6 : Int32) 6 (by decide)
            have f72 := rng32 (v60 <<< ((6 : Int32) &&& 31))
            have f73 : (v68 &&& (63 : Int32)).toInt = v68.toInt % 64 := c_mask v68 (63 : Int32) 6 (by decide) (by decide)
            have f74 := c_or (v60 <<< ((6 : Int32) &&& 31)) (v68 &&& (63 : Int32)) 6 (by decide) 64 (by decide) (by omega) (by omega) (by omega)
            have f75 := rng32 ((v60 <<< ((6 : Int32) &&& 31)) ||| (v68 &&& (63 : Int32)))
            generalize hv_v76 : ((v60 <<< ((6 : Int32) &&& 31)) ||| (v68 &&& (63 : Int32))) = v76 at f74 f75 ⊢
            refine Go.st (fun _ k => XS.bipush X6.here hx rfl (hb hby d2_168) k) ?_
            refine Go.st (fun _ k => XS.iloadN X6.here hx rfl (hb hby d2_170) rfl k) ?_
            refine Go.st (fun _ k => XS.iloadN X6.here hx rfl (hb hby d2_171) rfl k) ?_
            refine Go.st (fun _ k => XS.isub X6.here hx rfl (hb hby d2_172) rfl k) ?_
            refine Go.st (fun _ k => XS.imul X6.here hx rfl (hb hby d2_173) rfl k) ?_
            refine Go.st (fun _ k => XS.istore X6.here hx rfl (hb hby d2_174) rfl (l' := #[.val (.ref ar), .val (.int s0), .val (.int (4 : Int32)), .val (.int (4 : Int32)), .val (.int v76), .val (.int (0 : Int32)), .unset, .unset, .unset, .unset, .unset, .unset]) rfl k) ?_
            show Go p e below s Q 0 0 (T6.setTop (mkF m 176 #[.val (.ref ar), .val (.int s0), .val (.int (4 : Int32)), .val (.int (4 : Int32)), .val (.int v76), .val (.int (0 : Int32)), .unset, .unset, .unset, .unset, .unset, .unset] []))
            refine Go.st (fun _ k => XS.iload X6.here hx rfl (hb hby d2_176) rfl k) ?_
            refine Go.st (fun _ k => XS.iload X6.here hx rfl (hb hby d2_178) rfl k) ?_
            refine Go.st (fun _ k => XS.ishl X6.here hx rfl (hb hby d2_180) rfl k) ?_
            refine Go.st (fun _ k => XS.istore X6.here hx rfl (hb hby d2_181) rfl (l' := #[.val (.ref ar), .val (.int s0), .val (.int (4 : Int32)), .val (.int (4 : Int32)), .val (.int v76), .val (.int (0 : Int32)), .val (.int (v76 <<< ((0 : Int32) &&& 31))), .unset, .unset, .unset, .unset, .unset]) rfl k) ?_
            show Go p e below s Q 0 0 (T6.setTop (mkF m 183 #[.val (.ref ar), .val (.int s0), .val (.int (4 : Int32)), .val (.int (4 : Int32)), .val (.int v76), .val (.int (0 : Int32)), .val (.int (v76 <<< ((0 : Int32) &&& 31))), .unset, .unset, .unset, .unset, .unset] []))
            have f77 := liI_0
            have f78 : ((v76 <<< ((0 : Int32) &&& 31)).toInt - v76.toInt * 1) % 4294967296 = 0 := c_ishl v76 (0 : Int32) 0 (by decide)
            have f79 := rng32 (v76 <<< ((0 : Int32) &&& 31))
            generalize hv_v80 : (v76 <<< ((0 : Int32) &&& 31)) = v80 at f78 f79 ⊢
            refine Go.st (fun _ k => XS.iload X6.here hx rfl (hb hby d2_183) rfl k) ?_
            refine Go.st (fun _ k => XS.iconst X6.here hx rfl (hb hby d2_185) k) ?_
            refine Go.st (fun _ k => XS.iload X6.here hx rfl (hb hby d2_186) rfl k) ?_
            refine Go.st (fun _ k => XS.ishl X6.here hx rfl (hb hby d2_188) rfl k) ?_
            refine Go.st (fun _ k => XS.iconst X6.here hx rfl (hb hby d2_189) k) ?_
            refine Go.st (fun _ k => XS.isub X6.here hx rfl (hb hby d2_190) rfl k) ?_
            show Go p e below s Q 0 0 (T6.setTop (mkF m 191 #[.val (.ref ar), .val (.int s0), .val (.int (4 : Int32)), .val (.int (4 : Int32)), .val (.int v76), .val (.int (0 : Int32)), .val (.int v80), .unset, .unset, .unset, .unset, .unset] [(.int (0 : Int32)), (.int v80)]))
            refine Go.st (fun _ k => XS.ior X6.here hx rfl (hb hby d2_191) rfl k) ?_
            refine Go.st (fun _ k => XS.istore X6.here hx rfl (hb hby d2_192) rfl (l' := #[.val (.ref ar), .val (.int s0), .val (.int (4 : Int32)), .val (.int (4 : Int32)), .val (.int v76), .val (.int (0 : Int32)), .val (.int v80), .val (.int (v80 ||| (0 : Int32))), .unset, .unset, .unset, .unset]) rfl k) ?_
            show Go p e below s Q 0 0 (T6.setTop (mkF m 194 #[.val (.ref ar), .val (.int s0), .val (.int (4 : Int32)), .val (.int (4 : Int32)), .val (.int v76), .val (.int (0 : Int32)), .val (.int v80), .val (.int (v80 ||| (0 : Int32))), .unset, .unset, .unset, .unset] []))
            have f81 := c_or v80 (0 : Int32) 0 (by decide) 1 (by decide) (by omega) (by omega) (by omega)
            have f82 := rng32 (v80 ||| (0 : Int32))
            generalize hv_v83 : (v80 ||| (0 : Int32)) = v83 at f81 f82 ⊢
            refine Go.st (fun _ k => XS.iloadN X6.here hx rfl (hb hby d2_194) rfl k) ?_
            refine Go.st (fun _ k => XS.iconst X6.here hx rfl (hb hby d2_195) k) ?_
            refine Go.st (fun _ k => XS.icmpYes X6.here hx rfl (pc0 := 196) (pc' := 203) rfl (hb hby d2_196) rfl (feq (neI liI_4 liI_1 (by decide))).2 (by decide) (by decide) k) ?_
            refine Go.st (fun _ k => XS.iloadN X6.here hx rfl (hb hby d2_203) rfl k) ?_
            refine Go.st (fun _ k => XS.iconst X6.here hx rfl (hb hby d2_204) k) ?_
            refine Go.st (fun _ k => XS.icmpYes X6.here hx rfl (pc0 := 205) (pc' := 214) rfl (hb hby d2_205) rfl (feq (neI liI_4 liI_2 (by decide))).2 (by decide) (by decide) k) ?_
            show Go p e below s Q 0 0 (T6.setTop (mkF m 214 #[.val (.ref ar), .val (.int s0), .val (.int (4 : Int32)), .val (.int (4 : Int32)), .val (.int v76), .val (.int (0 : Int32)), .val (.int v80), .val (.int v83), .unset, .unset, .unset, .unset] []))
            refine Go.st (fun _ k => XS.iloadN X6.here hx rfl (hb hby d2_214) rfl k) ?_
            refine Go.st (fun _ k => XS.iconst X6.here hx rfl (hb hby d2_215) k) ?_
            refine Go.st (fun _ k => XS.icmpYes X6.here hx rfl (pc0 := 216) (pc' := 225) rfl (hb hby d2_216) rfl (feq (neI liI_4 liI_3 (by decide))).2 (by decide) (by decide) k) ?_
            refine Go.st (X6.ldcInt hx hown (mvT hZ (hw _ (List.mem_of_getElem? (i := 48) rfl))) (g := (mkF m 225 #[.val (.ref ar), .val (.int s0), .val (.int (4 : Int32)), .val (.int (4 : Int32)), .val (.int v76), .val (.int (0 : Int32)), .val (.int v80), .val (.int v83), .unset, .unset, .unset, .unset] [])) rfl (hb hby d2_225)) ?_
            show Go p e below s Q 0 0 (T6.setTop (mkF m 227 #[.val (.ref ar), .val (.int s0), .val (.int (4 : Int32)), .val (.int (4 : Int32)), .val (.int v76), .val (.int (0 : Int32)), .val (.int v80), .val (.int v83), .unset, .unset, .unset, .unset] [(.int (65536 : Int32))]))
            refine Go.st (fun _ k => XS.istore X6.here hx rfl (hb hby d2_227) rfl (l' := #[.val (.ref ar), .val (.int s0), .val (.int (4 : Int32)), .val (.int (4 : Int32)), .val (.int v76), .val (.int (0 : Int32)), .val (.int v80), .val (.int v83), .val (.int (65536 : Int32)), .unset, .unset, .unset]) rfl k) ?_
            refine Go.st (fun _ k => XS.iloadN X6.here hx rfl (hb hby d2_229) rfl k) ?_
            refine Go.st (fun _ k => XS.iconst X6.here hx rfl (hb hby d2_230) k) ?_
            refine Go.st (fun _ k => XS.icmpYes X6.here hx rfl (pc0 := 231) (pc' := 239) rfl (hb hby d2_231) rfl (feq (neI liI_4 liI_1 (by decide))).2 (by decide) (by decide) k) ?_
            refine Go.st (fun _ k => XS.iloadN X6.here hx rfl (hb hby d2_239) rfl k) ?_
            refine Go.st (fun _ k => XS.iconst X6.here hx rfl (hb hby d2_240) k) ?_
            show Go p e below s Q 0 0 (T6.setTop (mkF m 241 #[.val (.ref ar), .val (.int s0), .val (.int (4 : Int32)), .val (.int (4 : Int32)), .val (.int v76), .val (.int (0 : Int32)), .val (.int v80), .val (.int v83), .val (.int (65536 : Int32)), .unset, .unset, .unset] [(.int (2 : Int32)), (.int (4 : Int32))]))
            refine Go.st (fun _ k => XS.icmpYes X6.here hx rfl (pc0 := 241) (pc' := 250) rfl (hb hby d2_241) rfl (feq (neI liI_4 liI_2 (by decide))).2 (by decide) (by decide) k) ?_
            refine Go.st (fun _ k => XS.iloadN X6.here hx rfl (hb hby d2_250) rfl k) ?_
            refine Go.st (fun _ k => XS.iconst X6.here hx rfl (hb hby d2_251) k) ?_
            refine Go.st (fun _ k => XS.icmpYes X6.here hx rfl (pc0 := 252) (pc' := 260) rfl (hb hby d2_252) rfl (feq (neI liI_4 liI_3 (by decide))).2 (by decide) (by decide) k) ?_
            refine Go.st (X6.ldcInt hx hown (mvT hZ (hw _ (List.mem_of_getElem? (i := 49) rfl))) (g := (mkF m 260 #[.val (.ref ar), .val (.int s0), .val (.int (4 : Int32)), .val (.int (4 : Int32)), .val (.int v76), .val (.int (0 : Int32)), .val (.int v80), .val (.int v83), .val (.int (65536 : Int32)), .unset, .unset, .unset] [])) rfl (hb hby d2_260)) ?_
            show Go p e below s Q 0 0 (T6.setTop (mkF m 262 #[.val (.ref ar), .val (.int s0), .val (.int (4 : Int32)), .val (.int (4 : Int32)), .val (.int v76), .val (.int (0 : Int32)), .val (.int v80), .val (.int v83), .val (.int (65536 : Int32)), .unset, .unset, .unset] [(.int (1114111 : Int32))]))
            refine Go.st (fun _ k => XS.istore X6.here hx rfl (hb hby d2_262) rfl (l' := #[.val (.ref ar), .val (.int s0), .val (.int (4 : Int32)), .val (.int (4 : Int32)), .val (.int v76), .val (.int (0 : Int32)), .val (.int v80), .val (.int v83), .val (.int (65536 : Int32)), .val (.int (1114111 : Int32)), .unset, .unset]) rfl k) ?_
            refine Go.st (fun _ k => XS.iload X6.here hx rfl (hb hby d2_264) rfl k) ?_
            refine Go.st (fun _ k => XS.iload X6.here hx rfl (hb hby d2_266) rfl k) ?_
            have f85 := liI_65536
            obtain ⟨_, _, ⟨T84, L84, k84, n84⟩, -, X84, ⟨Lc84, hQ84, l84, y84, z84⟩, st84⟩ := Jvm.LawKit.callS X6 hx (y := (⟨"java/lang/Math", "max", "(II)I"⟩ : MethodName)) hown (mvT hZ (hw _ (List.mem_of_getElem? (i := 13) rfl))) (mvT hZ (hw _ (List.mem_of_getElem? (i := 14) rfl))) (mvT hZ (hw _ (List.mem_of_getElem? (i := 15) rfl))) (mvT hZ (hw _ (List.mem_of_getElem? (i := 16) rfl))) (by decide) (backOf (W := 0) (rm4 l Z a0 hw [] v80 (65536 : Int32) h0 n0 (Nat.le_trans Z0 K0.1) ) hZ (hw _ (List.mem_of_getElem? (i := 16) rfl)) (hw _ (List.mem_of_getElem? (i := 15) rfl)) (by decide) (by decide)) (g := (mkF m 268 #[.val (.ref ar), .val (.int s0), .val (.int (4 : Int32)), .val (.int (4 : Int32)), .val (.int v76), .val (.int (0 : Int32)), .val (.int v80), .val (.int v83), .val (.int (65536 : Int32)), .val (.int (1114111 : Int32)), .unset, .unset] [(.int (65536 : Int32)), (.int v80)])) rfl (by rw [hml]; rfl) (argsL := [(.int v80), (.int (65536 : Int32))]) (rest := []) (lenOf pd_1 rfl) rfl (by show 2 * 0 + _ ≤ _; exact Nat.le_of_eq rfl) (hb hby d2_268) (fun _ _ => ⟨rfl, e6, (by decide : 0 + 0 ≤ _), (by decide : 0 + 0 ≤ _)⟩)
            dsimp only [Pt.U, Pt.locs, Pt.cells, Pt.slots] at X84 l84 y84 z84 st84 hQ84
            subst y84 z84
            obtain ⟨r_86, rfl, N84q, f87, e84⟩ := hQ84
            have N84 : Fr n0 L84 := by rw [l84]; exact Fr.app N6 N84q
            refine Go.st st84 ?_
            show Go p e below s Q 0 0 (T84.setTop (mkF m 271 #[.val (.ref ar), .val (.int s0), .val (.int (4 : Int32)), .val (.int (4 : Int32)), .val (.int v76), .val (.int (0 : Int32)), .val (.int v80), .val (.int v83), .val (.int (65536 : Int32)), .val (.int (1114111 : Int32)), .unset, .unset] [(.int r_86)]))
            have f88 := rng32 r_86
            refine Go.st (fun _ k => XS.istore X84.here hx rfl (hb hby d2_271) rfl (l' := #[.val (.ref ar), .val (.int s0), .val (.int (4 : Int32)), .val (.int (4 : Int32)), .val (.int v76), .val (.int (0 : Int32)), .val (.int v80), .val (.int v83), .val (.int (65536 : Int32)), .val (.int (1114111 : Int32)), .val (.int r_86), .unset]) rfl k) ?_
            refine Go.st (fun _ k => XS.iload X84.here hx rfl (hb hby d2_273) rfl k) ?_
            refine Go.st (fun _ k => XS.iload X84.here hx rfl (hb hby d2_275) rfl k) ?_
            have f90 := liI_1114111
            obtain ⟨_, _, ⟨T89, L89, k89, n89⟩, -, X89, ⟨Lc89, hQ89, l89, y89, z89⟩, st89⟩ := Jvm.LawKit.callS X84 hx (y := (⟨"java/lang/Math", "min", "(II)I"⟩ : MethodName)) hown (mvT hZ (hw _ (List.mem_of_getElem? (i := 17) rfl))) (mvT hZ (hw _ (List.mem_of_getElem? (i := 18) rfl))) (mvT hZ (hw _ (List.mem_of_getElem? (i := 15) rfl))) (mvT hZ (hw _ (List.mem_of_getElem? (i := 19) rfl))) (by decide) (backOf (W := 0) (rm5 l Z a0 hw [] v83 (1114111 : Int32) h0 n0 (Nat.le_trans Z0 K0.1) ) hZ (hw _ (List.mem_of_getElem? (i := 19) rfl)) (hw _ (List.mem_of_getElem? (i := 15) rfl)) (by decide) (by decide)) (g := (mkF m 277 #[.val (.ref ar), .val (.int s0), .val (.int (4 : Int32)), .val (.int (4 : Int32)), .val (.int v76), .val (.int (0 : Int32)), .val (.int v80), .val (.int v83), .val (.int (65536 : Int32)), .val (.int (1114111 : Int32)), .val (.int r_86), .unset] [(.int (1114111 : Int32)), (.int v83)])) rfl (by rw [hml]; rfl) (argsL := [(.int v83), (.int (1114111 : Int32))]) (rest := []) (lenOf pd_1 rfl) rfl (by show 2 * 0 + _ ≤ _; exact Nat.le_of_eq rfl) (hb hby d2_277) (fun _ _ => ⟨rfl, e84, (by decide : 0 + 0 ≤ _), (by decide : 0 + 0 ≤ _)⟩)
            dsimp only [Pt.U, Pt.locs, Pt.cells, Pt.slots] at X89 l89 y89 z89 st89 hQ89
            subst y89 z89
            obtain ⟨r_91, rfl, N89q, f92, e89⟩ := hQ89
            have N89 : Fr n0 L89 := by rw [l89]; exact Fr.app N84 N89q
            refine Go.st st89 ?_
            show Go p e below s Q 0 0 (T89.setTop (mkF m 280 #[.val (.ref ar), .val (.int s0), .val (.int (4 : Int32)), .val (.int (4 : Int32)), .val (.int v76), .val (.int (0 : Int32)), .val (.int v80), .val (.int v83), .val (.int (65536 : Int32)), .val (.int (1114111 : Int32)), .val (.int r_86), .unset] [(.int r_91)]))
            have f93 := rng32 r_91
            refine Go.st (fun _ k => XS.istore X89.here hx rfl (hb hby d2_280) rfl (l' := #[.val (.ref ar), .val (.int s0), .val (.int (4 : Int32)), .val (.int (4 : Int32)), .val (.int v76), .val (.int (0 : Int32)), .val (.int v80), .val (.int v83), .val (.int (65536 : Int32)), .val (.int (1114111 : Int32)), .val (.int r_86), .val (.int r_91)]) rfl k) ?_
            refine Go.st (fun _ k => XS.iload X89.here hx rfl (hb hby d2_282) rfl k) ?_
            refine Go.st (fun _ k => XS.iload X89.here hx rfl (hb hby d2_284) rfl k) ?_
            by_cases c94 : r_91.toInt < r_86.toInt
            ·
              refine Go.st (fun _ k => XS.icmpYes X89.here hx rfl (pc0 := 286) (pc' := 307) rfl (hb hby d2_286) rfl (tlt (ltI rfl rfl c94)).2.2.1 (by decide) (by decide) k) ?_
              refine Go.st (fun _ k => XS.iconst X89.here hx rfl (hb hby d2_307) k) ?_
              show Go p e below s Q 0 0 (T89.setTop (mkF m 308 #[.val (.ref ar), .val (.int s0), .val (.int (4 : Int32)), .val (.int (4 : Int32)), .val (.int v76), .val (.int (0 : Int32)), .val (.int v80), .val (.int v83), .val (.int (65536 : Int32)), .val (.int (1114111 : Int32)), .val (.int r_86), .val (.int r_91)] [(.int (0 : Int32))]))
              exact Go.retN X89 hx hlk (by simp) Bd.returns (hb hby d2_308) (z' := (0 : Int32)) (by decide) (by rw [← hQ, e89]; exact ⟨(0 : Int32), rfl, N89, (by refine Or.inr ⟨by omega, ?_⟩; rintro ⟨hv, nn, hn⟩; unfold Vbl SecOk at hv; unfold LenIs at hn; omega), rfl⟩) (by decide) (by decide)
            ·
              refine Go.st (fun _ k => XS.icmpNo X89.here hx rfl (hb hby d2_286) rfl (flt (nltI rfl rfl c94)).2.2.1 k) ?_
              refine Go.st (fun _ k => XS.iload X89.here hx rfl (hb hby d2_289) rfl k) ?_
              refine Go.st (X89.ldcInt hx hown (mvT hZ (hw _ (List.mem_of_getElem? (i := 20) rfl))) (g := (mkF m 291 #[.val (.ref ar), .val (.int s0), .val (.int (4 : Int32)), .val (.int (4 : Int32)), .val (.int v76), .val (.int (0 : Int32)), .val (.int v80), .val (.int v83), .val (.int (65536 : Int32)), .val (.int (1114111 : Int32)), .val (.int r_86), .val (.int r_91)] [(.int r_86)])) rfl (hb hby d2_291)) ?_
              show Go p e below s Q 0 0 (T89.setTop (mkF m 293 #[.val (.ref ar), .val (.int s0), .val (.int (4 : Int32)), .val (.int (4 : Int32)), .val (.int v76), .val (.int (0 : Int32)), .val (.int v80), .val (.int v83), .val (.int (65536 : Int32)), .val (.int (1114111 : Int32)), .val (.int r_86), .val (.int r_91)] [(.int (55296 : Int32)), (.int r_86)]))
              have f95 := liI_55296
              by_cases c96 : r_86.toInt < 55296
              ·
                refine Go.st (fun _ k => XS.icmpYes X89.here hx rfl (pc0 := 293) (pc' := 303) rfl (hb hby d2_293) rfl (tlt (ltI rfl liI_55296 c96)).1 (by decide) (by decide) k) ?_
                refine Go.st (fun _ k => XS.iconst X89.here hx rfl (hb hby d2_303) k) ?_
                refine Go.st (fun _ k => XS.goto X89.here hx rfl (pc0 := 304) (pc' := 308) rfl (hb hby d2_304) (by decide) (by decide) k) ?_
                show Go p e below s Q 0 0 (T89.setTop (mkF m 308 #[.val (.ref ar), .val (.int s0), .val (.int (4 : Int32)), .val (.int (4 : Int32)), .val (.int v76), .val (.int (0 : Int32)), .val (.int v80), .val (.int v83), .val (.int (65536 : Int32)), .val (.int (1114111 : Int32)), .val (.int r_86), .val (.int r_91)] [(.int (1 : Int32))]))
                exact Go.retN X89 hx hlk (by simp) Bd.returns (hb hby d2_308) (z' := (1 : Int32)) (by decide) (by rw [← hQ, e89]; exact ⟨(1 : Int32), rfl, N89, (by exact Or.inl ⟨by omega, (by unfold Vbl SecOk; omega), 4, (by unfold LenIs; omega)⟩), rfl⟩) (by decide) (by decide)
              ·
                refine Go.st (fun _ k => XS.icmpNo X89.here hx rfl (hb hby d2_293) rfl (flt (nltI rfl liI_55296 c96)).1 k) ?_
                refine Go.st (fun _ k => XS.iload X89.here hx rfl (hb hby d2_296) rfl k) ?_
                refine Go.st (X89.ldcInt hx hown (mvT hZ (hw _ (List.mem_of_getElem? (i := 47) rfl))) (g := (mkF m 298 #[.val (.ref ar), .val (.int s0), .val (.int (4 : Int32)), .val (.int (4 : Int32)), .val (.int v76), .val (.int (0 : Int32)), .val (.int v80), .val (.int v83), .val (.int (65536 : Int32)), .val (.int (1114111 : Int32)), .val (.int r_86), .val (.int r_91)] [(.int r_91)])) rfl (hb hby d2_298)) ?_
                show Go p e below s Q 0 0 (T89.setTop (mkF m 300 #[.val (.ref ar), .val (.int s0), .val (.int (4 : Int32)), .val (.int (4 : Int32)), .val (.int v76), .val (.int (0 : Int32)), .val (.int v80), .val (.int v83), .val (.int (65536 : Int32)), .val (.int (1114111 : Int32)), .val (.int r_86), .val (.int r_91)] [(.int (57343 : Int32)), (.int r_91)]))
                have f97 := liI_57343
                by_cases c98 : 57343 < r_91.toInt
                ·
                  refine Go.st (fun _ k => XS.icmpNo X89.here hx rfl (hb hby d2_300) rfl (tlt (ltI liI_57343 rfl c98)).2.2.2 k) ?_
                  refine Go.st (fun _ k => XS.iconst X89.here hx rfl (hb hby d2_303) k) ?_
                  refine Go.st (fun _ k => XS.goto X89.here hx rfl (pc0 := 304) (pc' := 308) rfl (hb hby d2_304) (by decide) (by decide) k) ?_
                  show Go p e below s Q 0 0 (T89.setTop (mkF m 308 #[.val (.ref ar), .val (.int s0), .val (.int (4 : Int32)), .val (.int (4 : Int32)), .val (.int v76), .val (.int (0 : Int32)), .val (.int v80), .val (.int v83), .val (.int (65536 : Int32)), .val (.int (1114111 : Int32)), .val (.int r_86), .val (.int r_91)] [(.int (1 : Int32))]))
                  exact Go.retN X89 hx hlk (by simp) Bd.returns (hb hby d2_308) (z' := (1 : Int32)) (by decide) (by rw [← hQ, e89]; exact ⟨(1 : Int32), rfl, N89, (by exact Or.inl ⟨by omega, (by unfold Vbl SecOk; omega), 4, (by unfold LenIs; omega)⟩), rfl⟩) (by decide) (by decide)
                ·
                  refine Go.st (fun _ k => XS.icmpYes X89.here hx rfl (pc0 := 300) (pc' := 307) rfl (hb hby d2_300) rfl (flt (nltI liI_57343 rfl c98)).2.2.2 (by decide) (by decide) k) ?_
                  refine Go.st (fun _ k => XS.iconst X89.here hx rfl (hb hby d2_307) k) ?_
                  show Go p e below s Q 0 0 (T89.setTop (mkF m 308 #[.val (.ref ar), .val (.int s0), .val (.int (4 : Int32)), .val (.int (4 : Int32)), .val (.int v76), .val (.int (0 : Int32)), .val (.int v80), .val (.int v83), .val (.int (65536 : Int32)), .val (.int (1114111 : Int32)), .val (.int r_86), .val (.int r_91)] [(.int (0 : Int32))]))
                  exact Go.retN X89 hx hlk (by simp) Bd.returns (hb hby d2_308) (z' := (0 : Int32)) (by decide) (by rw [← hQ, e89]; exact ⟨(0 : Int32), rfl, N89, (by refine Or.inr ⟨by omega, ?_⟩; rintro ⟨hv, nn, hn⟩; unfold Vbl SecOk at hv; unfold LenIs at hn; omega), rfl⟩) (by decide) (by decide)
          ·
            refine Go.st (fun _ k => XS.icmpNo X6.here hx rfl (hb hby d2_150) rfl (feq (neI rfl liI_128 c70)).1 k) ?_
            refine Go.st (fun _ k => XS.iconst X6.here hx rfl (hb hby d2_153) k) ?_
            show Go p e below s Q 0 0 (T6.setTop (mkF m 154 #[.val (.ref ar), .val (.int s0), .val (.int (4 : Int32)), .val (.int (4 : Int32)), .val (.int v60), .val (.int v68), .unset, .unset, .unset, .unset, .unset, .unset] [(.int (0 : Int32))]))
            have f99 := liI_0
            exact Go.retN X6 hx hlk (by simp) Bd.returns (hb hby d2_154) (z' := (0 : Int32)) (by decide) (by rw [← hQ, e6]; exact ⟨(0 : Int32), rfl, N6, (by refine Or.inr ⟨by omega, ?_⟩; rintro ⟨hv, nn, hn⟩; unfold Vbl SecOk at hv; unfold LenIs at hn; omega), rfl⟩) (by decide) (by decide)
        ·
          refine Go.st (fun _ k => XS.icmpNo X6.here hx rfl (hb hby d2_111) rfl (feq (neI rfl liI_128 c54)).1 k) ?_
          refine Go.st (fun _ k => XS.iconst X6.here hx rfl (hb hby d2_114) k) ?_
          show Go p e below s Q 0 0 (T6.setTop (mkF m 115 #[.val (.ref ar), .val (.int s0), .val (.int (4 : Int32)), .val (.int (4 : Int32)), .val (.int v44), .val (.int v52), .unset, .unset, .unset, .unset, .unset, .unset] [(.int (0 : Int32))]))
          have f100 := liI_0
          exact Go.retN X6 hx hlk (by simp) Bd.returns (hb hby d2_115) (z' := (0 : Int32)) (by decide) (by rw [← hQ, e6]; exact ⟨(0 : Int32), rfl, N6, (by refine Or.inr ⟨by omega, ?_⟩; rintro ⟨hv, nn, hn⟩; unfold Vbl SecOk at hv; unfold LenIs at hn; omega), rfl⟩) (by decide) (by decide)
      ·
        refine Go.st (fun _ k => XS.icmpNo X6.here hx rfl (hb hby d2_72) rfl (feq (neI rfl liI_128 c36)).1 k) ?_
        refine Go.st (fun _ k => XS.iconst X6.here hx rfl (hb hby d2_75) k) ?_
        show Go p e below s Q 0 0 (T6.setTop (mkF m 76 #[.val (.ref ar), .val (.int s0), .val (.int (4 : Int32)), .val (.int (4 : Int32)), .val (.int v24), .val (.int v32), .unset, .unset, .unset, .unset, .unset, .unset] [(.int (0 : Int32))]))
        have f101 := liI_0
        exact Go.retN X6 hx hlk (by simp) Bd.returns (hb hby d2_76) (z' := (0 : Int32)) (by decide) (by rw [← hQ, e6]; exact ⟨(0 : Int32), rfl, N6, (by refine Or.inr ⟨by omega, ?_⟩; rintro ⟨hv, nn, hn⟩; unfold Vbl SecOk at hv; unfold LenIs at hn; omega), rfl⟩) (by decide) (by decide)
theorem d1_0 : decode method_4_code 0 = .ok (.iload_n 1, 1) := by decide +kernel
theorem d1_1 : decode method_4_code 1 = .ok (.ifCond .ge 5, 3) := by decide +kernel
theorem d1_4 : decode method_4_code 4 = .ok (.iload_n 1, 1) := by decide +kernel
theorem d1_5 : decode method_4_code 5 = .ok (.ireturn, 1) := by decide +kernel
theorem d1_6 : decode method_4_code 6 = .ok (.iload_n 2, 1) := by decide +kernel
theorem d1_7 : decode method_4_code 7 = .ok (.iload_n 1, 1) := by decide +kernel
theorem d1_8 : decode method_4_code 8 = .ok (.isub, 1) := by decide +kernel
theorem d1_9 : decode method_4_code 9 = .ok (.iconst 1, 1) := by decide +kernel
theorem d1_10 : decode method_4_code 10 = .ok (.iadd, 1) := by decide +kernel
theorem d1_11 : decode method_4_code 11 = .ok (.istore_n 3, 1) := by decide +kernel
theorem d1_12 : decode method_4_code 12 = .ok (.aload_n 0, 1) := by decide +kernel
theorem d1_13 : decode method_4_code 13 = .ok (.iload_n 1, 1) := by decide +kernel
theorem d1_14 : decode method_4_code 14 = .ok (.iload_n 3, 1) := by decide +kernel
theorem pd_2 : parseMethodDescriptor "([III)Z" = some ⟨[(.array .int), .int, .int], some .boolean⟩ := by decide +kernel
theorem d1_15 : decode method_4_code 15 = .ok (.invokestatic 27, 3) := by decide +kernel
theorem d1_18 : decode method_4_code 18 = .ok (.ifCond .ne 7, 3) := by decide +kernel
theorem d1_21 : decode method_4_code 21 = .ok (.iconst (-1), 1) := by decide +kernel
theorem d1_22 : decode method_4_code 22 = .ok (.iload_n 2, 1) := by decide +kernel
theorem d1_23 : decode method_4_code 23 = .ok (.isub, 1) := by decide +kernel
theorem liI_m1 : (-1 : Int32).toInt = -1 := by decide
theorem d1_24 : decode method_4_code 24 = .ok (.ireturn, 1) := by decide +kernel
theorem d1_25 : decode method_4_code 25 = .ok (.iload_n 3, 1) := by decide +kernel
theorem d1_26 : decode method_4_code 26 = .ok (.aload_n 0, 1) := by decide +kernel
theorem d1_27 : decode method_4_code 27 = .ok (.iload_n 1, 1) := by decide +kernel
theorem d1_28 : decode method_4_code 28 = .ok (.iaload, 1) := by decide +kernel
theorem d1_29 : decode method_4_code 29 = .ok (.invokestatic 7, 3) := by decide +kernel
theorem d1_32 : decode method_4_code 32 = .ok (.if_icmp .ne 7, 3) := by decide +kernel
theorem d1_35 : decode method_4_code 35 = .ok (.iload_n 2, 1) := by decide +kernel
theorem d1_36 : decode method_4_code 36 = .ok (.iconst 1, 1) := by decide +kernel
theorem d1_37 : decode method_4_code 37 = .ok (.iadd, 1) := by decide +kernel
theorem d1_38 : decode method_4_code 38 = .ok (.ireturn, 1) := by decide +kernel
theorem d1_39 : decode method_4_code 39 = .ok (.iload_n 1, 1) := by decide +kernel
theorem d1_40 : decode method_4_code 40 = .ok (.ireturn, 1) := by decide +kernel
theorem ef_rms_0 (m : MethodId) (ar : Addr) (s0 : Int32) : entryFrame m #[(.ref ar), (.int s0), (.int (0 : Int32))] 4 = mkF m 0 #[.val (.ref ar), .val (.int s0), .val (.int (0 : Int32)), .unset] [] := by first | (simp [entryFrame, mkF, argsToLocals, Value.category]; done) | rfl
def Qs_0 (Z : State) (ar : Addr) (s0 : Int32) (b0 : Int32) (b1 : Int32) (b2 : Int32) (b3 : Int32) (h0 : Heap) (n0 : Nat) (vv : Option Value) (h : Heap) (LL : List Loc) : Prop := ∃ (r : Int32), vv = some (.int r) ∧ Fr n0 LL ∧ ((s0.toInt < 0 → r.toInt = s0.toInt) ∧ (0 ≤ s0.toInt → StepIs (BB b0 b1 b2 b3) 0 s0.toInt r.toInt)) ∧ h = h0
set_option maxRecDepth 65536 in
set_option maxHeartbeats 40000000 in
theorem rms_0 (l : Launch) (Z : State) (a0 : Array Value) (hw : ∀ d ∈ tables_1, d.before a0 Z = true) (ws : List Jvm.Cond) (ar : Addr) (s0 : Int32) (b0 : Int32) (b1 : Int32) (b2 : Int32) (b3 : Int32) (h0 : Heap) (n0 : Nat) (Z0 : n0 ≤ h0.size) (hV : Vec Z h0 ar .int (4 : Int32) (ints (lst [b0, b1, b2, b3]))) (hr0 : 0 ≤ b0.toInt ∧ b0.toInt ≤ 255) (hr1 : 0 ≤ b1.toInt ∧ b1.toInt ≤ 255) (hr2 : 0 ≤ b2.toInt ∧ b2.toInt ≤ 255) (hr3 : 0 ≤ b3.toInt ∧ b3.toInt ≤ 255) (hs0 : s0.toInt < 0 ∨ ∃ p l m, Cpl (BB b0 b1 b2 b3) 0 s0.toInt p l m) :
    MetFree l (⟨"com/example/ballast/ballast/json/Utf8CheckPinLaw", "step", "([III)I"⟩ : MethodName) (head1 (Jvm.Cond.code (⟨"com/example/ballast/ballast/json/Utf8CheckPinLaw", "step", "([III)I"⟩ : MethodName) method_4_code 4 (some .int) :: ws) ({ frames := 2, cells := 0, slots := 0, locals := 36 } : Room)) (fun aa UU => aa = #[(.ref ar), (.int s0), (.int (0 : Int32))] ∧ Z.Warmed39 UU.vm ∧ UU.heap = h0) (fun _ _ _ _ _ => True) (fun _ UU oo UU' => ∃ vv LL, oo = .returned vv ∧ Qs_0 Z ar s0 b0 b1 b2 b3 h0 n0 vv UU'.heap LL ∧ FrameEnd UU oo UU' LL 0 0) := by
  refine MetFree.of_bodySF (plainFor_of_name pn_0) hisR ?_
  intro p e s m args below meth c s₁ Bd hml0 hP hK
  obtain ⟨rfl, hZ, hh⟩ := hP
  have hx := Bd.exec
  have hby := Bd.bytes
  have hlk : meth.locks = false := BodyLoose.notSynchronized Bd
  have hml : c.maxLocals = 4 := hml0
  have hown : s.vm.findClass "com/example/ballast/ballast/json/Utf8CheckPinLaw" = some m.cls := findClass_of_methodNamed Bd.named
  have hnm := (name_of_methodNamed Bd.named Bd.method).1
  have X0 : Stand p l e ({ frames := 2, cells := 0, slots := 0, locals := 36 } : Room) s m #[(.ref ar), (.int s0), (.int (0 : Int32))] below meth c s₁ [] 0 0 := Stand.of_body Bd
  have e0 : s₁.heap = h0 := by rw [← hh, Bd.state]; rfl
  have N0 := Fr.nil n0
  have K0 : Keep h0 h0 [] := Keep.refl h0 _
  refine (?_ : Go p e below s (Qs_0 Z ar s0 b0 b1 b2 b3 h0 n0) 0 0 (s₁.setTop (entryFrame m #[(.ref ar), (.int s0), (.int (0 : Int32))] 4)))
  rw [ef_rms_0]
  generalize hQ : Qs_0 Z ar s0 b0 b1 b2 b3 h0 n0 = Q
  have hBr : ∀ j : Nat, 0 ≤ ((lst [b0, b1, b2, b3]) j).toInt ∧ ((lst [b0, b1, b2, b3]) j).toInt ≤ 255 := BB_rng hr0 hr1 hr2 hr3
  show Go p e below s Q 0 0 (s₁.setTop (mkF m 0 #[.val (.ref ar), .val (.int s0), .val (.int (0 : Int32)), .unset] []))
  have f1 := rng32 s0
  have f2 := liI_0
  refine Go.st (fun _ k => XS.iloadN X0.here hx rfl (hb hby d1_0) rfl k) ?_
  by_cases c3 : s0.toInt < 0
  ·
    refine Go.st (fun _ k => XS.ifNo X0.here hx rfl (hb hby d1_1) rfl ((if0 _ _).trans (tlt (ltI rfl liI_0 c3)).2.1) k) ?_
    refine Go.st (fun _ k => XS.iloadN X0.here hx rfl (hb hby d1_4) rfl k) ?_
    show Go p e below s Q 0 0 (s₁.setTop (mkF m 5 #[.val (.ref ar), .val (.int s0), .val (.int (0 : Int32)), .unset] [(.int s0)]))
    exact Go.retI X0 hx hlk Bd.returns (hb hby d1_5) (by rw [← hQ, e0]; exact ⟨s0, rfl, N0, (by exact ⟨fun _ => rfl, fun h => by omega⟩), rfl⟩) (by decide) (by decide)
  ·
    refine Go.st (fun _ k => XS.ifYes X0.here hx rfl (pc0 := 1) (pc' := 6) rfl (hb hby d1_1) rfl ((if0 _ _).trans (flt (nltI rfl liI_0 c3)).2.1) (by decide) (by decide) k) ?_
    show Go p e below s Q 0 0 (s₁.setTop (mkF m 6 #[.val (.ref ar), .val (.int s0), .val (.int (0 : Int32)), .unset] []))
    have hcp : ∃ p l m, Cpl (BB b0 b1 b2 b3) 0 s0.toInt p l m := hs0.elim (fun q => absurd q (by omega)) id
    have cs4 : s0.toInt = 0 := by obtain ⟨p, l, m, q⟩ := hcp; rcases q with ⟨q, -⟩ | ⟨d, n, q1, q2, q3, -⟩ <;> omega
    ·
      have cs4' : s0 = (0 : Int32) := eqI cs4 liI_0 rfl
      subst cs4'
      show Go p e below s Q 0 0 (s₁.setTop (mkF m 6 #[.val (.ref ar), .val (.int (0 : Int32)), .val (.int (0 : Int32)), .unset] []))
      refine Go.st (fun _ k => XS.iloadN X0.here hx rfl (hb hby d1_6) rfl k) ?_
      refine Go.st (fun _ k => XS.iloadN X0.here hx rfl (hb hby d1_7) rfl k) ?_
      refine Go.st (fun _ k => XS.isub X0.here hx rfl (hb hby d1_8) rfl k) ?_
      refine Go.st (fun _ k => XS.iconst X0.here hx rfl (hb hby d1_9) k) ?_
      refine Go.st (fun _ k => XS.iadd X0.here hx rfl (hb hby d1_10) rfl k) ?_
      refine Go.st (fun _ k => XS.istoreN X0.here hx rfl (hb hby d1_11) rfl (l' := #[.val (.ref ar), .val (.int (0 : Int32)), .val (.int (0 : Int32)), .val (.int (1 : Int32))]) rfl k) ?_
      show Go p e below s Q 0 0 (s₁.setTop (mkF m 12 #[.val (.ref ar), .val (.int (0 : Int32)), .val (.int (0 : Int32)), .val (.int (1 : Int32))] []))
      refine Go.st (fun _ k => XS.aloadN X0.here hx rfl (hb hby d1_12) rfl rfl k) ?_
      refine Go.st (fun _ k => XS.iloadN X0.here hx rfl (hb hby d1_13) rfl k) ?_
      refine Go.st (fun _ k => XS.iloadN X0.here hx rfl (hb hby d1_14) rfl k) ?_
      show Go p e below s Q 0 0 (s₁.setTop (mkF m 15 #[.val (.ref ar), .val (.int (0 : Int32)), .val (.int (0 : Int32)), .val (.int (1 : Int32))] [(.int (1 : Int32)), (.int (0 : Int32)), (.ref ar)]))
      have f6 := rng32 b0
      have f7 := rng32 b1
      have f8 := rng32 b2
      have f9 := rng32 b3
      have f10 := liI_1
      obtain ⟨_, _, ⟨T5, L5, k5, n5⟩, -, X5, ⟨Lc5, hQ5, l5, y5, z5⟩, st5⟩ := Jvm.LawKit.callS X0 hx (y := (⟨"com/example/ballast/ballast/json/Utf8CheckPinLaw", "viable", "([III)Z"⟩ : MethodName)) hown (mvT hZ (hw _ (List.mem_of_getElem? (i := 7) rfl))) (mvT hZ (hw _ (List.mem_of_getElem? (i := 8) rfl))) (mvT hZ (hw _ (List.mem_of_getElem? (i := 5) rfl))) (mvT hZ (hw _ (List.mem_of_getElem? (i := 9) rfl))) (by decide) (backOf (W := 0) (rmv_1 l Z a0 hw [] ar (0 : Int32) (lst [b0, b1, b2, b3]) b0 b1 b2 b3 h0 n0 (Nat.le_trans Z0 K0.1) hV hBr (by decide) rfl) hZ (hw _ (List.mem_of_getElem? (i := 9) rfl)) (hw _ (List.mem_of_getElem? (i := 5) rfl)) (by decide) (by decide)) (g := (mkF m 15 #[.val (.ref ar), .val (.int (0 : Int32)), .val (.int (0 : Int32)), .val (.int (1 : Int32))] [(.int (1 : Int32)), (.int (0 : Int32)), (.ref ar)])) rfl (by rw [hml]; rfl) (argsL := [(.ref ar), (.int (0 : Int32)), (.int (1 : Int32))]) (rest := []) (lenOf pd_2 rfl) rfl (by show 2 * 0 + _ ≤ _; exact Nat.le_of_eq rfl) (hb hby d1_15) (fun _ _ => ⟨rfl, e0, (by decide : 0 + 0 ≤ _), (by decide : 0 + 0 ≤ _)⟩)
      dsimp only [Pt.U, Pt.locs, Pt.cells, Pt.slots] at X5 l5 y5 z5 st5 hQ5
      subst y5 z5
      obtain ⟨r_11, rfl, N5q, f12, e5⟩ := hQ5
      have N5 : Fr n0 L5 := by rw [l5]; exact Fr.app N0 N5q
      refine Go.st st5 ?_
      show Go p e below s Q 0 0 (T5.setTop (mkF m 18 #[.val (.ref ar), .val (.int (0 : Int32)), .val (.int (0 : Int32)), .val (.int (1 : Int32))] [(.int r_11)]))
      have f13 := rng32 r_11
      by_cases c14 : r_11.toInt = 0
      ·
        refine Go.st (fun _ k => XS.ifNo X5.here hx rfl (hb hby d1_18) rfl ((if0 _ _).trans (teq (eqI rfl liI_0 c14)).2) k) ?_
        refine Go.st (fun _ k => XS.iconst X5.here hx rfl (hb hby d1_21) k) ?_
        refine Go.st (fun _ k => XS.iloadN X5.here hx rfl (hb hby d1_22) rfl k) ?_
        refine Go.st (fun _ k => XS.isub X5.here hx rfl (hb hby d1_23) rfl k) ?_
        show Go p e below s Q 0 0 (T5.setTop (mkF m 24 #[.val (.ref ar), .val (.int (0 : Int32)), .val (.int (0 : Int32)), .val (.int (1 : Int32))] [(.int (-1 : Int32))]))
        have f15 := liI_m1
        exact Go.retI X5 hx hlk Bd.returns (hb hby d1_24) (by rw [← hQ, e5]; exact ⟨(-1 : Int32), rfl, N5, (by refine ⟨fun h => by omega, fun _ d hd hs => ?_⟩; obtain rfl : d = 0 := (by omega); exact f12.elim (fun q => absurd q.1 (by omega)) (fun q => Or.inl ⟨q.2, by omega⟩)), rfl⟩) (by decide) (by decide)
      ·
        refine Go.st (fun _ k => XS.ifYes X5.here hx rfl (pc0 := 18) (pc' := 25) rfl (hb hby d1_18) rfl ((if0 _ _).trans (feq (neI rfl liI_0 c14)).2) (by decide) (by decide) k) ?_
        refine Go.st (fun _ k => XS.iloadN X5.here hx rfl (hb hby d1_25) rfl k) ?_
        refine Go.st (fun _ k => XS.aloadN X5.here hx rfl (hb hby d1_26) rfl rfl k) ?_
        refine Go.st (fun _ k => XS.iloadN X5.here hx rfl (hb hby d1_27) rfl k) ?_
        refine Go.st (Vec.ildI X5 hx hZ e5 hV (j := (0 : Int32)) (by decide) (by decide) (g := (mkF m 28 #[.val (.ref ar), .val (.int (0 : Int32)), .val (.int (0 : Int32)), .val (.int (1 : Int32))] [(.int (0 : Int32)), (.ref ar), (.int (1 : Int32))])) rfl rfl (hb hby d1_28)) ?_
        show Go p e below s Q 0 0 (T5.setTop (mkF m 29 #[.val (.ref ar), .val (.int (0 : Int32)), .val (.int (0 : Int32)), .val (.int (1 : Int32))] [(.int b0), (.int (1 : Int32))]))
        have p18 : 0 ≤ b0.toInt ∧ b0.toInt < 256 := by omega
        obtain ⟨_, _, ⟨T17, L17, k17, n17⟩, -, X17, ⟨Lc17, hQ17, l17, y17, z17⟩, st17⟩ := Jvm.LawKit.callS X5 hx (y := (⟨"com/example/ballast/ballast/json/Utf8CheckPinLaw", "len", "(I)I"⟩ : MethodName)) hown (mvT hZ (hw _ (List.mem_of_getElem? (i := 10) rfl))) (mvT hZ (hw _ (List.mem_of_getElem? (i := 11) rfl))) (mvT hZ (hw _ (List.mem_of_getElem? (i := 5) rfl))) (mvT hZ (hw _ (List.mem_of_getElem? (i := 12) rfl))) (by decide) (backOf (W := 1) (rm3 l Z a0 hw [] b0 h0 n0 (Nat.le_trans Z0 K0.1) p18) hZ (hw _ (List.mem_of_getElem? (i := 12) rfl)) (hw _ (List.mem_of_getElem? (i := 5) rfl)) (by decide) (by decide)) (g := (mkF m 29 #[.val (.ref ar), .val (.int (0 : Int32)), .val (.int (0 : Int32)), .val (.int (1 : Int32))] [(.int b0), (.int (1 : Int32))])) rfl (by rw [hml]; rfl) (argsL := [(.int b0)]) (rest := [(.int (1 : Int32))]) (lenOf pd_0 rfl) rfl (by show 2 * 0 + _ ≤ _; exact Nat.le_of_eq rfl) (hb hby d1_29) (fun _ _ => ⟨rfl, e5, (by decide : 0 + 0 ≤ _), (by decide : 0 + 0 ≤ _)⟩)
        dsimp only [Pt.U, Pt.locs, Pt.cells, Pt.slots] at X17 l17 y17 z17 st17 hQ17
        subst y17 z17
        obtain ⟨r_19, rfl, N17q, f20, e17⟩ := hQ17
        have N17 : Fr n0 L17 := by rw [l17]; exact Fr.app N5 N17q
        refine Go.st st17 ?_
        show Go p e below s Q 0 0 (T17.setTop (mkF m 32 #[.val (.ref ar), .val (.int (0 : Int32)), .val (.int (0 : Int32)), .val (.int (1 : Int32))] [(.int r_19), (.int (1 : Int32))]))
        have f21 := rng32 r_19
        by_cases c22 : 1 = r_19.toInt
        ·
          refine Go.st (fun _ k => XS.icmpNo X17.here hx rfl (hb hby d1_32) rfl (teq (eqI liI_1 rfl c22)).2 k) ?_
          refine Go.st (fun _ k => XS.iloadN X17.here hx rfl (hb hby d1_35) rfl k) ?_
          refine Go.st (fun _ k => XS.iconst X17.here hx rfl (hb hby d1_36) k) ?_
          refine Go.st (fun _ k => XS.iadd X17.here hx rfl (hb hby d1_37) rfl k) ?_
          show Go p e below s Q 0 0 (T17.setTop (mkF m 38 #[.val (.ref ar), .val (.int (0 : Int32)), .val (.int (0 : Int32)), .val (.int (1 : Int32))] [(.int (1 : Int32))]))
          exact Go.retI X17 hx hlk Bd.returns (hb hby d1_38) (by rw [← hQ, e17]; exact ⟨(1 : Int32), rfl, N17, (by refine ⟨fun h => by omega, fun _ d hd hs => ?_⟩; obtain rfl : d = 0 := (by omega); exact f12.elim (fun q => Or.inr ⟨q.2.1, r_19.toInt, f20.elim id (fun q5 => by obtain ⟨n5, hn5⟩ := q.2.2; unfold LenIs at hn5; exfalso; omega), by omega⟩) (fun q => absurd q.1 (by omega))), rfl⟩) (by decide) (by decide)
        ·
          refine Go.st (fun _ k => XS.icmpYes X17.here hx rfl (pc0 := 32) (pc' := 39) rfl (hb hby d1_32) rfl (feq (neI liI_1 rfl c22)).2 (by decide) (by decide) k) ?_
          refine Go.st (fun _ k => XS.iloadN X17.here hx rfl (hb hby d1_39) rfl k) ?_
          show Go p e below s Q 0 0 (T17.setTop (mkF m 40 #[.val (.ref ar), .val (.int (0 : Int32)), .val (.int (0 : Int32)), .val (.int (1 : Int32))] [(.int (0 : Int32))]))
          exact Go.retI X17 hx hlk Bd.returns (hb hby d1_40) (by rw [← hQ, e17]; exact ⟨(0 : Int32), rfl, N17, (by refine ⟨fun h => by omega, fun _ d hd hs => ?_⟩; obtain rfl : d = 0 := (by omega); exact f12.elim (fun q => Or.inr ⟨q.2.1, r_19.toInt, f20.elim id (fun q5 => by obtain ⟨n5, hn5⟩ := q.2.2; unfold LenIs at hn5; exfalso; omega), by omega⟩) (fun q => absurd q.1 (by omega))), rfl⟩) (by decide) (by decide)
theorem liI_m2 : (-2 : Int32).toInt = -2 := by decide
theorem ef_rms_1 (m : MethodId) (ar : Addr) (s0 : Int32) : entryFrame m #[(.ref ar), (.int s0), (.int (1 : Int32))] 4 = mkF m 0 #[.val (.ref ar), .val (.int s0), .val (.int (1 : Int32)), .unset] [] := by first | (simp [entryFrame, mkF, argsToLocals, Value.category]; done) | rfl
def Qs_1 (Z : State) (ar : Addr) (s0 : Int32) (b0 : Int32) (b1 : Int32) (b2 : Int32) (b3 : Int32) (h0 : Heap) (n0 : Nat) (vv : Option Value) (h : Heap) (LL : List Loc) : Prop := ∃ (r : Int32), vv = some (.int r) ∧ Fr n0 LL ∧ ((s0.toInt < 0 → r.toInt = s0.toInt) ∧ (0 ≤ s0.toInt → StepIs (BB b0 b1 b2 b3) 1 s0.toInt r.toInt)) ∧ h = h0
set_option maxRecDepth 65536 in
set_option maxHeartbeats 40000000 in
theorem rms_1 (l : Launch) (Z : State) (a0 : Array Value) (hw : ∀ d ∈ tables_1, d.before a0 Z = true) (ws : List Jvm.Cond) (ar : Addr) (s0 : Int32) (b0 : Int32) (b1 : Int32) (b2 : Int32) (b3 : Int32) (h0 : Heap) (n0 : Nat) (Z0 : n0 ≤ h0.size) (hV : Vec Z h0 ar .int (4 : Int32) (ints (lst [b0, b1, b2, b3]))) (hr0 : 0 ≤ b0.toInt ∧ b0.toInt ≤ 255) (hr1 : 0 ≤ b1.toInt ∧ b1.toInt ≤ 255) (hr2 : 0 ≤ b2.toInt ∧ b2.toInt ≤ 255) (hr3 : 0 ≤ b3.toInt ∧ b3.toInt ≤ 255) (hs0 : s0.toInt < 0 ∨ ∃ p l m, Cpl (BB b0 b1 b2 b3) 1 s0.toInt p l m) :
    MetFree l (⟨"com/example/ballast/ballast/json/Utf8CheckPinLaw", "step", "([III)I"⟩ : MethodName) (head1 (Jvm.Cond.code (⟨"com/example/ballast/ballast/json/Utf8CheckPinLaw", "step", "([III)I"⟩ : MethodName) method_4_code 4 (some .int) :: ws) ({ frames := 2, cells := 0, slots := 0, locals := 36 } : Room)) (fun aa UU => aa = #[(.ref ar), (.int s0), (.int (1 : Int32))] ∧ Z.Warmed39 UU.vm ∧ UU.heap = h0) (fun _ _ _ _ _ => True) (fun _ UU oo UU' => ∃ vv LL, oo = .returned vv ∧ Qs_1 Z ar s0 b0 b1 b2 b3 h0 n0 vv UU'.heap LL ∧ FrameEnd UU oo UU' LL 0 0) := by
  refine MetFree.of_bodySF (plainFor_of_name pn_0) hisR ?_
  intro p e s m args below meth c s₁ Bd hml0 hP hK
  obtain ⟨rfl, hZ, hh⟩ := hP
  have hx := Bd.exec
  have hby := Bd.bytes
  have hlk : meth.locks = false := BodyLoose.notSynchronized Bd
  have hml : c.maxLocals = 4 := hml0
  have hown : s.vm.findClass "com/example/ballast/ballast/json/Utf8CheckPinLaw" = some m.cls := findClass_of_methodNamed Bd.named
  have hnm := (name_of_methodNamed Bd.named Bd.method).1
  have X0 : Stand p l e ({ frames := 2, cells := 0, slots := 0, locals := 36 } : Room) s m #[(.ref ar), (.int s0), (.int (1 : Int32))] below meth c s₁ [] 0 0 := Stand.of_body Bd
  have e0 : s₁.heap = h0 := by rw [← hh, Bd.state]; rfl
  have N0 := Fr.nil n0
  have K0 : Keep h0 h0 [] := Keep.refl h0 _
  refine (?_ : Go p e below s (Qs_1 Z ar s0 b0 b1 b2 b3 h0 n0) 0 0 (s₁.setTop (entryFrame m #[(.ref ar), (.int s0), (.int (1 : Int32))] 4)))
  rw [ef_rms_1]
  generalize hQ : Qs_1 Z ar s0 b0 b1 b2 b3 h0 n0 = Q
  have hBr : ∀ j : Nat, 0 ≤ ((lst [b0, b1, b2, b3]) j).toInt ∧ ((lst [b0, b1, b2, b3]) j).toInt ≤ 255 := BB_rng hr0 hr1 hr2 hr3
  show Go p e below s Q 0 0 (s₁.setTop (mkF m 0 #[.val (.ref ar), .val (.int s0), .val (.int (1 : Int32)), .unset] []))
  have f1 := rng32 s0
  have f2 := liI_1
  refine Go.st (fun _ k => XS.iloadN X0.here hx rfl (hb hby d1_0) rfl k) ?_
  have f3 := liI_0
  by_cases c4 : s0.toInt < 0
  ·
    refine Go.st (fun _ k => XS.ifNo X0.here hx rfl (hb hby d1_1) rfl ((if0 _ _).trans (tlt (ltI rfl liI_0 c4)).2.1) k) ?_
    refine Go.st (fun _ k => XS.iloadN X0.here hx rfl (hb hby d1_4) rfl k) ?_
    show Go p e below s Q 0 0 (s₁.setTop (mkF m 5 #[.val (.ref ar), .val (.int s0), .val (.int (1 : Int32)), .unset] [(.int s0)]))
    exact Go.retI X0 hx hlk Bd.returns (hb hby d1_5) (by rw [← hQ, e0]; exact ⟨s0, rfl, N0, (by exact ⟨fun _ => rfl, fun h => by omega⟩), rfl⟩) (by decide) (by decide)
  ·
    refine Go.st (fun _ k => XS.ifYes X0.here hx rfl (pc0 := 1) (pc' := 6) rfl (hb hby d1_1) rfl ((if0 _ _).trans (flt (nltI rfl liI_0 c4)).2.1) (by decide) (by decide) k) ?_
    show Go p e below s Q 0 0 (s₁.setTop (mkF m 6 #[.val (.ref ar), .val (.int s0), .val (.int (1 : Int32)), .unset] []))
    have hcp : ∃ p l m, Cpl (BB b0 b1 b2 b3) 1 s0.toInt p l m := hs0.elim (fun q => absurd q (by omega)) id
    have cs5 : s0.toInt = 0 ∨ s0.toInt = 1 := by obtain ⟨p, l, m, q⟩ := hcp; rcases q with ⟨q, -⟩ | ⟨d, n, q1, q2, q3, -⟩ <;> omega
    rcases cs5 with cs6 | cs7
    ·
      have cs6' : s0 = (0 : Int32) := eqI cs6 liI_0 rfl
      subst cs6'
      show Go p e below s Q 0 0 (s₁.setTop (mkF m 6 #[.val (.ref ar), .val (.int (0 : Int32)), .val (.int (1 : Int32)), .unset] []))
      refine Go.st (fun _ k => XS.iloadN X0.here hx rfl (hb hby d1_6) rfl k) ?_
      refine Go.st (fun _ k => XS.iloadN X0.here hx rfl (hb hby d1_7) rfl k) ?_
      refine Go.st (fun _ k => XS.isub X0.here hx rfl (hb hby d1_8) rfl k) ?_
      refine Go.st (fun _ k => XS.iconst X0.here hx rfl (hb hby d1_9) k) ?_
      refine Go.st (fun _ k => XS.iadd X0.here hx rfl (hb hby d1_10) rfl k) ?_
      refine Go.st (fun _ k => XS.istoreN X0.here hx rfl (hb hby d1_11) rfl (l' := #[.val (.ref ar), .val (.int (0 : Int32)), .val (.int (1 : Int32)), .val (.int (2 : Int32))]) rfl k) ?_
      show Go p e below s Q 0 0 (s₁.setTop (mkF m 12 #[.val (.ref ar), .val (.int (0 : Int32)), .val (.int (1 : Int32)), .val (.int (2 : Int32))] []))
      refine Go.st (fun _ k => XS.aloadN X0.here hx rfl (hb hby d1_12) rfl rfl k) ?_
      refine Go.st (fun _ k => XS.iloadN X0.here hx rfl (hb hby d1_13) rfl k) ?_
      refine Go.st (fun _ k => XS.iloadN X0.here hx rfl (hb hby d1_14) rfl k) ?_
      show Go p e below s Q 0 0 (s₁.setTop (mkF m 15 #[.val (.ref ar), .val (.int (0 : Int32)), .val (.int (1 : Int32)), .val (.int (2 : Int32))] [(.int (2 : Int32)), (.int (0 : Int32)), (.ref ar)]))
      have f9 := rng32 b0
      have f10 := rng32 b1
      have f11 := rng32 b2
      have f12 := rng32 b3
      have f13 := liI_2
      obtain ⟨_, _, ⟨T8, L8, k8, n8⟩, -, X8, ⟨Lc8, hQ8, l8, y8, z8⟩, st8⟩ := Jvm.LawKit.callS X0 hx (y := (⟨"com/example/ballast/ballast/json/Utf8CheckPinLaw", "viable", "([III)Z"⟩ : MethodName)) hown (mvT hZ (hw _ (List.mem_of_getElem? (i := 7) rfl))) (mvT hZ (hw _ (List.mem_of_getElem? (i := 8) rfl))) (mvT hZ (hw _ (List.mem_of_getElem? (i := 5) rfl))) (mvT hZ (hw _ (List.mem_of_getElem? (i := 9) rfl))) (by decide) (backOf (W := 0) (rmv_2 l Z a0 hw [] ar (0 : Int32) (lst [b0, b1, b2, b3]) b0 b1 b2 b3 h0 n0 (Nat.le_trans Z0 K0.1) hV hBr (by decide) rfl rfl (let ⟨_, q1, q2⟩ := cpl_len (d := 1) (by decide) (by decide) (by decide) hcp; lenGe q1 (by omega))) hZ (hw _ (List.mem_of_getElem? (i := 9) rfl)) (hw _ (List.mem_of_getElem? (i := 5) rfl)) (by decide) (by decide)) (g := (mkF m 15 #[.val (.ref ar), .val (.int (0 : Int32)), .val (.int (1 : Int32)), .val (.int (2 : Int32))] [(.int (2 : Int32)), (.int (0 : Int32)), (.ref ar)])) rfl (by rw [hml]; rfl) (argsL := [(.ref ar), (.int (0 : Int32)), (.int (2 : Int32))]) (rest := []) (lenOf pd_2 rfl) rfl (by show 2 * 0 + _ ≤ _; exact Nat.le_of_eq rfl) (hb hby d1_15) (fun _ _ => ⟨rfl, e0, (by decide : 0 + 0 ≤ _), (by decide : 0 + 0 ≤ _)⟩)
      dsimp only [Pt.U, Pt.locs, Pt.cells, Pt.slots] at X8 l8 y8 z8 st8 hQ8
      subst y8 z8
      obtain ⟨r_14, rfl, N8q, f15, e8⟩ := hQ8
      have N8 : Fr n0 L8 := by rw [l8]; exact Fr.app N0 N8q
      refine Go.st st8 ?_
      show Go p e below s Q 0 0 (T8.setTop (mkF m 18 #[.val (.ref ar), .val (.int (0 : Int32)), .val (.int (1 : Int32)), .val (.int (2 : Int32))] [(.int r_14)]))
      have f16 := rng32 r_14
      by_cases c17 : r_14.toInt = 0
      ·
        refine Go.st (fun _ k => XS.ifNo X8.here hx rfl (hb hby d1_18) rfl ((if0 _ _).trans (teq (eqI rfl liI_0 c17)).2) k) ?_
        refine Go.st (fun _ k => XS.iconst X8.here hx rfl (hb hby d1_21) k) ?_
        refine Go.st (fun _ k => XS.iloadN X8.here hx rfl (hb hby d1_22) rfl k) ?_
        refine Go.st (fun _ k => XS.isub X8.here hx rfl (hb hby d1_23) rfl k) ?_
        show Go p e below s Q 0 0 (T8.setTop (mkF m 24 #[.val (.ref ar), .val (.int (0 : Int32)), .val (.int (1 : Int32)), .val (.int (2 : Int32))] [(.int (-2 : Int32))]))
        have f18 := liI_m2
        exact Go.retI X8 hx hlk Bd.returns (hb hby d1_24) (by rw [← hQ, e8]; exact ⟨(-2 : Int32), rfl, N8, (by refine ⟨fun h => by omega, fun _ d hd hs => ?_⟩; obtain rfl : d = 1 := (by omega); exact f15.elim (fun q => absurd q.1 (by omega)) (fun q => Or.inl ⟨q.2, by omega⟩)), rfl⟩) (by decide) (by decide)
      ·
        refine Go.st (fun _ k => XS.ifYes X8.here hx rfl (pc0 := 18) (pc' := 25) rfl (hb hby d1_18) rfl ((if0 _ _).trans (feq (neI rfl liI_0 c17)).2) (by decide) (by decide) k) ?_
        refine Go.st (fun _ k => XS.iloadN X8.here hx rfl (hb hby d1_25) rfl k) ?_
        refine Go.st (fun _ k => XS.aloadN X8.here hx rfl (hb hby d1_26) rfl rfl k) ?_
        refine Go.st (fun _ k => XS.iloadN X8.here hx rfl (hb hby d1_27) rfl k) ?_
        refine Go.st (Vec.ildI X8 hx hZ e8 hV (j := (0 : Int32)) (by decide) (by decide) (g := (mkF m 28 #[.val (.ref ar), .val (.int (0 : Int32)), .val (.int (1 : Int32)), .val (.int (2 : Int32))] [(.int (0 : Int32)), (.ref ar), (.int (2 : Int32))])) rfl rfl (hb hby d1_28)) ?_
        show Go p e below s Q 0 0 (T8.setTop (mkF m 29 #[.val (.ref ar), .val (.int (0 : Int32)), .val (.int (1 : Int32)), .val (.int (2 : Int32))] [(.int b0), (.int (2 : Int32))]))
        have p21 : 0 ≤ b0.toInt ∧ b0.toInt < 256 := by omega
        obtain ⟨_, _, ⟨T20, L20, k20, n20⟩, -, X20, ⟨Lc20, hQ20, l20, y20, z20⟩, st20⟩ := Jvm.LawKit.callS X8 hx (y := (⟨"com/example/ballast/ballast/json/Utf8CheckPinLaw", "len", "(I)I"⟩ : MethodName)) hown (mvT hZ (hw _ (List.mem_of_getElem? (i := 10) rfl))) (mvT hZ (hw _ (List.mem_of_getElem? (i := 11) rfl))) (mvT hZ (hw _ (List.mem_of_getElem? (i := 5) rfl))) (mvT hZ (hw _ (List.mem_of_getElem? (i := 12) rfl))) (by decide) (backOf (W := 1) (rm3 l Z a0 hw [] b0 h0 n0 (Nat.le_trans Z0 K0.1) p21) hZ (hw _ (List.mem_of_getElem? (i := 12) rfl)) (hw _ (List.mem_of_getElem? (i := 5) rfl)) (by decide) (by decide)) (g := (mkF m 29 #[.val (.ref ar), .val (.int (0 : Int32)), .val (.int (1 : Int32)), .val (.int (2 : Int32))] [(.int b0), (.int (2 : Int32))])) rfl (by rw [hml]; rfl) (argsL := [(.int b0)]) (rest := [(.int (2 : Int32))]) (lenOf pd_0 rfl) rfl (by show 2 * 0 + _ ≤ _; exact Nat.le_of_eq rfl) (hb hby d1_29) (fun _ _ => ⟨rfl, e8, (by decide : 0 + 0 ≤ _), (by decide : 0 + 0 ≤ _)⟩)
        dsimp only [Pt.U, Pt.locs, Pt.cells, Pt.slots] at X20 l20 y20 z20 st20 hQ20
        subst y20 z20
        obtain ⟨r_22, rfl, N20q, f23, e20⟩ := hQ20
        have N20 : Fr n0 L20 := by rw [l20]; exact Fr.app N8 N20q
        refine Go.st st20 ?_
        show Go p e below s Q 0 0 (T20.setTop (mkF m 32 #[.val (.ref ar), .val (.int (0 : Int32)), .val (.int (1 : Int32)), .val (.int (2 : Int32))] [(.int r_22), (.int (2 : Int32))]))
        have f24 := rng32 r_22
        by_cases c25 : 2 = r_22.toInt
        ·
          refine Go.st (fun _ k => XS.icmpNo X20.here hx rfl (hb hby d1_32) rfl (teq (eqI liI_2 rfl c25)).2 k) ?_
          refine Go.st (fun _ k => XS.iloadN X20.here hx rfl (hb hby d1_35) rfl k) ?_
          refine Go.st (fun _ k => XS.iconst X20.here hx rfl (hb hby d1_36) k) ?_
          refine Go.st (fun _ k => XS.iadd X20.here hx rfl (hb hby d1_37) rfl k) ?_
          show Go p e below s Q 0 0 (T20.setTop (mkF m 38 #[.val (.ref ar), .val (.int (0 : Int32)), .val (.int (1 : Int32)), .val (.int (2 : Int32))] [(.int (2 : Int32))]))
          exact Go.retI X20 hx hlk Bd.returns (hb hby d1_38) (by rw [← hQ, e20]; exact ⟨(2 : Int32), rfl, N20, (by refine ⟨fun h => by omega, fun _ d hd hs => ?_⟩; obtain rfl : d = 1 := (by omega); exact f15.elim (fun q => Or.inr ⟨q.2.1, r_22.toInt, f23.elim id (fun q5 => by obtain ⟨n5, hn5⟩ := q.2.2; unfold LenIs at hn5; exfalso; omega), by omega⟩) (fun q => absurd q.1 (by omega))), rfl⟩) (by decide) (by decide)
        ·
          refine Go.st (fun _ k => XS.icmpYes X20.here hx rfl (pc0 := 32) (pc' := 39) rfl (hb hby d1_32) rfl (feq (neI liI_2 rfl c25)).2 (by decide) (by decide) k) ?_
          refine Go.st (fun _ k => XS.iloadN X20.here hx rfl (hb hby d1_39) rfl k) ?_
          show Go p e below s Q 0 0 (T20.setTop (mkF m 40 #[.val (.ref ar), .val (.int (0 : Int32)), .val (.int (1 : Int32)), .val (.int (2 : Int32))] [(.int (0 : Int32))]))
          exact Go.retI X20 hx hlk Bd.returns (hb hby d1_40) (by rw [← hQ, e20]; exact ⟨(0 : Int32), rfl, N20, (by refine ⟨fun h => by omega, fun _ d hd hs => ?_⟩; obtain rfl : d = 1 := (by omega); exact f15.elim (fun q => Or.inr ⟨q.2.1, r_22.toInt, f23.elim id (fun q5 => by obtain ⟨n5, hn5⟩ := q.2.2; unfold LenIs at hn5; exfalso; omega), by omega⟩) (fun q => absurd q.1 (by omega))), rfl⟩) (by decide) (by decide)
    ·
      have cs7' : s0 = (1 : Int32) := eqI cs7 liI_1 rfl
      subst cs7'
      show Go p e below s Q 0 0 (s₁.setTop (mkF m 6 #[.val (.ref ar), .val (.int (1 : Int32)), .val (.int (1 : Int32)), .unset] []))
      refine Go.st (fun _ k => XS.iloadN X0.here hx rfl (hb hby d1_6) rfl k) ?_
      refine Go.st (fun _ k => XS.iloadN X0.here hx rfl (hb hby d1_7) rfl k) ?_
      refine Go.st (fun _ k => XS.isub X0.here hx rfl (hb hby d1_8) rfl k) ?_
      refine Go.st (fun _ k => XS.iconst X0.here hx rfl (hb hby d1_9) k) ?_
      refine Go.st (fun _ k => XS.iadd X0.here hx rfl (hb hby d1_10) rfl k) ?_
      refine Go.st (fun _ k => XS.istoreN X0.here hx rfl (hb hby d1_11) rfl (l' := #[.val (.ref ar), .val (.int (1 : Int32)), .val (.int (1 : Int32)), .val (.int (1 : Int32))]) rfl k) ?_
      show Go p e below s Q 0 0 (s₁.setTop (mkF m 12 #[.val (.ref ar), .val (.int (1 : Int32)), .val (.int (1 : Int32)), .val (.int (1 : Int32))] []))
      refine Go.st (fun _ k => XS.aloadN X0.here hx rfl (hb hby d1_12) rfl rfl k) ?_
      refine Go.st (fun _ k => XS.iloadN X0.here hx rfl (hb hby d1_13) rfl k) ?_
      refine Go.st (fun _ k => XS.iloadN X0.here hx rfl (hb hby d1_14) rfl k) ?_
      show Go p e below s Q 0 0 (s₁.setTop (mkF m 15 #[.val (.ref ar), .val (.int (1 : Int32)), .val (.int (1 : Int32)), .val (.int (1 : Int32))] [(.int (1 : Int32)), (.int (1 : Int32)), (.ref ar)]))
      have f27 := rng32 b1
      have f28 := rng32 b2
      have f29 := rng32 b3
      obtain ⟨_, _, ⟨T26, L26, k26, n26⟩, -, X26, ⟨Lc26, hQ26, l26, y26, z26⟩, st26⟩ := Jvm.LawKit.callS X0 hx (y := (⟨"com/example/ballast/ballast/json/Utf8CheckPinLaw", "viable", "([III)Z"⟩ : MethodName)) hown (mvT hZ (hw _ (List.mem_of_getElem? (i := 7) rfl))) (mvT hZ (hw _ (List.mem_of_getElem? (i := 8) rfl))) (mvT hZ (hw _ (List.mem_of_getElem? (i := 5) rfl))) (mvT hZ (hw _ (List.mem_of_getElem? (i := 9) rfl))) (by decide) (backOf (W := 0) (rmv_1 l Z a0 hw [] ar (1 : Int32) (lst [b0, b1, b2, b3]) b1 b2 b3 (0 : Int32) h0 n0 (Nat.le_trans Z0 K0.1) hV hBr (by decide) rfl) hZ (hw _ (List.mem_of_getElem? (i := 9) rfl)) (hw _ (List.mem_of_getElem? (i := 5) rfl)) (by decide) (by decide)) (g := (mkF m 15 #[.val (.ref ar), .val (.int (1 : Int32)), .val (.int (1 : Int32)), .val (.int (1 : Int32))] [(.int (1 : Int32)), (.int (1 : Int32)), (.ref ar)])) rfl (by rw [hml]; rfl) (argsL := [(.ref ar), (.int (1 : Int32)), (.int (1 : Int32))]) (rest := []) (lenOf pd_2 rfl) rfl (by show 2 * 0 + _ ≤ _; exact Nat.le_of_eq rfl) (hb hby d1_15) (fun _ _ => ⟨rfl, e0, (by decide : 0 + 0 ≤ _), (by decide : 0 + 0 ≤ _)⟩)
      dsimp only [Pt.U, Pt.locs, Pt.cells, Pt.slots] at X26 l26 y26 z26 st26 hQ26
      subst y26 z26
      obtain ⟨r_30, rfl, N26q, f31, e26⟩ := hQ26
      have N26 : Fr n0 L26 := by rw [l26]; exact Fr.app N0 N26q
      refine Go.st st26 ?_
      show Go p e below s Q 0 0 (T26.setTop (mkF m 18 #[.val (.ref ar), .val (.int (1 : Int32)), .val (.int (1 : Int32)), .val (.int (1 : Int32))] [(.int r_30)]))
      have f32 := rng32 r_30
      by_cases c33 : r_30.toInt = 0
      ·
        refine Go.st (fun _ k => XS.ifNo X26.here hx rfl (hb hby d1_18) rfl ((if0 _ _).trans (teq (eqI rfl liI_0 c33)).2) k) ?_
        refine Go.st (fun _ k => XS.iconst X26.here hx rfl (hb hby d1_21) k) ?_
        refine Go.st (fun _ k => XS.iloadN X26.here hx rfl (hb hby d1_22) rfl k) ?_
        refine Go.st (fun _ k => XS.isub X26.here hx rfl (hb hby d1_23) rfl k) ?_
        show Go p e below s Q 0 0 (T26.setTop (mkF m 24 #[.val (.ref ar), .val (.int (1 : Int32)), .val (.int (1 : Int32)), .val (.int (1 : Int32))] [(.int (-2 : Int32))]))
        have f34 := liI_m2
        exact Go.retI X26 hx hlk Bd.returns (hb hby d1_24) (by rw [← hQ, e26]; exact ⟨(-2 : Int32), rfl, N26, (by refine ⟨fun h => by omega, fun _ d hd hs => ?_⟩; obtain rfl : d = 0 := (by omega); exact f31.elim (fun q => absurd q.1 (by omega)) (fun q => Or.inl ⟨q.2, by omega⟩)), rfl⟩) (by decide) (by decide)
      ·
        refine Go.st (fun _ k => XS.ifYes X26.here hx rfl (pc0 := 18) (pc' := 25) rfl (hb hby d1_18) rfl ((if0 _ _).trans (feq (neI rfl liI_0 c33)).2) (by decide) (by decide) k) ?_
        refine Go.st (fun _ k => XS.iloadN X26.here hx rfl (hb hby d1_25) rfl k) ?_
        refine Go.st (fun _ k => XS.aloadN X26.here hx rfl (hb hby d1_26) rfl rfl k) ?_
        refine Go.st (fun _ k => XS.iloadN X26.here hx rfl (hb hby d1_27) rfl k) ?_
        refine Go.st (Vec.ildI X26 hx hZ e26 hV (j := (1 : Int32)) (by decide) (by decide) (g := (mkF m 28 #[.val (.ref ar), .val (.int (1 : Int32)), .val (.int (1 : Int32)), .val (.int (1 : Int32))] [(.int (1 : Int32)), (.ref ar), (.int (1 : Int32))])) rfl rfl (hb hby d1_28)) ?_
        show Go p e below s Q 0 0 (T26.setTop (mkF m 29 #[.val (.ref ar), .val (.int (1 : Int32)), .val (.int (1 : Int32)), .val (.int (1 : Int32))] [(.int b1), (.int (1 : Int32))]))
        have p37 : 0 ≤ b1.toInt ∧ b1.toInt < 256 := by omega
        obtain ⟨_, _, ⟨T36, L36, k36, n36⟩, -, X36, ⟨Lc36, hQ36, l36, y36, z36⟩, st36⟩ := Jvm.LawKit.callS X26 hx (y := (⟨"com/example/ballast/ballast/json/Utf8CheckPinLaw", "len", "(I)I"⟩ : MethodName)) hown (mvT hZ (hw _ (List.mem_of_getElem? (i := 10) rfl))) (mvT hZ (hw _ (List.mem_of_getElem? (i := 11) rfl))) (mvT hZ (hw _ (List.mem_of_getElem? (i := 5) rfl))) (mvT hZ (hw _ (List.mem_of_getElem? (i := 12) rfl))) (by decide) (backOf (W := 1) (rm3 l Z a0 hw [] b1 h0 n0 (Nat.le_trans Z0 K0.1) p37) hZ (hw _ (List.mem_of_getElem? (i := 12) rfl)) (hw _ (List.mem_of_getElem? (i := 5) rfl)) (by decide) (by decide)) (g := (mkF m 29 #[.val (.ref ar), .val (.int (1 : Int32)), .val (.int (1 : Int32)), .val (.int (1 : Int32))] [(.int b1), (.int (1 : Int32))])) rfl (by rw [hml]; rfl) (argsL := [(.int b1)]) (rest := [(.int (1 : Int32))]) (lenOf pd_0 rfl) rfl (by show 2 * 0 + _ ≤ _; exact Nat.le_of_eq rfl) (hb hby d1_29) (fun _ _ => ⟨rfl, e26, (by decide : 0 + 0 ≤ _), (by decide : 0 + 0 ≤ _)⟩)
        dsimp only [Pt.U, Pt.locs, Pt.cells, Pt.slots] at X36 l36 y36 z36 st36 hQ36
        subst y36 z36
        obtain ⟨r_38, rfl, N36q, f39, e36⟩ := hQ36
        have N36 : Fr n0 L36 := by rw [l36]; exact Fr.app N26 N36q
        refine Go.st st36 ?_
        show Go p e below s Q 0 0 (T36.setTop (mkF m 32 #[.val (.ref ar), .val (.int (1 : Int32)), .val (.int (1 : Int32)), .val (.int (1 : Int32))] [(.int r_38), (.int (1 : Int32))]))
        have f40 := rng32 r_38
        by_cases c41 : 1 = r_38.toInt
        ·
          refine Go.st (fun _ k => XS.icmpNo X36.here hx rfl (hb hby d1_32) rfl (teq (eqI liI_1 rfl c41)).2 k) ?_
          refine Go.st (fun _ k => XS.iloadN X36.here hx rfl (hb hby d1_35) rfl k) ?_
          refine Go.st (fun _ k => XS.iconst X36.here hx rfl (hb hby d1_36) k) ?_
          refine Go.st (fun _ k => XS.iadd X36.here hx rfl (hb hby d1_37) rfl k) ?_
          show Go p e below s Q 0 0 (T36.setTop (mkF m 38 #[.val (.ref ar), .val (.int (1 : Int32)), .val (.int (1 : Int32)), .val (.int (1 : Int32))] [(.int (2 : Int32))]))
          have f42 := liI_2
          exact Go.retI X36 hx hlk Bd.returns (hb hby d1_38) (by rw [← hQ, e36]; exact ⟨(2 : Int32), rfl, N36, (by refine ⟨fun h => by omega, fun _ d hd hs => ?_⟩; obtain rfl : d = 0 := (by omega); exact f31.elim (fun q => Or.inr ⟨q.2.1, r_38.toInt, f39.elim id (fun q5 => by obtain ⟨n5, hn5⟩ := q.2.2; unfold LenIs at hn5; exfalso; omega), by omega⟩) (fun q => absurd q.1 (by omega))), rfl⟩) (by decide) (by decide)
        ·
          refine Go.st (fun _ k => XS.icmpYes X36.here hx rfl (pc0 := 32) (pc' := 39) rfl (hb hby d1_32) rfl (feq (neI liI_1 rfl c41)).2 (by decide) (by decide) k) ?_
          refine Go.st (fun _ k => XS.iloadN X36.here hx rfl (hb hby d1_39) rfl k) ?_
          show Go p e below s Q 0 0 (T36.setTop (mkF m 40 #[.val (.ref ar), .val (.int (1 : Int32)), .val (.int (1 : Int32)), .val (.int (1 : Int32))] [(.int (1 : Int32))]))
          exact Go.retI X36 hx hlk Bd.returns (hb hby d1_40) (by rw [← hQ, e36]; exact ⟨(1 : Int32), rfl, N36, (by refine ⟨fun h => by omega, fun _ d hd hs => ?_⟩; obtain rfl : d = 0 := (by omega); exact f31.elim (fun q => Or.inr ⟨q.2.1, r_38.toInt, f39.elim id (fun q5 => by obtain ⟨n5, hn5⟩ := q.2.2; unfold LenIs at hn5; exfalso; omega), by omega⟩) (fun q => absurd q.1 (by omega))), rfl⟩) (by decide) (by decide)
theorem liI_m3 : (-3 : Int32).toInt = -3 := by decide
theorem ef_rms_2 (m : MethodId) (ar : Addr) (s0 : Int32) : entryFrame m #[(.ref ar), (.int s0), (.int (2 : Int32))] 4 = mkF m 0 #[.val (.ref ar), .val (.int s0), .val (.int (2 : Int32)), .unset] [] := by first | (simp [entryFrame, mkF, argsToLocals, Value.category]; done) | rfl
def Qs_2 (Z : State) (ar : Addr) (s0 : Int32) (b0 : Int32) (b1 : Int32) (b2 : Int32) (b3 : Int32) (h0 : Heap) (n0 : Nat) (vv : Option Value) (h : Heap) (LL : List Loc) : Prop := ∃ (r : Int32), vv = some (.int r) ∧ Fr n0 LL ∧ ((s0.toInt < 0 → r.toInt = s0.toInt) ∧ (0 ≤ s0.toInt → StepIs (BB b0 b1 b2 b3) 2 s0.toInt r.toInt)) ∧ h = h0
set_option maxRecDepth 65536 in
set_option maxHeartbeats 40000000 in
theorem rms_2 (l : Launch) (Z : State) (a0 : Array Value) (hw : ∀ d ∈ tables_1, d.before a0 Z = true) (ws : List Jvm.Cond) (ar : Addr) (s0 : Int32) (b0 : Int32) (b1 : Int32) (b2 : Int32) (b3 : Int32) (h0 : Heap) (n0 : Nat) (Z0 : n0 ≤ h0.size) (hV : Vec Z h0 ar .int (4 : Int32) (ints (lst [b0, b1, b2, b3]))) (hr0 : 0 ≤ b0.toInt ∧ b0.toInt ≤ 255) (hr1 : 0 ≤ b1.toInt ∧ b1.toInt ≤ 255) (hr2 : 0 ≤ b2.toInt ∧ b2.toInt ≤ 255) (hr3 : 0 ≤ b3.toInt ∧ b3.toInt ≤ 255) (hs0 : s0.toInt < 0 ∨ ∃ p l m, Cpl (BB b0 b1 b2 b3) 2 s0.toInt p l m) :
    MetFree l (⟨"com/example/ballast/ballast/json/Utf8CheckPinLaw", "step", "([III)I"⟩ : MethodName) (head1 (Jvm.Cond.code (⟨"com/example/ballast/ballast/json/Utf8CheckPinLaw", "step", "([III)I"⟩ : MethodName) method_4_code 4 (some .int) :: ws) ({ frames := 2, cells := 0, slots := 0, locals := 36 } : Room)) (fun aa UU => aa = #[(.ref ar), (.int s0), (.int (2 : Int32))] ∧ Z.Warmed39 UU.vm ∧ UU.heap = h0) (fun _ _ _ _ _ => True) (fun _ UU oo UU' => ∃ vv LL, oo = .returned vv ∧ Qs_2 Z ar s0 b0 b1 b2 b3 h0 n0 vv UU'.heap LL ∧ FrameEnd UU oo UU' LL 0 0) := by
  refine MetFree.of_bodySF (plainFor_of_name pn_0) hisR ?_
  intro p e s m args below meth c s₁ Bd hml0 hP hK
  obtain ⟨rfl, hZ, hh⟩ := hP
  have hx := Bd.exec
  have hby := Bd.bytes
  have hlk : meth.locks = false := BodyLoose.notSynchronized Bd
  have hml : c.maxLocals = 4 := hml0
  have hown : s.vm.findClass "com/example/ballast/ballast/json/Utf8CheckPinLaw" = some m.cls := findClass_of_methodNamed Bd.named
  have hnm := (name_of_methodNamed Bd.named Bd.method).1
  have X0 : Stand p l e ({ frames := 2, cells := 0, slots := 0, locals := 36 } : Room) s m #[(.ref ar), (.int s0), (.int (2 : Int32))] below meth c s₁ [] 0 0 := Stand.of_body Bd
  have e0 : s₁.heap = h0 := by rw [← hh, Bd.state]; rfl
  have N0 := Fr.nil n0
  have K0 : Keep h0 h0 [] := Keep.refl h0 _
  refine (?_ : Go p e below s (Qs_2 Z ar s0 b0 b1 b2 b3 h0 n0) 0 0 (s₁.setTop (entryFrame m #[(.ref ar), (.int s0), (.int (2 : Int32))] 4)))
  rw [ef_rms_2]
  generalize hQ : Qs_2 Z ar s0 b0 b1 b2 b3 h0 n0 = Q
  have hBr : ∀ j : Nat, 0 ≤ ((lst [b0, b1, b2, b3]) j).toInt ∧ ((lst [b0, b1, b2, b3]) j).toInt ≤ 255 := BB_rng hr0 hr1 hr2 hr3
  show Go p e below s Q 0 0 (s₁.setTop (mkF m 0 #[.val (.ref ar), .val (.int s0), .val (.int (2 : Int32)), .unset] []))
  have f1 := rng32 s0
  have f2 := liI_2
  refine Go.st (fun _ k => XS.iloadN X0.here hx rfl (hb hby d1_0) rfl k) ?_
  have f3 := liI_0
  by_cases c4 : s0.toInt < 0
  ·
    refine Go.st (fun _ k => XS.ifNo X0.here hx rfl (hb hby d1_1) rfl ((if0 _ _).trans (tlt (ltI rfl liI_0 c4)).2.1) k) ?_
    refine Go.st (fun _ k => XS.iloadN X0.here hx rfl (hb hby d1_4) rfl k) ?_
    show Go p e below s Q 0 0 (s₁.setTop (mkF m 5 #[.val (.ref ar), .val (.int s0), .val (.int (2 : Int32)), .unset] [(.int s0)]))
    exact Go.retI X0 hx hlk Bd.returns (hb hby d1_5) (by rw [← hQ, e0]; exact ⟨s0, rfl, N0, (by exact ⟨fun _ => rfl, fun h => by omega⟩), rfl⟩) (by decide) (by decide)
  ·
    refine Go.st (fun _ k => XS.ifYes X0.here hx rfl (pc0 := 1) (pc' := 6) rfl (hb hby d1_1) rfl ((if0 _ _).trans (flt (nltI rfl liI_0 c4)).2.1) (by decide) (by decide) k) ?_
    show Go p e below s Q 0 0 (s₁.setTop (mkF m 6 #[.val (.ref ar), .val (.int s0), .val (.int (2 : Int32)), .unset] []))
    have hcp : ∃ p l m, Cpl (BB b0 b1 b2 b3) 2 s0.toInt p l m := hs0.elim (fun q => absurd q (by omega)) id
    have cs5 : s0.toInt = 0 ∨ s0.toInt = 1 ∨ s0.toInt = 2 := by obtain ⟨p, l, m, q⟩ := hcp; rcases q with ⟨q, -⟩ | ⟨d, n, q1, q2, q3, -⟩ <;> omega
    rcases cs5 with cs6 | cs7 | cs8
    ·
      have cs6' : s0 = (0 : Int32) := eqI cs6 liI_0 rfl
      subst cs6'
      show Go p e below s Q 0 0 (s₁.setTop (mkF m 6 #[.val (.ref ar), .val (.int (0 : Int32)), .val (.int (2 : Int32)), .unset] []))
      refine Go.st (fun _ k => XS.iloadN X0.here hx rfl (hb hby d1_6) rfl k) ?_
      refine Go.st (fun _ k => XS.iloadN X0.here hx rfl (hb hby d1_7) rfl k) ?_
      refine Go.st (fun _ k => XS.isub X0.here hx rfl (hb hby d1_8) rfl k) ?_
      refine Go.st (fun _ k => XS.iconst X0.here hx rfl (hb hby d1_9) k) ?_
      refine Go.st (fun _ k => XS.iadd X0.here hx rfl (hb hby d1_10) rfl k) ?_
      refine Go.st (fun _ k => XS.istoreN X0.here hx rfl (hb hby d1_11) rfl (l' := #[.val (.ref ar), .val (.int (0 : Int32)), .val (.int (2 : Int32)), .val (.int (3 : Int32))]) rfl k) ?_
      show Go p e below s Q 0 0 (s₁.setTop (mkF m 12 #[.val (.ref ar), .val (.int (0 : Int32)), .val (.int (2 : Int32)), .val (.int (3 : Int32))] []))
      refine Go.st (fun _ k => XS.aloadN X0.here hx rfl (hb hby d1_12) rfl rfl k) ?_
      refine Go.st (fun _ k => XS.iloadN X0.here hx rfl (hb hby d1_13) rfl k) ?_
      refine Go.st (fun _ k => XS.iloadN X0.here hx rfl (hb hby d1_14) rfl k) ?_
      show Go p e below s Q 0 0 (s₁.setTop (mkF m 15 #[.val (.ref ar), .val (.int (0 : Int32)), .val (.int (2 : Int32)), .val (.int (3 : Int32))] [(.int (3 : Int32)), (.int (0 : Int32)), (.ref ar)]))
      have f10 := rng32 b0
      have f11 := rng32 b1
      have f12 := rng32 b2
      have f13 := rng32 b3
      have f14 := liI_3
      obtain ⟨_, _, ⟨T9, L9, k9, n9⟩, -, X9, ⟨Lc9, hQ9, l9, y9, z9⟩, st9⟩ := Jvm.LawKit.callS X0 hx (y := (⟨"com/example/ballast/ballast/json/Utf8CheckPinLaw", "viable", "([III)Z"⟩ : MethodName)) hown (mvT hZ (hw _ (List.mem_of_getElem? (i := 7) rfl))) (mvT hZ (hw _ (List.mem_of_getElem? (i := 8) rfl))) (mvT hZ (hw _ (List.mem_of_getElem? (i := 5) rfl))) (mvT hZ (hw _ (List.mem_of_getElem? (i := 9) rfl))) (by decide) (backOf (W := 0) (rmv_3 l Z a0 hw [] ar (0 : Int32) (lst [b0, b1, b2, b3]) b0 b1 b2 b3 h0 n0 (Nat.le_trans Z0 K0.1) hV hBr (by decide) rfl rfl rfl (let ⟨_, q1, q2⟩ := cpl_len (d := 2) (by decide) (by decide) (by decide) hcp; lenGe q1 (by omega))) hZ (hw _ (List.mem_of_getElem? (i := 9) rfl)) (hw _ (List.mem_of_getElem? (i := 5) rfl)) (by decide) (by decide)) (g := (mkF m 15 #[.val (.ref ar), .val (.int (0 : Int32)), .val (.int (2 : Int32)), .val (.int (3 : Int32))] [(.int (3 : Int32)), (.int (0 : Int32)), (.ref ar)])) rfl (by rw [hml]; rfl) (argsL := [(.ref ar), (.int (0 : Int32)), (.int (3 : Int32))]) (rest := []) (lenOf pd_2 rfl) rfl (by show 2 * 0 + _ ≤ _; exact Nat.le_of_eq rfl) (hb hby d1_15) (fun _ _ => ⟨rfl, e0, (by decide : 0 + 0 ≤ _), (by decide : 0 + 0 ≤ _)⟩)
      dsimp only [Pt.U, Pt.locs, Pt.cells, Pt.slots] at X9 l9 y9 z9 st9 hQ9
      subst y9 z9
      obtain ⟨r_15, rfl, N9q, f16, e9⟩ := hQ9
      have N9 : Fr n0 L9 := by rw [l9]; exact Fr.app N0 N9q
      refine Go.st st9 ?_
      show Go p e below s Q 0 0 (T9.setTop (mkF m 18 #[.val (.ref ar), .val (.int (0 : Int32)), .val (.int (2 : Int32)), .val (.int (3 : Int32))] [(.int r_15)]))
      have f17 := rng32 r_15
      by_cases c18 : r_15.toInt = 0
      ·
        refine Go.st (fun _ k => XS.ifNo X9.here hx rfl (hb hby d1_18) rfl ((if0 _ _).trans (teq (eqI rfl liI_0 c18)).2) k) ?_
        refine Go.st (fun _ k => XS.iconst X9.here hx rfl (hb hby d1_21) k) ?_
        refine Go.st (fun _ k => XS.iloadN X9.here hx rfl (hb hby d1_22) rfl k) ?_
        refine Go.st (fun _ k => XS.isub X9.here hx rfl (hb hby d1_23) rfl k) ?_
        show Go p e below s Q 0 0 (T9.setTop (mkF m 24 #[.val (.ref ar), .val (.int (0 : Int32)), .val (.int (2 : Int32)), .val (.int (3 : Int32))] [(.int (-3 : Int32))]))
        have f19 := liI_m3
        exact Go.retI X9 hx hlk Bd.returns (hb hby d1_24) (by rw [← hQ, e9]; exact ⟨(-3 : Int32), rfl, N9, (by refine ⟨fun h => by omega, fun _ d hd hs => ?_⟩; obtain rfl : d = 2 := (by omega); exact f16.elim (fun q => absurd q.1 (by omega)) (fun q => Or.inl ⟨q.2, by omega⟩)), rfl⟩) (by decide) (by decide)
      ·
        refine Go.st (fun _ k => XS.ifYes X9.here hx rfl (pc0 := 18) (pc' := 25) rfl (hb hby d1_18) rfl ((if0 _ _).trans (feq (neI rfl liI_0 c18)).2) (by decide) (by decide) k) ?_
        refine Go.st (fun _ k => XS.iloadN X9.here hx rfl (hb hby d1_25) rfl k) ?_
        refine Go.st (fun _ k => XS.aloadN X9.here hx rfl (hb hby d1_26) rfl rfl k) ?_
        refine Go.st (fun _ k => XS.iloadN X9.here hx rfl (hb hby d1_27) rfl k) ?_
        refine Go.st (Vec.ildI X9 hx hZ e9 hV (j := (0 : Int32)) (by decide) (by decide) (g := (mkF m 28 #[.val (.ref ar), .val (.int (0 : Int32)), .val (.int (2 : Int32)), .val (.int (3 : Int32))] [(.int (0 : Int32)), (.ref ar), (.int (3 : Int32))])) rfl rfl (hb hby d1_28)) ?_
        show Go p e below s Q 0 0 (T9.setTop (mkF m 29 #[.val (.ref ar), .val (.int (0 : Int32)), .val (.int (2 : Int32)), .val (.int (3 : Int32))] [(.int b0), (.int (3 : Int32))]))
        have p22 : 0 ≤ b0.toInt ∧ b0.toInt < 256 := by omega
        obtain ⟨_, _, ⟨T21, L21, k21, n21⟩, -, X21, ⟨Lc21, hQ21, l21, y21, z21⟩, st21⟩ := Jvm.LawKit.callS X9 hx (y := (⟨"com/example/ballast/ballast/json/Utf8CheckPinLaw", "len", "(I)I"⟩ : MethodName)) hown (mvT hZ (hw _ (List.mem_of_getElem? (i := 10) rfl))) (mvT hZ (hw _ (List.mem_of_getElem? (i := 11) rfl))) (mvT hZ (hw _ (List.mem_of_getElem? (i := 5) rfl))) (mvT hZ (hw _ (List.mem_of_getElem? (i := 12) rfl))) (by decide) (backOf (W := 1) (rm3 l Z a0 hw [] b0 h0 n0 (Nat.le_trans Z0 K0.1) p22) hZ (hw _ (List.mem_of_getElem? (i := 12) rfl)) (hw _ (List.mem_of_getElem? (i := 5) rfl)) (by decide) (by decide)) (g := (mkF m 29 #[.val (.ref ar), .val (.int (0 : Int32)), .val (.int (2 : Int32)), .val (.int (3 : Int32))] [(.int b0), (.int (3 : Int32))])) rfl (by rw [hml]; rfl) (argsL := [(.int b0)]) (rest := [(.int (3 : Int32))]) (lenOf pd_0 rfl) rfl (by show 2 * 0 + _ ≤ _; exact Nat.le_of_eq rfl) (hb hby d1_29) (fun _ _ => ⟨rfl, e9, (by decide : 0 + 0 ≤ _), (by decide : 0 + 0 ≤ _)⟩)
        dsimp only [Pt.U, Pt.locs, Pt.cells, Pt.slots] at X21 l21 y21 z21 st21 hQ21
        subst y21 z21
        obtain ⟨r_23, rfl, N21q, f24, e21⟩ := hQ21
        have N21 : Fr n0 L21 := by rw [l21]; exact Fr.app N9 N21q
        refine Go.st st21 ?_
        show Go p e below s Q 0 0 (T21.setTop (mkF m 32 #[.val (.ref ar), .val (.int (0 : Int32)), .val (.int (2 : Int32)), .val (.int (3 : Int32))] [(.int r_23), (.int (3 : Int32))]))
        have f25 := rng32 r_23
        by_cases c26 : 3 = r_23.toInt
        ·
          refine Go.st (fun _ k => XS.icmpNo X21.here hx rfl (hb hby d1_32) rfl (teq (eqI liI_3 rfl c26)).2 k) ?_
          refine Go.st (fun _ k => XS.iloadN X21.here hx rfl (hb hby d1_35) rfl k) ?_
          refine Go.st (fun _ k => XS.iconst X21.here hx rfl (hb hby d1_36) k) ?_
          refine Go.st (fun _ k => XS.iadd X21.here hx rfl (hb hby d1_37) rfl k) ?_
          show Go p e below s Q 0 0 (T21.setTop (mkF m 38 #[.val (.ref ar), .val (.int (0 : Int32)), .val (.int (2 : Int32)), .val (.int (3 : Int32))] [(.int (3 : Int32))]))
          exact Go.retI X21 hx hlk Bd.returns (hb hby d1_38) (by rw [← hQ, e21]; exact ⟨(3 : Int32), rfl, N21, (by refine ⟨fun h => by omega, fun _ d hd hs => ?_⟩; obtain rfl : d = 2 := (by omega); exact f16.elim (fun q => Or.inr ⟨q.2.1, r_23.toInt, f24.elim id (fun q5 => by obtain ⟨n5, hn5⟩ := q.2.2; unfold LenIs at hn5; exfalso; omega), by omega⟩) (fun q => absurd q.1 (by omega))), rfl⟩) (by decide) (by decide)
        ·
          refine Go.st (fun _ k => XS.icmpYes X21.here hx rfl (pc0 := 32) (pc' := 39) rfl (hb hby d1_32) rfl (feq (neI liI_3 rfl c26)).2 (by decide) (by decide) k) ?_
          refine Go.st (fun _ k => XS.iloadN X21.here hx rfl (hb hby d1_39) rfl k) ?_
          show Go p e below s Q 0 0 (T21.setTop (mkF m 40 #[.val (.ref ar), .val (.int (0 : Int32)), .val (.int (2 : Int32)), .val (.int (3 : Int32))] [(.int (0 : Int32))]))
          exact Go.retI X21 hx hlk Bd.returns (hb hby d1_40) (by rw [← hQ, e21]; exact ⟨(0 : Int32), rfl, N21, (by refine ⟨fun h => by omega, fun _ d hd hs => ?_⟩; obtain rfl : d = 2 := (by omega); exact f16.elim (fun q => Or.inr ⟨q.2.1, r_23.toInt, f24.elim id (fun q5 => by obtain ⟨n5, hn5⟩ := q.2.2; unfold LenIs at hn5; exfalso; omega), by omega⟩) (fun q => absurd q.1 (by omega))), rfl⟩) (by decide) (by decide)
    ·
      have cs7' : s0 = (1 : Int32) := eqI cs7 liI_1 rfl
      subst cs7'
      have f27 := liI_1
      show Go p e below s Q 0 0 (s₁.setTop (mkF m 6 #[.val (.ref ar), .val (.int (1 : Int32)), .val (.int (2 : Int32)), .unset] []))
      refine Go.st (fun _ k => XS.iloadN X0.here hx rfl (hb hby d1_6) rfl k) ?_
      refine Go.st (fun _ k => XS.iloadN X0.here hx rfl (hb hby d1_7) rfl k) ?_
      refine Go.st (fun _ k => XS.isub X0.here hx rfl (hb hby d1_8) rfl k) ?_
      refine Go.st (fun _ k => XS.iconst X0.here hx rfl (hb hby d1_9) k) ?_
      refine Go.st (fun _ k => XS.iadd X0.here hx rfl (hb hby d1_10) rfl k) ?_
      refine Go.st (fun _ k => XS.istoreN X0.here hx rfl (hb hby d1_11) rfl (l' := #[.val (.ref ar), .val (.int (1 : Int32)), .val (.int (2 : Int32)), .val (.int (2 : Int32))]) rfl k) ?_
      show Go p e below s Q 0 0 (s₁.setTop (mkF m 12 #[.val (.ref ar), .val (.int (1 : Int32)), .val (.int (2 : Int32)), .val (.int (2 : Int32))] []))
      refine Go.st (fun _ k => XS.aloadN X0.here hx rfl (hb hby d1_12) rfl rfl k) ?_
      refine Go.st (fun _ k => XS.iloadN X0.here hx rfl (hb hby d1_13) rfl k) ?_
      refine Go.st (fun _ k => XS.iloadN X0.here hx rfl (hb hby d1_14) rfl k) ?_
      show Go p e below s Q 0 0 (s₁.setTop (mkF m 15 #[.val (.ref ar), .val (.int (1 : Int32)), .val (.int (2 : Int32)), .val (.int (2 : Int32))] [(.int (2 : Int32)), (.int (1 : Int32)), (.ref ar)]))
      have f29 := rng32 b1
      have f30 := rng32 b2
      have f31 := rng32 b3
      obtain ⟨_, _, ⟨T28, L28, k28, n28⟩, -, X28, ⟨Lc28, hQ28, l28, y28, z28⟩, st28⟩ := Jvm.LawKit.callS X0 hx (y := (⟨"com/example/ballast/ballast/json/Utf8CheckPinLaw", "viable", "([III)Z"⟩ : MethodName)) hown (mvT hZ (hw _ (List.mem_of_getElem? (i := 7) rfl))) (mvT hZ (hw _ (List.mem_of_getElem? (i := 8) rfl))) (mvT hZ (hw _ (List.mem_of_getElem? (i := 5) rfl))) (mvT hZ (hw _ (List.mem_of_getElem? (i := 9) rfl))) (by decide) (backOf (W := 0) (rmv_2 l Z a0 hw [] ar (1 : Int32) (lst [b0, b1, b2, b3]) b1 b2 b3 (0 : Int32) h0 n0 (Nat.le_trans Z0 K0.1) hV hBr (by decide) rfl rfl (let ⟨_, q1, q2⟩ := cpl_len (d := 1) (by decide) (by decide) (by decide) hcp; lenGe q1 (by omega))) hZ (hw _ (List.mem_of_getElem? (i := 9) rfl)) (hw _ (List.mem_of_getElem? (i := 5) rfl)) (by decide) (by decide)) (g := (mkF m 15 #[.val (.ref ar), .val (.int (1 : Int32)), .val (.int (2 : Int32)), .val (.int (2 : Int32))] [(.int (2 : Int32)), (.int (1 : Int32)), (.ref ar)])) rfl (by rw [hml]; rfl) (argsL := [(.ref ar), (.int (1 : Int32)), (.int (2 : Int32))]) (rest := []) (lenOf pd_2 rfl) rfl (by show 2 * 0 + _ ≤ _; exact Nat.le_of_eq rfl) (hb hby d1_15) (fun _ _ => ⟨rfl, e0, (by decide : 0 + 0 ≤ _), (by decide : 0 + 0 ≤ _)⟩)
      dsimp only [Pt.U, Pt.locs, Pt.cells, Pt.slots] at X28 l28 y28 z28 st28 hQ28
      subst y28 z28
      obtain ⟨r_32, rfl, N28q, f33, e28⟩ := hQ28
      have N28 : Fr n0 L28 := by rw [l28]; exact Fr.app N0 N28q
      refine Go.st st28 ?_
      show Go p e below s Q 0 0 (T28.setTop (mkF m 18 #[.val (.ref ar), .val (.int (1 : Int32)), .val (.int (2 : Int32)), .val (.int (2 : Int32))] [(.int r_32)]))
      have f34 := rng32 r_32
      by_cases c35 : r_32.toInt = 0
      ·
        refine Go.st (fun _ k => XS.ifNo X28.here hx rfl (hb hby d1_18) rfl ((if0 _ _).trans (teq (eqI rfl liI_0 c35)).2) k) ?_
        refine Go.st (fun _ k => XS.iconst X28.here hx rfl (hb hby d1_21) k) ?_
        refine Go.st (fun _ k => XS.iloadN X28.here hx rfl (hb hby d1_22) rfl k) ?_
        refine Go.st (fun _ k => XS.isub X28.here hx rfl (hb hby d1_23) rfl k) ?_
        show Go p e below s Q 0 0 (T28.setTop (mkF m 24 #[.val (.ref ar), .val (.int (1 : Int32)), .val (.int (2 : Int32)), .val (.int (2 : Int32))] [(.int (-3 : Int32))]))
        have f36 := liI_m3
        exact Go.retI X28 hx hlk Bd.returns (hb hby d1_24) (by rw [← hQ, e28]; exact ⟨(-3 : Int32), rfl, N28, (by refine ⟨fun h => by omega, fun _ d hd hs => ?_⟩; obtain rfl : d = 1 := (by omega); exact f33.elim (fun q => absurd q.1 (by omega)) (fun q => Or.inl ⟨q.2, by omega⟩)), rfl⟩) (by decide) (by decide)
      ·
        refine Go.st (fun _ k => XS.ifYes X28.here hx rfl (pc0 := 18) (pc' := 25) rfl (hb hby d1_18) rfl ((if0 _ _).trans (feq (neI rfl liI_0 c35)).2) (by decide) (by decide) k) ?_
        refine Go.st (fun _ k => XS.iloadN X28.here hx rfl (hb hby d1_25) rfl k) ?_
        refine Go.st (fun _ k => XS.aloadN X28.here hx rfl (hb hby d1_26) rfl rfl k) ?_
        refine Go.st (fun _ k => XS.iloadN X28.here hx rfl (hb hby d1_27) rfl k) ?_
        refine Go.st (Vec.ildI X28 hx hZ e28 hV (j := (1 : Int32)) (by decide) (by decide) (g := (mkF m 28 #[.val (.ref ar), .val (.int (1 : Int32)), .val (.int (2 : Int32)), .val (.int (2 : Int32))] [(.int (1 : Int32)), (.ref ar), (.int (2 : Int32))])) rfl rfl (hb hby d1_28)) ?_
        show Go p e below s Q 0 0 (T28.setTop (mkF m 29 #[.val (.ref ar), .val (.int (1 : Int32)), .val (.int (2 : Int32)), .val (.int (2 : Int32))] [(.int b1), (.int (2 : Int32))]))
        have p39 : 0 ≤ b1.toInt ∧ b1.toInt < 256 := by omega
        obtain ⟨_, _, ⟨T38, L38, k38, n38⟩, -, X38, ⟨Lc38, hQ38, l38, y38, z38⟩, st38⟩ := Jvm.LawKit.callS X28 hx (y := (⟨"com/example/ballast/ballast/json/Utf8CheckPinLaw", "len", "(I)I"⟩ : MethodName)) hown (mvT hZ (hw _ (List.mem_of_getElem? (i := 10) rfl))) (mvT hZ (hw _ (List.mem_of_getElem? (i := 11) rfl))) (mvT hZ (hw _ (List.mem_of_getElem? (i := 5) rfl))) (mvT hZ (hw _ (List.mem_of_getElem? (i := 12) rfl))) (by decide) (backOf (W := 1) (rm3 l Z a0 hw [] b1 h0 n0 (Nat.le_trans Z0 K0.1) p39) hZ (hw _ (List.mem_of_getElem? (i := 12) rfl)) (hw _ (List.mem_of_getElem? (i := 5) rfl)) (by decide) (by decide)) (g := (mkF m 29 #[.val (.ref ar), .val (.int (1 : Int32)), .val (.int (2 : Int32)), .val (.int (2 : Int32))] [(.int b1), (.int (2 : Int32))])) rfl (by rw [hml]; rfl) (argsL := [(.int b1)]) (rest := [(.int (2 : Int32))]) (lenOf pd_0 rfl) rfl (by show 2 * 0 + _ ≤ _; exact Nat.le_of_eq rfl) (hb hby d1_29) (fun _ _ => ⟨rfl, e28, (by decide : 0 + 0 ≤ _), (by decide : 0 + 0 ≤ _)⟩)
        dsimp only [Pt.U, Pt.locs, Pt.cells, Pt.slots] at X38 l38 y38 z38 st38 hQ38
        subst y38 z38
        obtain ⟨r_40, rfl, N38q, f41, e38⟩ := hQ38
        have N38 : Fr n0 L38 := by rw [l38]; exact Fr.app N28 N38q
        refine Go.st st38 ?_
        show Go p e below s Q 0 0 (T38.setTop (mkF m 32 #[.val (.ref ar), .val (.int (1 : Int32)), .val (.int (2 : Int32)), .val (.int (2 : Int32))] [(.int r_40), (.int (2 : Int32))]))
        have f42 := rng32 r_40
        by_cases c43 : 2 = r_40.toInt
        ·
          refine Go.st (fun _ k => XS.icmpNo X38.here hx rfl (hb hby d1_32) rfl (teq (eqI liI_2 rfl c43)).2 k) ?_
          refine Go.st (fun _ k => XS.iloadN X38.here hx rfl (hb hby d1_35) rfl k) ?_
          refine Go.st (fun _ k => XS.iconst X38.here hx rfl (hb hby d1_36) k) ?_
          refine Go.st (fun _ k => XS.iadd X38.here hx rfl (hb hby d1_37) rfl k) ?_
          show Go p e below s Q 0 0 (T38.setTop (mkF m 38 #[.val (.ref ar), .val (.int (1 : Int32)), .val (.int (2 : Int32)), .val (.int (2 : Int32))] [(.int (3 : Int32))]))
          have f44 := liI_3
          exact Go.retI X38 hx hlk Bd.returns (hb hby d1_38) (by rw [← hQ, e38]; exact ⟨(3 : Int32), rfl, N38, (by refine ⟨fun h => by omega, fun _ d hd hs => ?_⟩; obtain rfl : d = 1 := (by omega); exact f33.elim (fun q => Or.inr ⟨q.2.1, r_40.toInt, f41.elim id (fun q5 => by obtain ⟨n5, hn5⟩ := q.2.2; unfold LenIs at hn5; exfalso; omega), by omega⟩) (fun q => absurd q.1 (by omega))), rfl⟩) (by decide) (by decide)
        ·
          refine Go.st (fun _ k => XS.icmpYes X38.here hx rfl (pc0 := 32) (pc' := 39) rfl (hb hby d1_32) rfl (feq (neI liI_2 rfl c43)).2 (by decide) (by decide) k) ?_
          refine Go.st (fun _ k => XS.iloadN X38.here hx rfl (hb hby d1_39) rfl k) ?_
          show Go p e below s Q 0 0 (T38.setTop (mkF m 40 #[.val (.ref ar), .val (.int (1 : Int32)), .val (.int (2 : Int32)), .val (.int (2 : Int32))] [(.int (1 : Int32))]))
          exact Go.retI X38 hx hlk Bd.returns (hb hby d1_40) (by rw [← hQ, e38]; exact ⟨(1 : Int32), rfl, N38, (by refine ⟨fun h => by omega, fun _ d hd hs => ?_⟩; obtain rfl : d = 1 := (by omega); exact f33.elim (fun q => Or.inr ⟨q.2.1, r_40.toInt, f41.elim id (fun q5 => by obtain ⟨n5, hn5⟩ := q.2.2; unfold LenIs at hn5; exfalso; omega), by omega⟩) (fun q => absurd q.1 (by omega))), rfl⟩) (by decide) (by decide)
    ·
      have cs8' : s0 = (2 : Int32) := eqI cs8 liI_2 rfl
      subst cs8'
      show Go p e below s Q 0 0 (s₁.setTop (mkF m 6 #[.val (.ref ar), .val (.int (2 : Int32)), .val (.int (2 : Int32)), .unset] []))
      refine Go.st (fun _ k => XS.iloadN X0.here hx rfl (hb hby d1_6) rfl k) ?_
      refine Go.st (fun _ k => XS.iloadN X0.here hx rfl (hb hby d1_7) rfl k) ?_
      refine Go.st (fun _ k => XS.isub X0.here hx rfl (hb hby d1_8) rfl k) ?_
      refine Go.st (fun _ k => XS.iconst X0.here hx rfl (hb hby d1_9) k) ?_
      refine Go.st (fun _ k => XS.iadd X0.here hx rfl (hb hby d1_10) rfl k) ?_
      refine Go.st (fun _ k => XS.istoreN X0.here hx rfl (hb hby d1_11) rfl (l' := #[.val (.ref ar), .val (.int (2 : Int32)), .val (.int (2 : Int32)), .val (.int (1 : Int32))]) rfl k) ?_
      show Go p e below s Q 0 0 (s₁.setTop (mkF m 12 #[.val (.ref ar), .val (.int (2 : Int32)), .val (.int (2 : Int32)), .val (.int (1 : Int32))] []))
      refine Go.st (fun _ k => XS.aloadN X0.here hx rfl (hb hby d1_12) rfl rfl k) ?_
      refine Go.st (fun _ k => XS.iloadN X0.here hx rfl (hb hby d1_13) rfl k) ?_
      refine Go.st (fun _ k => XS.iloadN X0.here hx rfl (hb hby d1_14) rfl k) ?_
      show Go p e below s Q 0 0 (s₁.setTop (mkF m 15 #[.val (.ref ar), .val (.int (2 : Int32)), .val (.int (2 : Int32)), .val (.int (1 : Int32))] [(.int (1 : Int32)), (.int (2 : Int32)), (.ref ar)]))
      have f46 := rng32 b2
      have f47 := rng32 b3
      have f48 := liI_1
      obtain ⟨_, _, ⟨T45, L45, k45, n45⟩, -, X45, ⟨Lc45, hQ45, l45, y45, z45⟩, st45⟩ := Jvm.LawKit.callS X0 hx (y := (⟨"com/example/ballast/ballast/json/Utf8CheckPinLaw", "viable", "([III)Z"⟩ : MethodName)) hown (mvT hZ (hw _ (List.mem_of_getElem? (i := 7) rfl))) (mvT hZ (hw _ (List.mem_of_getElem? (i := 8) rfl))) (mvT hZ (hw _ (List.mem_of_getElem? (i := 5) rfl))) (mvT hZ (hw _ (List.mem_of_getElem? (i := 9) rfl))) (by decide) (backOf (W := 0) (rmv_1 l Z a0 hw [] ar (2 : Int32) (lst [b0, b1, b2, b3]) b2 b3 (0 : Int32) (0 : Int32) h0 n0 (Nat.le_trans Z0 K0.1) hV hBr (by decide) rfl) hZ (hw _ (List.mem_of_getElem? (i := 9) rfl)) (hw _ (List.mem_of_getElem? (i := 5) rfl)) (by decide) (by decide)) (g := (mkF m 15 #[.val (.ref ar), .val (.int (2 : Int32)), .val (.int (2 : Int32)), .val (.int (1 : Int32))] [(.int (1 : Int32)), (.int (2 : Int32)), (.ref ar)])) rfl (by rw [hml]; rfl) (argsL := [(.ref ar), (.int (2 : Int32)), (.int (1 : Int32))]) (rest := []) (lenOf pd_2 rfl) rfl (by show 2 * 0 + _ ≤ _; exact Nat.le_of_eq rfl) (hb hby d1_15) (fun _ _ => ⟨rfl, e0, (by decide : 0 + 0 ≤ _), (by decide : 0 + 0 ≤ _)⟩)
      dsimp only [Pt.U, Pt.locs, Pt.cells, Pt.slots] at X45 l45 y45 z45 st45 hQ45
      subst y45 z45
      obtain ⟨r_49, rfl, N45q, f50, e45⟩ := hQ45
      have N45 : Fr n0 L45 := by rw [l45]; exact Fr.app N0 N45q
      refine Go.st st45 ?_
      show Go p e below s Q 0 0 (T45.setTop (mkF m 18 #[.val (.ref ar), .val (.int (2 : Int32)), .val (.int (2 : Int32)), .val (.int (1 : Int32))] [(.int r_49)]))
      have f51 := rng32 r_49
      by_cases c52 : r_49.toInt = 0
      ·
        refine Go.st (fun _ k => XS.ifNo X45.here hx rfl (hb hby d1_18) rfl ((if0 _ _).trans (teq (eqI rfl liI_0 c52)).2) k) ?_
        refine Go.st (fun _ k => XS.iconst X45.here hx rfl (hb hby d1_21) k) ?_
        refine Go.st (fun _ k => XS.iloadN X45.here hx rfl (hb hby d1_22) rfl k) ?_
        refine Go.st (fun _ k => XS.isub X45.here hx rfl (hb hby d1_23) rfl k) ?_
        show Go p e below s Q 0 0 (T45.setTop (mkF m 24 #[.val (.ref ar), .val (.int (2 : Int32)), .val (.int (2 : Int32)), .val (.int (1 : Int32))] [(.int (-3 : Int32))]))
        have f53 := liI_m3
        exact Go.retI X45 hx hlk Bd.returns (hb hby d1_24) (by rw [← hQ, e45]; exact ⟨(-3 : Int32), rfl, N45, (by refine ⟨fun h => by omega, fun _ d hd hs => ?_⟩; obtain rfl : d = 0 := (by omega); exact f50.elim (fun q => absurd q.1 (by omega)) (fun q => Or.inl ⟨q.2, by omega⟩)), rfl⟩) (by decide) (by decide)
      ·
        refine Go.st (fun _ k => XS.ifYes X45.here hx rfl (pc0 := 18) (pc' := 25) rfl (hb hby d1_18) rfl ((if0 _ _).trans (feq (neI rfl liI_0 c52)).2) (by decide) (by decide) k) ?_
        refine Go.st (fun _ k => XS.iloadN X45.here hx rfl (hb hby d1_25) rfl k) ?_
        refine Go.st (fun _ k => XS.aloadN X45.here hx rfl (hb hby d1_26) rfl rfl k) ?_
        refine Go.st (fun _ k => XS.iloadN X45.here hx rfl (hb hby d1_27) rfl k) ?_
        refine Go.st (Vec.ildI X45 hx hZ e45 hV (j := (2 : Int32)) (by decide) (by decide) (g := (mkF m 28 #[.val (.ref ar), .val (.int (2 : Int32)), .val (.int (2 : Int32)), .val (.int (1 : Int32))] [(.int (2 : Int32)), (.ref ar), (.int (1 : Int32))])) rfl rfl (hb hby d1_28)) ?_
        show Go p e below s Q 0 0 (T45.setTop (mkF m 29 #[.val (.ref ar), .val (.int (2 : Int32)), .val (.int (2 : Int32)), .val (.int (1 : Int32))] [(.int b2), (.int (1 : Int32))]))
        have p56 : 0 ≤ b2.toInt ∧ b2.toInt < 256 := by omega
        obtain ⟨_, _, ⟨T55, L55, k55, n55⟩, -, X55, ⟨Lc55, hQ55, l55, y55, z55⟩, st55⟩ := Jvm.LawKit.callS X45 hx (y := (⟨"com/example/ballast/ballast/json/Utf8CheckPinLaw", "len", "(I)I"⟩ : MethodName)) hown (mvT hZ (hw _ (List.mem_of_getElem? (i := 10) rfl))) (mvT hZ (hw _ (List.mem_of_getElem? (i := 11) rfl))) (mvT hZ (hw _ (List.mem_of_getElem? (i := 5) rfl))) (mvT hZ (hw _ (List.mem_of_getElem? (i := 12) rfl))) (by decide) (backOf (W := 1) (rm3 l Z a0 hw [] b2 h0 n0 (Nat.le_trans Z0 K0.1) p56) hZ (hw _ (List.mem_of_getElem? (i := 12) rfl)) (hw _ (List.mem_of_getElem? (i := 5) rfl)) (by decide) (by decide)) (g := (mkF m 29 #[.val (.ref ar), .val (.int (2 : Int32)), .val (.int (2 : Int32)), .val (.int (1 : Int32))] [(.int b2), (.int (1 : Int32))])) rfl (by rw [hml]; rfl) (argsL := [(.int b2)]) (rest := [(.int (1 : Int32))]) (lenOf pd_0 rfl) rfl (by show 2 * 0 + _ ≤ _; exact Nat.le_of_eq rfl) (hb hby d1_29) (fun _ _ => ⟨rfl, e45, (by decide : 0 + 0 ≤ _), (by decide : 0 + 0 ≤ _)⟩)
        dsimp only [Pt.U, Pt.locs, Pt.cells, Pt.slots] at X55 l55 y55 z55 st55 hQ55
        subst y55 z55
        obtain ⟨r_57, rfl, N55q, f58, e55⟩ := hQ55
        have N55 : Fr n0 L55 := by rw [l55]; exact Fr.app N45 N55q
        refine Go.st st55 ?_
        show Go p e below s Q 0 0 (T55.setTop (mkF m 32 #[.val (.ref ar), .val (.int (2 : Int32)), .val (.int (2 : Int32)), .val (.int (1 : Int32))] [(.int r_57), (.int (1 : Int32))]))
        have f59 := rng32 r_57
        by_cases c60 : 1 = r_57.toInt
        ·
          refine Go.st (fun _ k => XS.icmpNo X55.here hx rfl (hb hby d1_32) rfl (teq (eqI liI_1 rfl c60)).2 k) ?_
          refine Go.st (fun _ k => XS.iloadN X55.here hx rfl (hb hby d1_35) rfl k) ?_
          refine Go.st (fun _ k => XS.iconst X55.here hx rfl (hb hby d1_36) k) ?_
          refine Go.st (fun _ k => XS.iadd X55.here hx rfl (hb hby d1_37) rfl k) ?_
          show Go p e below s Q 0 0 (T55.setTop (mkF m 38 #[.val (.ref ar), .val (.int (2 : Int32)), .val (.int (2 : Int32)), .val (.int (1 : Int32))] [(.int (3 : Int32))]))
          have f61 := liI_3
          exact Go.retI X55 hx hlk Bd.returns (hb hby d1_38) (by rw [← hQ, e55]; exact ⟨(3 : Int32), rfl, N55, (by refine ⟨fun h => by omega, fun _ d hd hs => ?_⟩; obtain rfl : d = 0 := (by omega); exact f50.elim (fun q => Or.inr ⟨q.2.1, r_57.toInt, f58.elim id (fun q5 => by obtain ⟨n5, hn5⟩ := q.2.2; unfold LenIs at hn5; exfalso; omega), by omega⟩) (fun q => absurd q.1 (by omega))), rfl⟩) (by decide) (by decide)
        ·
          refine Go.st (fun _ k => XS.icmpYes X55.here hx rfl (pc0 := 32) (pc' := 39) rfl (hb hby d1_32) rfl (feq (neI liI_1 rfl c60)).2 (by decide) (by decide) k) ?_
          refine Go.st (fun _ k => XS.iloadN X55.here hx rfl (hb hby d1_39) rfl k) ?_
          show Go p e below s Q 0 0 (T55.setTop (mkF m 40 #[.val (.ref ar), .val (.int (2 : Int32)), .val (.int (2 : Int32)), .val (.int (1 : Int32))] [(.int (2 : Int32))]))
          exact Go.retI X55 hx hlk Bd.returns (hb hby d1_40) (by rw [← hQ, e55]; exact ⟨(2 : Int32), rfl, N55, (by refine ⟨fun h => by omega, fun _ d hd hs => ?_⟩; obtain rfl : d = 0 := (by omega); exact f50.elim (fun q => Or.inr ⟨q.2.1, r_57.toInt, f58.elim id (fun q5 => by obtain ⟨n5, hn5⟩ := q.2.2; unfold LenIs at hn5; exfalso; omega), by omega⟩) (fun q => absurd q.1 (by omega))), rfl⟩) (by decide) (by decide)
theorem liI_m4 : (-4 : Int32).toInt = -4 := by decide
theorem ef_rms_3 (m : MethodId) (ar : Addr) (s0 : Int32) : entryFrame m #[(.ref ar), (.int s0), (.int (3 : Int32))] 4 = mkF m 0 #[.val (.ref ar), .val (.int s0), .val (.int (3 : Int32)), .unset] [] := by first | (simp [entryFrame, mkF, argsToLocals, Value.category]; done) | rfl
def Qs_3 (Z : State) (ar : Addr) (s0 : Int32) (b0 : Int32) (b1 : Int32) (b2 : Int32) (b3 : Int32) (h0 : Heap) (n0 : Nat) (vv : Option Value) (h : Heap) (LL : List Loc) : Prop := ∃ (r : Int32), vv = some (.int r) ∧ Fr n0 LL ∧ ((s0.toInt < 0 → r.toInt = s0.toInt) ∧ (0 ≤ s0.toInt → StepIs (BB b0 b1 b2 b3) 3 s0.toInt r.toInt)) ∧ h = h0
set_option maxRecDepth 65536 in
set_option maxHeartbeats 40000000 in
theorem rms_3 (l : Launch) (Z : State) (a0 : Array Value) (hw : ∀ d ∈ tables_1, d.before a0 Z = true) (ws : List Jvm.Cond) (ar : Addr) (s0 : Int32) (b0 : Int32) (b1 : Int32) (b2 : Int32) (b3 : Int32) (h0 : Heap) (n0 : Nat) (Z0 : n0 ≤ h0.size) (hV : Vec Z h0 ar .int (4 : Int32) (ints (lst [b0, b1, b2, b3]))) (hr0 : 0 ≤ b0.toInt ∧ b0.toInt ≤ 255) (hr1 : 0 ≤ b1.toInt ∧ b1.toInt ≤ 255) (hr2 : 0 ≤ b2.toInt ∧ b2.toInt ≤ 255) (hr3 : 0 ≤ b3.toInt ∧ b3.toInt ≤ 255) (hs0 : s0.toInt < 0 ∨ ∃ p l m, Cpl (BB b0 b1 b2 b3) 3 s0.toInt p l m) :
    MetFree l (⟨"com/example/ballast/ballast/json/Utf8CheckPinLaw", "step", "([III)I"⟩ : MethodName) (head1 (Jvm.Cond.code (⟨"com/example/ballast/ballast/json/Utf8CheckPinLaw", "step", "([III)I"⟩ : MethodName) method_4_code 4 (some .int) :: ws) ({ frames := 2, cells := 0, slots := 0, locals := 36 } : Room)) (fun aa UU => aa = #[(.ref ar), (.int s0), (.int (3 : Int32))] ∧ Z.Warmed39 UU.vm ∧ UU.heap = h0) (fun _ _ _ _ _ => True) (fun _ UU oo UU' => ∃ vv LL, oo = .returned vv ∧ Qs_3 Z ar s0 b0 b1 b2 b3 h0 n0 vv UU'.heap LL ∧ FrameEnd UU oo UU' LL 0 0) := by
  refine MetFree.of_bodySF (plainFor_of_name pn_0) hisR ?_
  intro p e s m args below meth c s₁ Bd hml0 hP hK
  obtain ⟨rfl, hZ, hh⟩ := hP
  have hx := Bd.exec
  have hby := Bd.bytes
  have hlk : meth.locks = false := BodyLoose.notSynchronized Bd
  have hml : c.maxLocals = 4 := hml0
  have hown : s.vm.findClass "com/example/ballast/ballast/json/Utf8CheckPinLaw" = some m.cls := findClass_of_methodNamed Bd.named
  have hnm := (name_of_methodNamed Bd.named Bd.method).1
  have X0 : Stand p l e ({ frames := 2, cells := 0, slots := 0, locals := 36 } : Room) s m #[(.ref ar), (.int s0), (.int (3 : Int32))] below meth c s₁ [] 0 0 := Stand.of_body Bd
  have e0 : s₁.heap = h0 := by rw [← hh, Bd.state]; rfl
  have N0 := Fr.nil n0
  have K0 : Keep h0 h0 [] := Keep.refl h0 _
  refine (?_ : Go p e below s (Qs_3 Z ar s0 b0 b1 b2 b3 h0 n0) 0 0 (s₁.setTop (entryFrame m #[(.ref ar), (.int s0), (.int (3 : Int32))] 4)))
  rw [ef_rms_3]
  generalize hQ : Qs_3 Z ar s0 b0 b1 b2 b3 h0 n0 = Q
  have hBr : ∀ j : Nat, 0 ≤ ((lst [b0, b1, b2, b3]) j).toInt ∧ ((lst [b0, b1, b2, b3]) j).toInt ≤ 255 := BB_rng hr0 hr1 hr2 hr3
  show Go p e below s Q 0 0 (s₁.setTop (mkF m 0 #[.val (.ref ar), .val (.int s0), .val (.int (3 : Int32)), .unset] []))
  have f1 := rng32 s0
  have f2 := liI_3
  refine Go.st (fun _ k => XS.iloadN X0.here hx rfl (hb hby d1_0) rfl k) ?_
  have f3 := liI_0
  by_cases c4 : s0.toInt < 0
  ·
    refine Go.st (fun _ k => XS.ifNo X0.here hx rfl (hb hby d1_1) rfl ((if0 _ _).trans (tlt (ltI rfl liI_0 c4)).2.1) k) ?_
    refine Go.st (fun _ k => XS.iloadN X0.here hx rfl (hb hby d1_4) rfl k) ?_
    show Go p e below s Q 0 0 (s₁.setTop (mkF m 5 #[.val (.ref ar), .val (.int s0), .val (.int (3 : Int32)), .unset] [(.int s0)]))
    exact Go.retI X0 hx hlk Bd.returns (hb hby d1_5) (by rw [← hQ, e0]; exact ⟨s0, rfl, N0, (by exact ⟨fun _ => rfl, fun h => by omega⟩), rfl⟩) (by decide) (by decide)
  ·
    refine Go.st (fun _ k => XS.ifYes X0.here hx rfl (pc0 := 1) (pc' := 6) rfl (hb hby d1_1) rfl ((if0 _ _).trans (flt (nltI rfl liI_0 c4)).2.1) (by decide) (by decide) k) ?_
    show Go p e below s Q 0 0 (s₁.setTop (mkF m 6 #[.val (.ref ar), .val (.int s0), .val (.int (3 : Int32)), .unset] []))
    have hcp : ∃ p l m, Cpl (BB b0 b1 b2 b3) 3 s0.toInt p l m := hs0.elim (fun q => absurd q (by omega)) id
    have cs5 : s0.toInt = 0 ∨ s0.toInt = 1 ∨ s0.toInt = 2 ∨ s0.toInt = 3 := by obtain ⟨p, l, m, q⟩ := hcp; rcases q with ⟨q, -⟩ | ⟨d, n, q1, q2, q3, -⟩ <;> omega
    rcases cs5 with cs6 | cs7 | cs8 | cs9
    ·
      have cs6' : s0 = (0 : Int32) := eqI cs6 liI_0 rfl
      subst cs6'
      show Go p e below s Q 0 0 (s₁.setTop (mkF m 6 #[.val (.ref ar), .val (.int (0 : Int32)), .val (.int (3 : Int32)), .unset] []))
      refine Go.st (fun _ k => XS.iloadN X0.here hx rfl (hb hby d1_6) rfl k) ?_
      refine Go.st (fun _ k => XS.iloadN X0.here hx rfl (hb hby d1_7) rfl k) ?_
      refine Go.st (fun _ k => XS.isub X0.here hx rfl (hb hby d1_8) rfl k) ?_
      refine Go.st (fun _ k => XS.iconst X0.here hx rfl (hb hby d1_9) k) ?_
      refine Go.st (fun _ k => XS.iadd X0.here hx rfl (hb hby d1_10) rfl k) ?_
      refine Go.st (fun _ k => XS.istoreN X0.here hx rfl (hb hby d1_11) rfl (l' := #[.val (.ref ar), .val (.int (0 : Int32)), .val (.int (3 : Int32)), .val (.int (4 : Int32))]) rfl k) ?_
      show Go p e below s Q 0 0 (s₁.setTop (mkF m 12 #[.val (.ref ar), .val (.int (0 : Int32)), .val (.int (3 : Int32)), .val (.int (4 : Int32))] []))
      refine Go.st (fun _ k => XS.aloadN X0.here hx rfl (hb hby d1_12) rfl rfl k) ?_
      refine Go.st (fun _ k => XS.iloadN X0.here hx rfl (hb hby d1_13) rfl k) ?_
      refine Go.st (fun _ k => XS.iloadN X0.here hx rfl (hb hby d1_14) rfl k) ?_
      show Go p e below s Q 0 0 (s₁.setTop (mkF m 15 #[.val (.ref ar), .val (.int (0 : Int32)), .val (.int (3 : Int32)), .val (.int (4 : Int32))] [(.int (4 : Int32)), (.int (0 : Int32)), (.ref ar)]))
      have f11 := rng32 b0
      have f12 := rng32 b1
      have f13 := rng32 b2
      have f14 := rng32 b3
      have f15 := liI_4
      obtain ⟨_, _, ⟨T10, L10, k10, n10⟩, -, X10, ⟨Lc10, hQ10, l10, y10, z10⟩, st10⟩ := Jvm.LawKit.callS X0 hx (y := (⟨"com/example/ballast/ballast/json/Utf8CheckPinLaw", "viable", "([III)Z"⟩ : MethodName)) hown (mvT hZ (hw _ (List.mem_of_getElem? (i := 7) rfl))) (mvT hZ (hw _ (List.mem_of_getElem? (i := 8) rfl))) (mvT hZ (hw _ (List.mem_of_getElem? (i := 5) rfl))) (mvT hZ (hw _ (List.mem_of_getElem? (i := 9) rfl))) (by decide) (backOf (W := 0) (rmv_4 l Z a0 hw [] ar (0 : Int32) (lst [b0, b1, b2, b3]) b0 b1 b2 b3 h0 n0 (Nat.le_trans Z0 K0.1) hV hBr (by decide) rfl rfl rfl rfl (let ⟨_, q1, q2⟩ := cpl_len (d := 3) (by decide) (by decide) (by decide) hcp; lenGe q1 (by omega))) hZ (hw _ (List.mem_of_getElem? (i := 9) rfl)) (hw _ (List.mem_of_getElem? (i := 5) rfl)) (by decide) (by decide)) (g := (mkF m 15 #[.val (.ref ar), .val (.int (0 : Int32)), .val (.int (3 : Int32)), .val (.int (4 : Int32))] [(.int (4 : Int32)), (.int (0 : Int32)), (.ref ar)])) rfl (by rw [hml]; rfl) (argsL := [(.ref ar), (.int (0 : Int32)), (.int (4 : Int32))]) (rest := []) (lenOf pd_2 rfl) rfl (by show 2 * 0 + _ ≤ _; exact Nat.le_of_eq rfl) (hb hby d1_15) (fun _ _ => ⟨rfl, e0, (by decide : 0 + 0 ≤ _), (by decide : 0 + 0 ≤ _)⟩)
      dsimp only [Pt.U, Pt.locs, Pt.cells, Pt.slots] at X10 l10 y10 z10 st10 hQ10
      subst y10 z10
      obtain ⟨r_16, rfl, N10q, f17, e10⟩ := hQ10
      have N10 : Fr n0 L10 := by rw [l10]; exact Fr.app N0 N10q
      refine Go.st st10 ?_
      show Go p e below s Q 0 0 (T10.setTop (mkF m 18 #[.val (.ref ar), .val (.int (0 : Int32)), .val (.int (3 : Int32)), .val (.int (4 : Int32))] [(.int r_16)]))
      have f18 := rng32 r_16
      by_cases c19 : r_16.toInt = 0
      ·
        refine Go.st (fun _ k => XS.ifNo X10.here hx rfl (hb hby d1_18) rfl ((if0 _ _).trans (teq (eqI rfl liI_0 c19)).2) k) ?_
        refine Go.st (fun _ k => XS.iconst X10.here hx rfl (hb hby d1_21) k) ?_
        refine Go.st (fun _ k => XS.iloadN X10.here hx rfl (hb hby d1_22) rfl k) ?_
        refine Go.st (fun _ k => XS.isub X10.here hx rfl (hb hby d1_23) rfl k) ?_
        show Go p e below s Q 0 0 (T10.setTop (mkF m 24 #[.val (.ref ar), .val (.int (0 : Int32)), .val (.int (3 : Int32)), .val (.int (4 : Int32))] [(.int (-4 : Int32))]))
        have f20 := liI_m4
        exact Go.retI X10 hx hlk Bd.returns (hb hby d1_24) (by rw [← hQ, e10]; exact ⟨(-4 : Int32), rfl, N10, (by refine ⟨fun h => by omega, fun _ d hd hs => ?_⟩; obtain rfl : d = 3 := (by omega); exact f17.elim (fun q => absurd q.1 (by omega)) (fun q => Or.inl ⟨q.2, by omega⟩)), rfl⟩) (by decide) (by decide)
      ·
        refine Go.st (fun _ k => XS.ifYes X10.here hx rfl (pc0 := 18) (pc' := 25) rfl (hb hby d1_18) rfl ((if0 _ _).trans (feq (neI rfl liI_0 c19)).2) (by decide) (by decide) k) ?_
        refine Go.st (fun _ k => XS.iloadN X10.here hx rfl (hb hby d1_25) rfl k) ?_
        refine Go.st (fun _ k => XS.aloadN X10.here hx rfl (hb hby d1_26) rfl rfl k) ?_
        refine Go.st (fun _ k => XS.iloadN X10.here hx rfl (hb hby d1_27) rfl k) ?_
        refine Go.st (Vec.ildI X10 hx hZ e10 hV (j := (0 : Int32)) (by decide) (by decide) (g := (mkF m 28 #[.val (.ref ar), .val (.int (0 : Int32)), .val (.int (3 : Int32)), .val (.int (4 : Int32))] [(.int (0 : Int32)), (.ref ar), (.int (4 : Int32))])) rfl rfl (hb hby d1_28)) ?_
        show Go p e below s Q 0 0 (T10.setTop (mkF m 29 #[.val (.ref ar), .val (.int (0 : Int32)), .val (.int (3 : Int32)), .val (.int (4 : Int32))] [(.int b0), (.int (4 : Int32))]))
        have p23 : 0 ≤ b0.toInt ∧ b0.toInt < 256 := by omega
        obtain ⟨_, _, ⟨T22, L22, k22, n22⟩, -, X22, ⟨Lc22, hQ22, l22, y22, z22⟩, st22⟩ := Jvm.LawKit.callS X10 hx (y := (⟨"com/example/ballast/ballast/json/Utf8CheckPinLaw", "len", "(I)I"⟩ : MethodName)) hown (mvT hZ (hw _ (List.mem_of_getElem? (i := 10) rfl))) (mvT hZ (hw _ (List.mem_of_getElem? (i := 11) rfl))) (mvT hZ (hw _ (List.mem_of_getElem? (i := 5) rfl))) (mvT hZ (hw _ (List.mem_of_getElem? (i := 12) rfl))) (by decide) (backOf (W := 1) (rm3 l Z a0 hw [] b0 h0 n0 (Nat.le_trans Z0 K0.1) p23) hZ (hw _ (List.mem_of_getElem? (i := 12) rfl)) (hw _ (List.mem_of_getElem? (i := 5) rfl)) (by decide) (by decide)) (g := (mkF m 29 #[.val (.ref ar), .val (.int (0 : Int32)), .val (.int (3 : Int32)), .val (.int (4 : Int32))] [(.int b0), (.int (4 : Int32))])) rfl (by rw [hml]; rfl) (argsL := [(.int b0)]) (rest := [(.int (4 : Int32))]) (lenOf pd_0 rfl) rfl (by show 2 * 0 + _ ≤ _; exact Nat.le_of_eq rfl) (hb hby d1_29) (fun _ _ => ⟨rfl, e10, (by decide : 0 + 0 ≤ _), (by decide : 0 + 0 ≤ _)⟩)
        dsimp only [Pt.U, Pt.locs, Pt.cells, Pt.slots] at X22 l22 y22 z22 st22 hQ22
        subst y22 z22
        obtain ⟨r_24, rfl, N22q, f25, e22⟩ := hQ22
        have N22 : Fr n0 L22 := by rw [l22]; exact Fr.app N10 N22q
        refine Go.st st22 ?_
        show Go p e below s Q 0 0 (T22.setTop (mkF m 32 #[.val (.ref ar), .val (.int (0 : Int32)), .val (.int (3 : Int32)), .val (.int (4 : Int32))] [(.int r_24), (.int (4 : Int32))]))
        have f26 := rng32 r_24
        by_cases c27 : 4 = r_24.toInt
        ·
          refine Go.st (fun _ k => XS.icmpNo X22.here hx rfl (hb hby d1_32) rfl (teq (eqI liI_4 rfl c27)).2 k) ?_
          refine Go.st (fun _ k => XS.iloadN X22.here hx rfl (hb hby d1_35) rfl k) ?_
          refine Go.st (fun _ k => XS.iconst X22.here hx rfl (hb hby d1_36) k) ?_
          refine Go.st (fun _ k => XS.iadd X22.here hx rfl (hb hby d1_37) rfl k) ?_
          show Go p e below s Q 0 0 (T22.setTop (mkF m 38 #[.val (.ref ar), .val (.int (0 : Int32)), .val (.int (3 : Int32)), .val (.int (4 : Int32))] [(.int (4 : Int32))]))
          exact Go.retI X22 hx hlk Bd.returns (hb hby d1_38) (by rw [← hQ, e22]; exact ⟨(4 : Int32), rfl, N22, (by refine ⟨fun h => by omega, fun _ d hd hs => ?_⟩; obtain rfl : d = 3 := (by omega); exact f17.elim (fun q => Or.inr ⟨q.2.1, r_24.toInt, f25.elim id (fun q5 => by obtain ⟨n5, hn5⟩ := q.2.2; unfold LenIs at hn5; exfalso; omega), by omega⟩) (fun q => absurd q.1 (by omega))), rfl⟩) (by decide) (by decide)
        ·
          refine Go.st (fun _ k => XS.icmpYes X22.here hx rfl (pc0 := 32) (pc' := 39) rfl (hb hby d1_32) rfl (feq (neI liI_4 rfl c27)).2 (by decide) (by decide) k) ?_
          refine Go.st (fun _ k => XS.iloadN X22.here hx rfl (hb hby d1_39) rfl k) ?_
          show Go p e below s Q 0 0 (T22.setTop (mkF m 40 #[.val (.ref ar), .val (.int (0 : Int32)), .val (.int (3 : Int32)), .val (.int (4 : Int32))] [(.int (0 : Int32))]))
          exact Go.retI X22 hx hlk Bd.returns (hb hby d1_40) (by rw [← hQ, e22]; exact ⟨(0 : Int32), rfl, N22, (by refine ⟨fun h => by omega, fun _ d hd hs => ?_⟩; obtain rfl : d = 3 := (by omega); exact f17.elim (fun q => Or.inr ⟨q.2.1, r_24.toInt, f25.elim id (fun q5 => by obtain ⟨n5, hn5⟩ := q.2.2; unfold LenIs at hn5; exfalso; omega), by omega⟩) (fun q => absurd q.1 (by omega))), rfl⟩) (by decide) (by decide)
    ·
      have cs7' : s0 = (1 : Int32) := eqI cs7 liI_1 rfl
      subst cs7'
      have f28 := liI_1
      show Go p e below s Q 0 0 (s₁.setTop (mkF m 6 #[.val (.ref ar), .val (.int (1 : Int32)), .val (.int (3 : Int32)), .unset] []))
      refine Go.st (fun _ k => XS.iloadN X0.here hx rfl (hb hby d1_6) rfl k) ?_
      refine Go.st (fun _ k => XS.iloadN X0.here hx rfl (hb hby d1_7) rfl k) ?_
      refine Go.st (fun _ k => XS.isub X0.here hx rfl (hb hby d1_8) rfl k) ?_
      refine Go.st (fun _ k => XS.iconst X0.here hx rfl (hb hby d1_9) k) ?_
      refine Go.st (fun _ k => XS.iadd X0.here hx rfl (hb hby d1_10) rfl k) ?_
      refine Go.st (fun _ k => XS.istoreN X0.here hx rfl (hb hby d1_11) rfl (l' := #[.val (.ref ar), .val (.int (1 : Int32)), .val (.int (3 : Int32)), .val (.int (3 : Int32))]) rfl k) ?_
      show Go p e below s Q 0 0 (s₁.setTop (mkF m 12 #[.val (.ref ar), .val (.int (1 : Int32)), .val (.int (3 : Int32)), .val (.int (3 : Int32))] []))
      refine Go.st (fun _ k => XS.aloadN X0.here hx rfl (hb hby d1_12) rfl rfl k) ?_
      refine Go.st (fun _ k => XS.iloadN X0.here hx rfl (hb hby d1_13) rfl k) ?_
      refine Go.st (fun _ k => XS.iloadN X0.here hx rfl (hb hby d1_14) rfl k) ?_
      show Go p e below s Q 0 0 (s₁.setTop (mkF m 15 #[.val (.ref ar), .val (.int (1 : Int32)), .val (.int (3 : Int32)), .val (.int (3 : Int32))] [(.int (3 : Int32)), (.int (1 : Int32)), (.ref ar)]))
      have f30 := rng32 b1
      have f31 := rng32 b2
      have f32 := rng32 b3
      obtain ⟨_, _, ⟨T29, L29, k29, n29⟩, -, X29, ⟨Lc29, hQ29, l29, y29, z29⟩, st29⟩ := Jvm.LawKit.callS X0 hx (y := (⟨"com/example/ballast/ballast/json/Utf8CheckPinLaw", "viable", "([III)Z"⟩ : MethodName)) hown (mvT hZ (hw _ (List.mem_of_getElem? (i := 7) rfl))) (mvT hZ (hw _ (List.mem_of_getElem? (i := 8) rfl))) (mvT hZ (hw _ (List.mem_of_getElem? (i := 5) rfl))) (mvT hZ (hw _ (List.mem_of_getElem? (i := 9) rfl))) (by decide) (backOf (W := 0) (rmv_3 l Z a0 hw [] ar (1 : Int32) (lst [b0, b1, b2, b3]) b1 b2 b3 (0 : Int32) h0 n0 (Nat.le_trans Z0 K0.1) hV hBr (by decide) rfl rfl rfl (let ⟨_, q1, q2⟩ := cpl_len (d := 2) (by decide) (by decide) (by decide) hcp; lenGe q1 (by omega))) hZ (hw _ (List.mem_of_getElem? (i := 9) rfl)) (hw _ (List.mem_of_getElem? (i := 5) rfl)) (by decide) (by decide)) (g := (mkF m 15 #[.val (.ref ar), .val (.int (1 : Int32)), .val (.int (3 : Int32)), .val (.int (3 : Int32))] [(.int (3 : Int32)), (.int (1 : Int32)), (.ref ar)])) rfl (by rw [hml]; rfl) (argsL := [(.ref ar), (.int (1 : Int32)), (.int (3 : Int32))]) (rest := []) (lenOf pd_2 rfl) rfl (by show 2 * 0 + _ ≤ _; exact Nat.le_of_eq rfl) (hb hby d1_15) (fun _ _ => ⟨rfl, e0, (by decide : 0 + 0 ≤ _), (by decide : 0 + 0 ≤ _)⟩)
      dsimp only [Pt.U, Pt.locs, Pt.cells, Pt.slots] at X29 l29 y29 z29 st29 hQ29
      subst y29 z29
      obtain ⟨r_33, rfl, N29q, f34, e29⟩ := hQ29
      have N29 : Fr n0 L29 := by rw [l29]; exact Fr.app N0 N29q
      refine Go.st st29 ?_
      show Go p e below s Q 0 0 (T29.setTop (mkF m 18 #[.val (.ref ar), .val (.int (1 : Int32)), .val (.int (3 : Int32)), .val (.int (3 : Int32))] [(.int r_33)]))
      have f35 := rng32 r_33
      by_cases c36 : r_33.toInt = 0
      ·
        refine Go.st (fun _ k => XS.ifNo X29.here hx rfl (hb hby d1_18) rfl ((if0 _ _).trans (teq (eqI rfl liI_0 c36)).2) k) ?_
        refine Go.st (fun _ k => XS.iconst X29.here hx rfl (hb hby d1_21) k) ?_
        refine Go.st (fun _ k => XS.iloadN X29.here hx rfl (hb hby d1_22) rfl k) ?_
        refine Go.st (fun _ k => XS.isub X29.here hx rfl (hb hby d1_23) rfl k) ?_
        show Go p e below s Q 0 0 (T29.setTop (mkF m 24 #[.val (.ref ar), .val (.int (1 : Int32)), .val (.int (3 : Int32)), .val (.int (3 : Int32))] [(.int (-4 : Int32))]))
        have f37 := liI_m4
        exact Go.retI X29 hx hlk Bd.returns (hb hby d1_24) (by rw [← hQ, e29]; exact ⟨(-4 : Int32), rfl, N29, (by refine ⟨fun h => by omega, fun _ d hd hs => ?_⟩; obtain rfl : d = 2 := (by omega); exact f34.elim (fun q => absurd q.1 (by omega)) (fun q => Or.inl ⟨q.2, by omega⟩)), rfl⟩) (by decide) (by decide)
      ·
        refine Go.st (fun _ k => XS.ifYes X29.here hx rfl (pc0 := 18) (pc' := 25) rfl (hb hby d1_18) rfl ((if0 _ _).trans (feq (neI rfl liI_0 c36)).2) (by decide) (by decide) k) ?_
        refine Go.st (fun _ k => XS.iloadN X29.here hx rfl (hb hby d1_25) rfl k) ?_
        refine Go.st (fun _ k => XS.aloadN X29.here hx rfl (hb hby d1_26) rfl rfl k) ?_
        refine Go.st (fun _ k => XS.iloadN X29.here hx rfl (hb hby d1_27) rfl k) ?_
        refine Go.st (Vec.ildI X29 hx hZ e29 hV (j := (1 : Int32)) (by decide) (by decide) (g := (mkF m 28 #[.val (.ref ar), .val (.int (1 : Int32)), .val (.int (3 : Int32)), .val (.int (3 : Int32))] [(.int (1 : Int32)), (.ref ar), (.int (3 : Int32))])) rfl rfl (hb hby d1_28)) ?_
        show Go p e below s Q 0 0 (T29.setTop (mkF m 29 #[.val (.ref ar), .val (.int (1 : Int32)), .val (.int (3 : Int32)), .val (.int (3 : Int32))] [(.int b1), (.int (3 : Int32))]))
        have p40 : 0 ≤ b1.toInt ∧ b1.toInt < 256 := by omega
        obtain ⟨_, _, ⟨T39, L39, k39, n39⟩, -, X39, ⟨Lc39, hQ39, l39, y39, z39⟩, st39⟩ := Jvm.LawKit.callS X29 hx (y := (⟨"com/example/ballast/ballast/json/Utf8CheckPinLaw", "len", "(I)I"⟩ : MethodName)) hown (mvT hZ (hw _ (List.mem_of_getElem? (i := 10) rfl))) (mvT hZ (hw _ (List.mem_of_getElem? (i := 11) rfl))) (mvT hZ (hw _ (List.mem_of_getElem? (i := 5) rfl))) (mvT hZ (hw _ (List.mem_of_getElem? (i := 12) rfl))) (by decide) (backOf (W := 1) (rm3 l Z a0 hw [] b1 h0 n0 (Nat.le_trans Z0 K0.1) p40) hZ (hw _ (List.mem_of_getElem? (i := 12) rfl)) (hw _ (List.mem_of_getElem? (i := 5) rfl)) (by decide) (by decide)) (g := (mkF m 29 #[.val (.ref ar), .val (.int (1 : Int32)), .val (.int (3 : Int32)), .val (.int (3 : Int32))] [(.int b1), (.int (3 : Int32))])) rfl (by rw [hml]; rfl) (argsL := [(.int b1)]) (rest := [(.int (3 : Int32))]) (lenOf pd_0 rfl) rfl (by show 2 * 0 + _ ≤ _; exact Nat.le_of_eq rfl) (hb hby d1_29) (fun _ _ => ⟨rfl, e29, (by decide : 0 + 0 ≤ _), (by decide : 0 + 0 ≤ _)⟩)
        dsimp only [Pt.U, Pt.locs, Pt.cells, Pt.slots] at X39 l39 y39 z39 st39 hQ39
        subst y39 z39
        obtain ⟨r_41, rfl, N39q, f42, e39⟩ := hQ39
        have N39 : Fr n0 L39 := by rw [l39]; exact Fr.app N29 N39q
        refine Go.st st39 ?_
        show Go p e below s Q 0 0 (T39.setTop (mkF m 32 #[.val (.ref ar), .val (.int (1 : Int32)), .val (.int (3 : Int32)), .val (.int (3 : Int32))] [(.int r_41), (.int (3 : Int32))]))
        have f43 := rng32 r_41
        by_cases c44 : 3 = r_41.toInt
        ·
          refine Go.st (fun _ k => XS.icmpNo X39.here hx rfl (hb hby d1_32) rfl (teq (eqI liI_3 rfl c44)).2 k) ?_
          refine Go.st (fun _ k => XS.iloadN X39.here hx rfl (hb hby d1_35) rfl k) ?_
          refine Go.st (fun _ k => XS.iconst X39.here hx rfl (hb hby d1_36) k) ?_
          refine Go.st (fun _ k => XS.iadd X39.here hx rfl (hb hby d1_37) rfl k) ?_
          show Go p e below s Q 0 0 (T39.setTop (mkF m 38 #[.val (.ref ar), .val (.int (1 : Int32)), .val (.int (3 : Int32)), .val (.int (3 : Int32))] [(.int (4 : Int32))]))
          have f45 := liI_4
          exact Go.retI X39 hx hlk Bd.returns (hb hby d1_38) (by rw [← hQ, e39]; exact ⟨(4 : Int32), rfl, N39, (by refine ⟨fun h => by omega, fun _ d hd hs => ?_⟩; obtain rfl : d = 2 := (by omega); exact f34.elim (fun q => Or.inr ⟨q.2.1, r_41.toInt, f42.elim id (fun q5 => by obtain ⟨n5, hn5⟩ := q.2.2; unfold LenIs at hn5; exfalso; omega), by omega⟩) (fun q => absurd q.1 (by omega))), rfl⟩) (by decide) (by decide)
        ·
          refine Go.st (fun _ k => XS.icmpYes X39.here hx rfl (pc0 := 32) (pc' := 39) rfl (hb hby d1_32) rfl (feq (neI liI_3 rfl c44)).2 (by decide) (by decide) k) ?_
          refine Go.st (fun _ k => XS.iloadN X39.here hx rfl (hb hby d1_39) rfl k) ?_
          show Go p e below s Q 0 0 (T39.setTop (mkF m 40 #[.val (.ref ar), .val (.int (1 : Int32)), .val (.int (3 : Int32)), .val (.int (3 : Int32))] [(.int (1 : Int32))]))
          exact Go.retI X39 hx hlk Bd.returns (hb hby d1_40) (by rw [← hQ, e39]; exact ⟨(1 : Int32), rfl, N39, (by refine ⟨fun h => by omega, fun _ d hd hs => ?_⟩; obtain rfl : d = 2 := (by omega); exact f34.elim (fun q => Or.inr ⟨q.2.1, r_41.toInt, f42.elim id (fun q5 => by obtain ⟨n5, hn5⟩ := q.2.2; unfold LenIs at hn5; exfalso; omega), by omega⟩) (fun q => absurd q.1 (by omega))), rfl⟩) (by decide) (by decide)
    ·
      have cs8' : s0 = (2 : Int32) := eqI cs8 liI_2 rfl
      subst cs8'
      have f46 := liI_2
      show Go p e below s Q 0 0 (s₁.setTop (mkF m 6 #[.val (.ref ar), .val (.int (2 : Int32)), .val (.int (3 : Int32)), .unset] []))
      refine Go.st (fun _ k => XS.iloadN X0.here hx rfl (hb hby d1_6) rfl k) ?_
      refine Go.st (fun _ k => XS.iloadN X0.here hx rfl (hb hby d1_7) rfl k) ?_
      refine Go.st (fun _ k => XS.isub X0.here hx rfl (hb hby d1_8) rfl k) ?_
      refine Go.st (fun _ k => XS.iconst X0.here hx rfl (hb hby d1_9) k) ?_
      refine Go.st (fun _ k => XS.iadd X0.here hx rfl (hb hby d1_10) rfl k) ?_
      refine Go.st (fun _ k => XS.istoreN X0.here hx rfl (hb hby d1_11) rfl (l' := #[.val (.ref ar), .val (.int (2 : Int32)), .val (.int (3 : Int32)), .val (.int (2 : Int32))]) rfl k) ?_
      show Go p e below s Q 0 0 (s₁.setTop (mkF m 12 #[.val (.ref ar), .val (.int (2 : Int32)), .val (.int (3 : Int32)), .val (.int (2 : Int32))] []))
      refine Go.st (fun _ k => XS.aloadN X0.here hx rfl (hb hby d1_12) rfl rfl k) ?_
      refine Go.st (fun _ k => XS.iloadN X0.here hx rfl (hb hby d1_13) rfl k) ?_
      refine Go.st (fun _ k => XS.iloadN X0.here hx rfl (hb hby d1_14) rfl k) ?_
      show Go p e below s Q 0 0 (s₁.setTop (mkF m 15 #[.val (.ref ar), .val (.int (2 : Int32)), .val (.int (3 : Int32)), .val (.int (2 : Int32))] [(.int (2 : Int32)), (.int (2 : Int32)), (.ref ar)]))
      have f48 := rng32 b2
      have f49 := rng32 b3
      obtain ⟨_, _, ⟨T47, L47, k47, n47⟩, -, X47, ⟨Lc47, hQ47, l47, y47, z47⟩, st47⟩ := Jvm.LawKit.callS X0 hx (y := (⟨"com/example/ballast/ballast/json/Utf8CheckPinLaw", "viable", "([III)Z"⟩ : MethodName)) hown (mvT hZ (hw _ (List.mem_of_getElem? (i := 7) rfl))) (mvT hZ (hw _ (List.mem_of_getElem? (i := 8) rfl))) (mvT hZ (hw _ (List.mem_of_getElem? (i := 5) rfl))) (mvT hZ (hw _ (List.mem_of_getElem? (i := 9) rfl))) (by decide) (backOf (W := 0) (rmv_2 l Z a0 hw [] ar (2 : Int32) (lst [b0, b1, b2, b3]) b2 b3 (0 : Int32) (0 : Int32) h0 n0 (Nat.le_trans Z0 K0.1) hV hBr (by decide) rfl rfl (let ⟨_, q1, q2⟩ := cpl_len (d := 1) (by decide) (by decide) (by decide) hcp; lenGe q1 (by omega))) hZ (hw _ (List.mem_of_getElem? (i := 9) rfl)) (hw _ (List.mem_of_getElem? (i := 5) rfl)) (by decide) (by decide)) (g := (mkF m 15 #[.val (.ref ar), .val (.int (2 : Int32)), .val (.int (3 : Int32)), .val (.int (2 : Int32))] [(.int (2 : Int32)), (.int (2 : Int32)), (.ref ar)])) rfl (by rw [hml]; rfl) (argsL := [(.ref ar), (.int (2 : Int32)), (.int (2 : Int32))]) (rest := []) (lenOf pd_2 rfl) rfl (by show 2 * 0 + _ ≤ _; exact Nat.le_of_eq rfl) (hb hby d1_15) (fun _ _ => ⟨rfl, e0, (by decide : 0 + 0 ≤ _), (by decide : 0 + 0 ≤ _)⟩)
      dsimp only [Pt.U, Pt.locs, Pt.cells, Pt.slots] at X47 l47 y47 z47 st47 hQ47
      subst y47 z47
      obtain ⟨r_50, rfl, N47q, f51, e47⟩ := hQ47
      have N47 : Fr n0 L47 := by rw [l47]; exact Fr.app N0 N47q
      refine Go.st st47 ?_
      show Go p e below s Q 0 0 (T47.setTop (mkF m 18 #[.val (.ref ar), .val (.int (2 : Int32)), .val (.int (3 : Int32)), .val (.int (2 : Int32))] [(.int r_50)]))
      have f52 := rng32 r_50
      by_cases c53 : r_50.toInt = 0
      ·
        refine Go.st (fun _ k => XS.ifNo X47.here hx rfl (hb hby d1_18) rfl ((if0 _ _).trans (teq (eqI rfl liI_0 c53)).2) k) ?_
        refine Go.st (fun _ k => XS.iconst X47.here hx rfl (hb hby d1_21) k) ?_
        refine Go.st (fun _ k => XS.iloadN X47.here hx rfl (hb hby d1_22) rfl k) ?_
        refine Go.st (fun _ k => XS.isub X47.here hx rfl (hb hby d1_23) rfl k) ?_
        show Go p e below s Q 0 0 (T47.setTop (mkF m 24 #[.val (.ref ar), .val (.int (2 : Int32)), .val (.int (3 : Int32)), .val (.int (2 : Int32))] [(.int (-4 : Int32))]))
        have f54 := liI_m4
        exact Go.retI X47 hx hlk Bd.returns (hb hby d1_24) (by rw [← hQ, e47]; exact ⟨(-4 : Int32), rfl, N47, (by refine ⟨fun h => by omega, fun _ d hd hs => ?_⟩; obtain rfl : d = 1 := (by omega); exact f51.elim (fun q => absurd q.1 (by omega)) (fun q => Or.inl ⟨q.2, by omega⟩)), rfl⟩) (by decide) (by decide)
      ·
        refine Go.st (fun _ k => XS.ifYes X47.here hx rfl (pc0 := 18) (pc' := 25) rfl (hb hby d1_18) rfl ((if0 _ _).trans (feq (neI rfl liI_0 c53)).2) (by decide) (by decide) k) ?_
        refine Go.st (fun _ k => XS.iloadN X47.here hx rfl (hb hby d1_25) rfl k) ?_
        refine Go.st (fun _ k => XS.aloadN X47.here hx rfl (hb hby d1_26) rfl rfl k) ?_
        refine Go.st (fun _ k => XS.iloadN X47.here hx rfl (hb hby d1_27) rfl k) ?_
        refine Go.st (Vec.ildI X47 hx hZ e47 hV (j := (2 : Int32)) (by decide) (by decide) (g := (mkF m 28 #[.val (.ref ar), .val (.int (2 : Int32)), .val (.int (3 : Int32)), .val (.int (2 : Int32))] [(.int (2 : Int32)), (.ref ar), (.int (2 : Int32))])) rfl rfl (hb hby d1_28)) ?_
        show Go p e below s Q 0 0 (T47.setTop (mkF m 29 #[.val (.ref ar), .val (.int (2 : Int32)), .val (.int (3 : Int32)), .val (.int (2 : Int32))] [(.int b2), (.int (2 : Int32))]))
        have p57 : 0 ≤ b2.toInt ∧ b2.toInt < 256 := by omega
        obtain ⟨_, _, ⟨T56, L56, k56, n56⟩, -, X56, ⟨Lc56, hQ56, l56, y56, z56⟩, st56⟩ := Jvm.LawKit.callS X47 hx (y := (⟨"com/example/ballast/ballast/json/Utf8CheckPinLaw", "len", "(I)I"⟩ : MethodName)) hown (mvT hZ (hw _ (List.mem_of_getElem? (i := 10) rfl))) (mvT hZ (hw _ (List.mem_of_getElem? (i := 11) rfl))) (mvT hZ (hw _ (List.mem_of_getElem? (i := 5) rfl))) (mvT hZ (hw _ (List.mem_of_getElem? (i := 12) rfl))) (by decide) (backOf (W := 1) (rm3 l Z a0 hw [] b2 h0 n0 (Nat.le_trans Z0 K0.1) p57) hZ (hw _ (List.mem_of_getElem? (i := 12) rfl)) (hw _ (List.mem_of_getElem? (i := 5) rfl)) (by decide) (by decide)) (g := (mkF m 29 #[.val (.ref ar), .val (.int (2 : Int32)), .val (.int (3 : Int32)), .val (.int (2 : Int32))] [(.int b2), (.int (2 : Int32))])) rfl (by rw [hml]; rfl) (argsL := [(.int b2)]) (rest := [(.int (2 : Int32))]) (lenOf pd_0 rfl) rfl (by show 2 * 0 + _ ≤ _; exact Nat.le_of_eq rfl) (hb hby d1_29) (fun _ _ => ⟨rfl, e47, (by decide : 0 + 0 ≤ _), (by decide : 0 + 0 ≤ _)⟩)
        dsimp only [Pt.U, Pt.locs, Pt.cells, Pt.slots] at X56 l56 y56 z56 st56 hQ56
        subst y56 z56
        obtain ⟨r_58, rfl, N56q, f59, e56⟩ := hQ56
        have N56 : Fr n0 L56 := by rw [l56]; exact Fr.app N47 N56q
        refine Go.st st56 ?_
        show Go p e below s Q 0 0 (T56.setTop (mkF m 32 #[.val (.ref ar), .val (.int (2 : Int32)), .val (.int (3 : Int32)), .val (.int (2 : Int32))] [(.int r_58), (.int (2 : Int32))]))
        have f60 := rng32 r_58
        by_cases c61 : 2 = r_58.toInt
        ·
          refine Go.st (fun _ k => XS.icmpNo X56.here hx rfl (hb hby d1_32) rfl (teq (eqI liI_2 rfl c61)).2 k) ?_
          refine Go.st (fun _ k => XS.iloadN X56.here hx rfl (hb hby d1_35) rfl k) ?_
          refine Go.st (fun _ k => XS.iconst X56.here hx rfl (hb hby d1_36) k) ?_
          refine Go.st (fun _ k => XS.iadd X56.here hx rfl (hb hby d1_37) rfl k) ?_
          show Go p e below s Q 0 0 (T56.setTop (mkF m 38 #[.val (.ref ar), .val (.int (2 : Int32)), .val (.int (3 : Int32)), .val (.int (2 : Int32))] [(.int (4 : Int32))]))
          have f62 := liI_4
          exact Go.retI X56 hx hlk Bd.returns (hb hby d1_38) (by rw [← hQ, e56]; exact ⟨(4 : Int32), rfl, N56, (by refine ⟨fun h => by omega, fun _ d hd hs => ?_⟩; obtain rfl : d = 1 := (by omega); exact f51.elim (fun q => Or.inr ⟨q.2.1, r_58.toInt, f59.elim id (fun q5 => by obtain ⟨n5, hn5⟩ := q.2.2; unfold LenIs at hn5; exfalso; omega), by omega⟩) (fun q => absurd q.1 (by omega))), rfl⟩) (by decide) (by decide)
        ·
          refine Go.st (fun _ k => XS.icmpYes X56.here hx rfl (pc0 := 32) (pc' := 39) rfl (hb hby d1_32) rfl (feq (neI liI_2 rfl c61)).2 (by decide) (by decide) k) ?_
          refine Go.st (fun _ k => XS.iloadN X56.here hx rfl (hb hby d1_39) rfl k) ?_
          show Go p e below s Q 0 0 (T56.setTop (mkF m 40 #[.val (.ref ar), .val (.int (2 : Int32)), .val (.int (3 : Int32)), .val (.int (2 : Int32))] [(.int (2 : Int32))]))
          exact Go.retI X56 hx hlk Bd.returns (hb hby d1_40) (by rw [← hQ, e56]; exact ⟨(2 : Int32), rfl, N56, (by refine ⟨fun h => by omega, fun _ d hd hs => ?_⟩; obtain rfl : d = 1 := (by omega); exact f51.elim (fun q => Or.inr ⟨q.2.1, r_58.toInt, f59.elim id (fun q5 => by obtain ⟨n5, hn5⟩ := q.2.2; unfold LenIs at hn5; exfalso; omega), by omega⟩) (fun q => absurd q.1 (by omega))), rfl⟩) (by decide) (by decide)
    ·
      have cs9' : s0 = (3 : Int32) := eqI cs9 liI_3 rfl
      subst cs9'
      show Go p e below s Q 0 0 (s₁.setTop (mkF m 6 #[.val (.ref ar), .val (.int (3 : Int32)), .val (.int (3 : Int32)), .unset] []))
      refine Go.st (fun _ k => XS.iloadN X0.here hx rfl (hb hby d1_6) rfl k) ?_
      refine Go.st (fun _ k => XS.iloadN X0.here hx rfl (hb hby d1_7) rfl k) ?_
      refine Go.st (fun _ k => XS.isub X0.here hx rfl (hb hby d1_8) rfl k) ?_
      refine Go.st (fun _ k => XS.iconst X0.here hx rfl (hb hby d1_9) k) ?_
      refine Go.st (fun _ k => XS.iadd X0.here hx rfl (hb hby d1_10) rfl k) ?_
      refine Go.st (fun _ k => XS.istoreN X0.here hx rfl (hb hby d1_11) rfl (l' := #[.val (.ref ar), .val (.int (3 : Int32)), .val (.int (3 : Int32)), .val (.int (1 : Int32))]) rfl k) ?_
      show Go p e below s Q 0 0 (s₁.setTop (mkF m 12 #[.val (.ref ar), .val (.int (3 : Int32)), .val (.int (3 : Int32)), .val (.int (1 : Int32))] []))
      refine Go.st (fun _ k => XS.aloadN X0.here hx rfl (hb hby d1_12) rfl rfl k) ?_
      refine Go.st (fun _ k => XS.iloadN X0.here hx rfl (hb hby d1_13) rfl k) ?_
      refine Go.st (fun _ k => XS.iloadN X0.here hx rfl (hb hby d1_14) rfl k) ?_
      show Go p e below s Q 0 0 (s₁.setTop (mkF m 15 #[.val (.ref ar), .val (.int (3 : Int32)), .val (.int (3 : Int32)), .val (.int (1 : Int32))] [(.int (1 : Int32)), (.int (3 : Int32)), (.ref ar)]))
      have f64 := rng32 b3
      have f65 := liI_1
      obtain ⟨_, _, ⟨T63, L63, k63, n63⟩, -, X63, ⟨Lc63, hQ63, l63, y63, z63⟩, st63⟩ := Jvm.LawKit.callS X0 hx (y := (⟨"com/example/ballast/ballast/json/Utf8CheckPinLaw", "viable", "([III)Z"⟩ : MethodName)) hown (mvT hZ (hw _ (List.mem_of_getElem? (i := 7) rfl))) (mvT hZ (hw _ (List.mem_of_getElem? (i := 8) rfl))) (mvT hZ (hw _ (List.mem_of_getElem? (i := 5) rfl))) (mvT hZ (hw _ (List.mem_of_getElem? (i := 9) rfl))) (by decide) (backOf (W := 0) (rmv_1 l Z a0 hw [] ar (3 : Int32) (lst [b0, b1, b2, b3]) b3 (0 : Int32) (0 : Int32) (0 : Int32) h0 n0 (Nat.le_trans Z0 K0.1) hV hBr (by decide) rfl) hZ (hw _ (List.mem_of_getElem? (i := 9) rfl)) (hw _ (List.mem_of_getElem? (i := 5) rfl)) (by decide) (by decide)) (g := (mkF m 15 #[.val (.ref ar), .val (.int (3 : Int32)), .val (.int (3 : Int32)), .val (.int (1 : Int32))] [(.int (1 : Int32)), (.int (3 : Int32)), (.ref ar)])) rfl (by rw [hml]; rfl) (argsL := [(.ref ar), (.int (3 : Int32)), (.int (1 : Int32))]) (rest := []) (lenOf pd_2 rfl) rfl (by show 2 * 0 + _ ≤ _; exact Nat.le_of_eq rfl) (hb hby d1_15) (fun _ _ => ⟨rfl, e0, (by decide : 0 + 0 ≤ _), (by decide : 0 + 0 ≤ _)⟩)
      dsimp only [Pt.U, Pt.locs, Pt.cells, Pt.slots] at X63 l63 y63 z63 st63 hQ63
      subst y63 z63
      obtain ⟨r_66, rfl, N63q, f67, e63⟩ := hQ63
      have N63 : Fr n0 L63 := by rw [l63]; exact Fr.app N0 N63q
      refine Go.st st63 ?_
      show Go p e below s Q 0 0 (T63.setTop (mkF m 18 #[.val (.ref ar), .val (.int (3 : Int32)), .val (.int (3 : Int32)), .val (.int (1 : Int32))] [(.int r_66)]))
      have f68 := rng32 r_66
      by_cases c69 : r_66.toInt = 0
      ·
        refine Go.st (fun _ k => XS.ifNo X63.here hx rfl (hb hby d1_18) rfl ((if0 _ _).trans (teq (eqI rfl liI_0 c69)).2) k) ?_
        refine Go.st (fun _ k => XS.iconst X63.here hx rfl (hb hby d1_21) k) ?_
        refine Go.st (fun _ k => XS.iloadN X63.here hx rfl (hb hby d1_22) rfl k) ?_
        refine Go.st (fun _ k => XS.isub X63.here hx rfl (hb hby d1_23) rfl k) ?_
        show Go p e below s Q 0 0 (T63.setTop (mkF m 24 #[.val (.ref ar), .val (.int (3 : Int32)), .val (.int (3 : Int32)), .val (.int (1 : Int32))] [(.int (-4 : Int32))]))
        have f70 := liI_m4
        exact Go.retI X63 hx hlk Bd.returns (hb hby d1_24) (by rw [← hQ, e63]; exact ⟨(-4 : Int32), rfl, N63, (by refine ⟨fun h => by omega, fun _ d hd hs => ?_⟩; obtain rfl : d = 0 := (by omega); exact f67.elim (fun q => absurd q.1 (by omega)) (fun q => Or.inl ⟨q.2, by omega⟩)), rfl⟩) (by decide) (by decide)
      ·
        refine Go.st (fun _ k => XS.ifYes X63.here hx rfl (pc0 := 18) (pc' := 25) rfl (hb hby d1_18) rfl ((if0 _ _).trans (feq (neI rfl liI_0 c69)).2) (by decide) (by decide) k) ?_
        refine Go.st (fun _ k => XS.iloadN X63.here hx rfl (hb hby d1_25) rfl k) ?_
        refine Go.st (fun _ k => XS.aloadN X63.here hx rfl (hb hby d1_26) rfl rfl k) ?_
        refine Go.st (fun _ k => XS.iloadN X63.here hx rfl (hb hby d1_27) rfl k) ?_
        refine Go.st (Vec.ildI X63 hx hZ e63 hV (j := (3 : Int32)) (by decide) (by decide) (g := (mkF m 28 #[.val (.ref ar), .val (.int (3 : Int32)), .val (.int (3 : Int32)), .val (.int (1 : Int32))] [(.int (3 : Int32)), (.ref ar), (.int (1 : Int32))])) rfl rfl (hb hby d1_28)) ?_
        show Go p e below s Q 0 0 (T63.setTop (mkF m 29 #[.val (.ref ar), .val (.int (3 : Int32)), .val (.int (3 : Int32)), .val (.int (1 : Int32))] [(.int b3), (.int (1 : Int32))]))
        have p73 : 0 ≤ b3.toInt ∧ b3.toInt < 256 := by omega
        obtain ⟨_, _, ⟨T72, L72, k72, n72⟩, -, X72, ⟨Lc72, hQ72, l72, y72, z72⟩, st72⟩ := Jvm.LawKit.callS X63 hx (y := (⟨"com/example/ballast/ballast/json/Utf8CheckPinLaw", "len", "(I)I"⟩ : MethodName)) hown (mvT hZ (hw _ (List.mem_of_getElem? (i := 10) rfl))) (mvT hZ (hw _ (List.mem_of_getElem? (i := 11) rfl))) (mvT hZ (hw _ (List.mem_of_getElem? (i := 5) rfl))) (mvT hZ (hw _ (List.mem_of_getElem? (i := 12) rfl))) (by decide) (backOf (W := 1) (rm3 l Z a0 hw [] b3 h0 n0 (Nat.le_trans Z0 K0.1) p73) hZ (hw _ (List.mem_of_getElem? (i := 12) rfl)) (hw _ (List.mem_of_getElem? (i := 5) rfl)) (by decide) (by decide)) (g := (mkF m 29 #[.val (.ref ar), .val (.int (3 : Int32)), .val (.int (3 : Int32)), .val (.int (1 : Int32))] [(.int b3), (.int (1 : Int32))])) rfl (by rw [hml]; rfl) (argsL := [(.int b3)]) (rest := [(.int (1 : Int32))]) (lenOf pd_0 rfl) rfl (by show 2 * 0 + _ ≤ _; exact Nat.le_of_eq rfl) (hb hby d1_29) (fun _ _ => ⟨rfl, e63, (by decide : 0 + 0 ≤ _), (by decide : 0 + 0 ≤ _)⟩)
        dsimp only [Pt.U, Pt.locs, Pt.cells, Pt.slots] at X72 l72 y72 z72 st72 hQ72
        subst y72 z72
        obtain ⟨r_74, rfl, N72q, f75, e72⟩ := hQ72
        have N72 : Fr n0 L72 := by rw [l72]; exact Fr.app N63 N72q
        refine Go.st st72 ?_
        show Go p e below s Q 0 0 (T72.setTop (mkF m 32 #[.val (.ref ar), .val (.int (3 : Int32)), .val (.int (3 : Int32)), .val (.int (1 : Int32))] [(.int r_74), (.int (1 : Int32))]))
        have f76 := rng32 r_74
        by_cases c77 : 1 = r_74.toInt
        ·
          refine Go.st (fun _ k => XS.icmpNo X72.here hx rfl (hb hby d1_32) rfl (teq (eqI liI_1 rfl c77)).2 k) ?_
          refine Go.st (fun _ k => XS.iloadN X72.here hx rfl (hb hby d1_35) rfl k) ?_
          refine Go.st (fun _ k => XS.iconst X72.here hx rfl (hb hby d1_36) k) ?_
          refine Go.st (fun _ k => XS.iadd X72.here hx rfl (hb hby d1_37) rfl k) ?_
          show Go p e below s Q 0 0 (T72.setTop (mkF m 38 #[.val (.ref ar), .val (.int (3 : Int32)), .val (.int (3 : Int32)), .val (.int (1 : Int32))] [(.int (4 : Int32))]))
          have f78 := liI_4
          exact Go.retI X72 hx hlk Bd.returns (hb hby d1_38) (by rw [← hQ, e72]; exact ⟨(4 : Int32), rfl, N72, (by refine ⟨fun h => by omega, fun _ d hd hs => ?_⟩; obtain rfl : d = 0 := (by omega); exact f67.elim (fun q => Or.inr ⟨q.2.1, r_74.toInt, f75.elim id (fun q5 => by obtain ⟨n5, hn5⟩ := q.2.2; unfold LenIs at hn5; exfalso; omega), by omega⟩) (fun q => absurd q.1 (by omega))), rfl⟩) (by decide) (by decide)
        ·
          refine Go.st (fun _ k => XS.icmpYes X72.here hx rfl (pc0 := 32) (pc' := 39) rfl (hb hby d1_32) rfl (feq (neI liI_1 rfl c77)).2 (by decide) (by decide) k) ?_
          refine Go.st (fun _ k => XS.iloadN X72.here hx rfl (hb hby d1_39) rfl k) ?_
          show Go p e below s Q 0 0 (T72.setTop (mkF m 40 #[.val (.ref ar), .val (.int (3 : Int32)), .val (.int (3 : Int32)), .val (.int (1 : Int32))] [(.int (3 : Int32))]))
          exact Go.retI X72 hx hlk Bd.returns (hb hby d1_40) (by rw [← hQ, e72]; exact ⟨(3 : Int32), rfl, N72, (by refine ⟨fun h => by omega, fun _ d hd hs => ?_⟩; obtain rfl : d = 0 := (by omega); exact f67.elim (fun q => Or.inr ⟨q.2.1, r_74.toInt, f75.elim id (fun q5 => by obtain ⟨n5, hn5⟩ := q.2.2; unfold LenIs at hn5; exfalso; omega), by omega⟩) (fun q => absurd q.1 (by omega))), rfl⟩) (by decide) (by decide)
theorem pn_1 : plainName "com/example/ballast/ballast/json/Utf8" = true := by first | (simp [plainName, overriddenIn]; done) | decide +kernel
theorem d6_0 : decode prog_20_method_1_code 0 = .ok (.aload_n 0, 1) := by decide +kernel
theorem d6_1 : decode prog_20_method_1_code 1 = .ok (.invokespecial 1, 3) := by decide +kernel
theorem d6_4 : decode prog_20_method_1_code 4 = .ok (.aload_n 0, 1) := by decide +kernel
theorem d6_5 : decode prog_20_method_1_code 5 = .ok (.sipush 128, 3) := by decide +kernel
theorem d6_8 : decode prog_20_method_1_code 8 = .ok (.putfield 7, 3) := by decide +kernel
theorem sn_0 {Z : State} {a0 : Array Value} (hw : ∀ d ∈ tables_1, d.before a0 Z = true) : Jvm.RoadKit.slotOf Z "com/example/ballast/ballast/json/Utf8" "pending" "I" ≠ Jvm.RoadKit.slotOf Z "com/example/ballast/ballast/json/Utf8" "least" "I" := slot_ne (Or.inl (hw _ (List.mem_of_getElem? (i := 45) rfl))) (Or.inl (hw _ (List.mem_of_getElem? (i := 31) rfl))) (by decide) (t := .int) (t' := .int) (by decide) (by decide)
theorem sn_1 {Z : State} {a0 : Array Value} (hw : ∀ d ∈ tables_1, d.before a0 Z = true) : Jvm.RoadKit.slotOf Z "com/example/ballast/ballast/json/Utf8" "most" "I" ≠ Jvm.RoadKit.slotOf Z "com/example/ballast/ballast/json/Utf8" "least" "I" := slot_ne (Or.inl (hw _ (List.mem_of_getElem? (i := 33) rfl))) (Or.inl (hw _ (List.mem_of_getElem? (i := 31) rfl))) (by decide) (t := .int) (t' := .int) (by decide) (by decide)
theorem d6_11 : decode prog_20_method_1_code 11 = .ok (.aload_n 0, 1) := by decide +kernel
theorem d6_12 : decode prog_20_method_1_code 12 = .ok (.sipush 191, 3) := by decide +kernel
theorem d6_15 : decode prog_20_method_1_code 15 = .ok (.putfield 13, 3) := by decide +kernel
theorem sn_2 {Z : State} {a0 : Array Value} (hw : ∀ d ∈ tables_1, d.before a0 Z = true) : Jvm.RoadKit.slotOf Z "com/example/ballast/ballast/json/Utf8" "pending" "I" ≠ Jvm.RoadKit.slotOf Z "com/example/ballast/ballast/json/Utf8" "most" "I" := slot_ne (Or.inl (hw _ (List.mem_of_getElem? (i := 45) rfl))) (Or.inl (hw _ (List.mem_of_getElem? (i := 33) rfl))) (by decide) (t := .int) (t' := .int) (by decide) (by decide)
theorem sn_3 {Z : State} {a0 : Array Value} (hw : ∀ d ∈ tables_1, d.before a0 Z = true) : Jvm.RoadKit.slotOf Z "com/example/ballast/ballast/json/Utf8" "least" "I" ≠ Jvm.RoadKit.slotOf Z "com/example/ballast/ballast/json/Utf8" "most" "I" := slot_ne (Or.inl (hw _ (List.mem_of_getElem? (i := 31) rfl))) (Or.inl (hw _ (List.mem_of_getElem? (i := 33) rfl))) (by decide) (t := .int) (t' := .int) (by decide) (by decide)
theorem d6_18 : decode prog_20_method_1_code 18 = .ok (.return_, 1) := by decide +kernel
theorem ef_rm6 (m : MethodId) (o : Addr) : entryFrame m #[(.ref o)] 1 = mkF m 0 #[.val (.ref o)] [] := by first | (simp [entryFrame, mkF, argsToLocals, Value.category]; done) | rfl
def Q6 (Z : State) (o : Addr) (pp : Int32) (ll : Int32) (mm : Int32) (h0 : Heap) (n0 : Nat) (vv : Option Value) (h : Heap) (LL : List Loc) : Prop := vv = none ∧ Fr n0 LL ∧ Keep h0 h [o] ∧ (Exa Z h o "com/example/ballast/ballast/json/Utf8") ∧ (Fld Z h o "com/example/ballast/ballast/json/Utf8" "pending" "I" (.int pp)) ∧ (Fld Z h o "com/example/ballast/ballast/json/Utf8" "least" "I" (.int (128 : Int32))) ∧ (Fld Z h o "com/example/ballast/ballast/json/Utf8" "most" "I" (.int (191 : Int32)))
set_option maxRecDepth 65536 in
set_option maxHeartbeats 40000000 in
theorem rm6 (l : Launch) (Z : State) (a0 : Array Value) (hw : ∀ d ∈ tables_1, d.before a0 Z = true) (ws : List Jvm.Cond) (o : Addr) (pp : Int32) (ll : Int32) (mm : Int32) (h0 : Heap) (n0 : Nat) (Z0 : n0 ≤ h0.size) (hE : Exa Z h0 o "com/example/ballast/ballast/json/Utf8") (hG : n0 ≤ o) (hf1 : Fld Z h0 o "com/example/ballast/ballast/json/Utf8" "pending" "I" (.int pp)) (hf2 : Fld Z h0 o "com/example/ballast/ballast/json/Utf8" "least" "I" (.int ll)) (hf3 : Fld Z h0 o "com/example/ballast/ballast/json/Utf8" "most" "I" (.int mm)) :
    MetFree l (⟨"com/example/ballast/ballast/json/Utf8", "<init>", "()V"⟩ : MethodName) (head1 (Jvm.Cond.code (⟨"com/example/ballast/ballast/json/Utf8", "<init>", "()V"⟩ : MethodName) prog_20_method_1_code 1 none :: ws) ({ frames := 1, cells := 0, slots := 0, locals := 12 } : Room)) (fun aa UU => aa = #[(.ref o)] ∧ Z.Warmed39 UU.vm ∧ UU.heap = h0) (fun _ _ _ _ _ => True) (fun _ UU oo UU' => ∃ vv LL, oo = .returned vv ∧ Q6 Z o pp ll mm h0 n0 vv UU'.heap LL ∧ FrameEnd UU oo UU' LL 0 0) := by
  refine MetFree.of_bodySF (plainFor_of_name pn_1) hisR ?_
  intro p e s m args below meth c s₁ Bd hml0 hP hK
  obtain ⟨rfl, hZ, hh⟩ := hP
  have hx := Bd.exec
  have hby := Bd.bytes
  have hlk : meth.locks = false := BodyLoose.notSynchronized Bd
  have hml : c.maxLocals = 1 := hml0
  have hown : s.vm.findClass "com/example/ballast/ballast/json/Utf8" = some m.cls := findClass_of_methodNamed Bd.named
  have hnm := (name_of_methodNamed Bd.named Bd.method).1
  have X0 : Stand p l e ({ frames := 1, cells := 0, slots := 0, locals := 12 } : Room) s m #[(.ref o)] below meth c s₁ [] 0 0 := Stand.of_body Bd
  have e0 : s₁.heap = h0 := by rw [← hh, Bd.state]; rfl
  have N0 := Fr.nil n0
  have K0 : Keep h0 h0 [o] := Keep.refl h0 _
  refine (?_ : Go p e below s (Q6 Z o pp ll mm h0 n0) 0 0 (s₁.setTop (entryFrame m #[(.ref o)] 1)))
  rw [ef_rm6]
  generalize hQ : Q6 Z o pp ll mm h0 n0 = Q
  show Go p e below s Q 0 0 (s₁.setTop (mkF m 0 #[.val (.ref o)] []))
  refine Go.st (fun _ k => XS.aloadN X0.here hx rfl (hb hby d6_0) rfl rfl k) ?_
  obtain ⟨T1, X1, e1, st1⟩ := initO X0 hx hZ hown (hw _ (List.mem_of_getElem? (i := 27) rfl)) (hw _ (List.mem_of_getElem? (i := 28) rfl)) (hw _ (List.mem_of_getElem? (i := 29) rfl)) e0 (g := (mkF m 1 #[.val (.ref o)] [(.ref o)])) rfl (by rw [hml]; rfl) rfl (hb hby d6_1) (by decide) (W := 0) (by show 2 * 0 + _ ≤ _; exact Nat.le_of_eq rfl) (by decide)
  refine Go.st st1 ?_
  show Go p e below s Q 0 0 (T1.setTop (mkF m 4 #[.val (.ref o)] []))
  refine Go.st (fun _ k => XS.aloadN X1.here hx rfl (hb hby d6_4) rfl rfl k) ?_
  refine Go.st (fun _ k => XS.sipush X1.here hx rfl (hb hby d6_5) k) ?_
  obtain ⟨T2, h2, X2, e2, W2, st2⟩ := putF X1 hx hZ hown (host := "") (Or.inl (hw _ (List.mem_of_getElem? (i := 30) rfl))) Via.refl e1 hf2 hE (Or.inl (hw _ (List.mem_of_getElem? (i := 31) rfl))) (hw _ (List.mem_of_getElem? (i := 22) rfl)) (ty := .int) (by decide) rfl rfl (g := (mkF m 8 #[.val (.ref o)] [(.int (128 : Int32)), (.ref o)])) rfl rfl (hb hby d6_8)
  have h3 : Exa Z h2 o "com/example/ballast/ballast/json/Utf8" := hE.wr W2
  have h4 : Fld Z h2 o "com/example/ballast/ballast/json/Utf8" "pending" "I" (.int pp) := hf1.other W2 (Or.inr (sn_0 hw))
  have h5 : Fld Z h2 o "com/example/ballast/ballast/json/Utf8" "least" "I" (.int (128 : Int32)) := hf2.same W2
  have h6 : Fld Z h2 o "com/example/ballast/ballast/json/Utf8" "most" "I" (.int mm) := hf3.other W2 (Or.inr (sn_1 hw))
  have K2 : Keep h0 h2 [o] := K0.wr W2 (Or.inl (List.mem_of_getElem? (i := 0) rfl))
  have N2 := Fr.snoc X2 N0 hG
  refine Go.st st2 ?_
  show Go p e below s Q 0 0 (T2.setTop (mkF m 11 #[.val (.ref o)] []))
  refine Go.st (fun _ k => XS.aloadN X2.here hx rfl (hb hby d6_11) rfl rfl k) ?_
  refine Go.st (fun _ k => XS.sipush X2.here hx rfl (hb hby d6_12) k) ?_
  obtain ⟨T7, h7, X7, e7, W7, st7⟩ := putF X2 hx hZ hown (host := "") (Or.inl (hw _ (List.mem_of_getElem? (i := 32) rfl))) Via.refl e2 h6 h3 (Or.inl (hw _ (List.mem_of_getElem? (i := 33) rfl))) (hw _ (List.mem_of_getElem? (i := 22) rfl)) (ty := .int) (by decide) rfl rfl (g := (mkF m 15 #[.val (.ref o)] [(.int (191 : Int32)), (.ref o)])) rfl rfl (hb hby d6_15)
  have h8 : Exa Z h7 o "com/example/ballast/ballast/json/Utf8" := h3.wr W7
  have h9 : Fld Z h7 o "com/example/ballast/ballast/json/Utf8" "pending" "I" (.int pp) := h4.other W7 (Or.inr (sn_2 hw))
  have h10 : Fld Z h7 o "com/example/ballast/ballast/json/Utf8" "least" "I" (.int (128 : Int32)) := h5.other W7 (Or.inr (sn_3 hw))
  have h11 : Fld Z h7 o "com/example/ballast/ballast/json/Utf8" "most" "I" (.int (191 : Int32)) := h6.same W7
  have K7 : Keep h0 h7 [o] := K2.wr W7 (Or.inl (List.mem_of_getElem? (i := 0) rfl))
  have N7 := Fr.snoc X7 N2 hG
  refine Go.st st7 ?_
  show Go p e below s Q 0 0 (T7.setTop (mkF m 18 #[.val (.ref o)] []))
  exact Go.retV X7 hx hlk Bd.returns (hb hby d6_18) (by rw [← hQ, e7]; exact ⟨rfl, N7, K7, h8, h9, h10, h11⟩) (by decide) (by decide)
theorem d9_0 : decode prog_20_method_3_code 0 = .ok (.aload_n 0, 1) := by decide +kernel
theorem d9_1 : decode prog_20_method_3_code 1 = .ok (.getfield 16, 3) := by decide +kernel
theorem d9_4 : decode prog_20_method_3_code 4 = .ok (.ifCond .le 7, 3) := by decide +kernel
theorem d9_7 : decode prog_20_method_3_code 7 = .ok (.iconst 1, 1) := by decide +kernel
theorem d9_8 : decode prog_20_method_3_code 8 = .ok (.goto 4, 3) := by decide +kernel
theorem d9_12 : decode prog_20_method_3_code 12 = .ok (.ireturn, 1) := by decide +kernel
theorem d9_11 : decode prog_20_method_3_code 11 = .ok (.iconst 0, 1) := by decide +kernel
theorem ef_rm9 (m : MethodId) (o : Addr) : entryFrame m #[(.ref o)] 1 = mkF m 0 #[.val (.ref o)] [] := by first | (simp [entryFrame, mkF, argsToLocals, Value.category]; done) | rfl
def Q9 (Z : State) (o : Addr) (pp : Int32) (h0 : Heap) (n0 : Nat) (vv : Option Value) (h : Heap) (LL : List Loc) : Prop := ∃ (r : Int32), vv = some (.int r) ∧ Fr n0 LL ∧ ((0 < pp.toInt ∧ r.toInt = 1) ∨ (¬ 0 < pp.toInt ∧ r.toInt = 0)) ∧ h = h0
set_option maxRecDepth 65536 in
set_option maxHeartbeats 40000000 in
theorem rm9 (l : Launch) (Z : State) (a0 : Array Value) (hw : ∀ d ∈ tables_1, d.before a0 Z = true) (ws : List Jvm.Cond) (o : Addr) (pp : Int32) (h0 : Heap) (n0 : Nat) (Z0 : n0 ≤ h0.size) (hf1 : Fld Z h0 o "com/example/ballast/ballast/json/Utf8" "pending" "I" (.int pp)) :
    MetFree l (⟨"com/example/ballast/ballast/json/Utf8", "partial", "()Z"⟩ : MethodName) (head1 (Jvm.Cond.code (⟨"com/example/ballast/ballast/json/Utf8", "partial", "()Z"⟩ : MethodName) prog_20_method_3_code 1 (some .boolean) :: ws) ({ frames := 0, cells := 0, slots := 0, locals := 0 } : Room)) (fun aa UU => aa = #[(.ref o)] ∧ Z.Warmed39 UU.vm ∧ UU.heap = h0) (fun _ _ _ _ _ => True) (fun _ UU oo UU' => ∃ vv LL, oo = .returned vv ∧ Q9 Z o pp h0 n0 vv UU'.heap LL ∧ FrameEnd UU oo UU' LL 0 0) := by
  refine MetFree.of_bodySF (plainFor_of_name pn_1) hisR ?_
  intro p e s m args below meth c s₁ Bd hml0 hP hK
  obtain ⟨rfl, hZ, hh⟩ := hP
  have hx := Bd.exec
  have hby := Bd.bytes
  have hlk : meth.locks = false := BodyLoose.notSynchronized Bd
  have hml : c.maxLocals = 1 := hml0
  have hown : s.vm.findClass "com/example/ballast/ballast/json/Utf8" = some m.cls := findClass_of_methodNamed Bd.named
  have hnm := (name_of_methodNamed Bd.named Bd.method).1
  have X0 : Stand p l e ({ frames := 0, cells := 0, slots := 0, locals := 0 } : Room) s m #[(.ref o)] below meth c s₁ [] 0 0 := Stand.of_body Bd
  have e0 : s₁.heap = h0 := by rw [← hh, Bd.state]; rfl
  have N0 := Fr.nil n0
  have K0 : Keep h0 h0 [] := Keep.refl h0 _
  refine (?_ : Go p e below s (Q9 Z o pp h0 n0) 0 0 (s₁.setTop (entryFrame m #[(.ref o)] 1)))
  rw [ef_rm9]
  generalize hQ : Q9 Z o pp h0 n0 = Q
  show Go p e below s Q 0 0 (s₁.setTop (mkF m 0 #[.val (.ref o)] []))
  refine Go.st (fun _ k => XS.aloadN X0.here hx rfl (hb hby d9_0) rfl rfl k) ?_
  obtain ⟨T1, X1, e1, st1⟩ := getF X0 hx hZ hown (host := "") (Or.inl (hw _ (List.mem_of_getElem? (i := 44) rfl))) Via.refl e0 hf1 (g := (mkF m 1 #[.val (.ref o)] [(.ref o)])) rfl rfl (hb hby d9_1)
  refine Go.st st1 ?_
  show Go p e below s Q 0 0 (T1.setTop (mkF m 4 #[.val (.ref o)] [(.int pp)]))
  have f2 := liI_0
  have f3 := rng32 pp
  by_cases c4 : 0 < pp.toInt
  ·
    refine Go.st (fun _ k => XS.ifNo X1.here hx rfl (hb hby d9_4) rfl ((if0 _ _).trans (tlt (ltI liI_0 rfl c4)).2.2.2) k) ?_
    refine Go.st (fun _ k => XS.iconst X1.here hx rfl (hb hby d9_7) k) ?_
    refine Go.st (fun _ k => XS.goto X1.here hx rfl (pc0 := 8) (pc' := 12) rfl (hb hby d9_8) (by decide) (by decide) k) ?_
    show Go p e below s Q 0 0 (T1.setTop (mkF m 12 #[.val (.ref o)] [(.int (1 : Int32))]))
    have f5 := liI_1
    exact Go.retN X1 hx hlk (by simp) Bd.returns (hb hby d9_12) (z' := (1 : Int32)) (by decide) (by rw [← hQ, e1]; exact ⟨(1 : Int32), rfl, N0, (by omega), rfl⟩) (by decide) (by decide)
  ·
    refine Go.st (fun _ k => XS.ifYes X1.here hx rfl (pc0 := 4) (pc' := 11) rfl (hb hby d9_4) rfl ((if0 _ _).trans (flt (nltI liI_0 rfl c4)).2.2.2) (by decide) (by decide) k) ?_
    refine Go.st (fun _ k => XS.iconst X1.here hx rfl (hb hby d9_11) k) ?_
    show Go p e below s Q 0 0 (T1.setTop (mkF m 12 #[.val (.ref o)] [(.int (0 : Int32))]))
    exact Go.retN X1 hx hlk (by simp) Bd.returns (hb hby d9_12) (z' := (0 : Int32)) (by decide) (by rw [← hQ, e1]; exact ⟨(0 : Int32), rfl, N0, (by omega), rfl⟩) (by decide) (by decide)
theorem d8_0 : decode prog_20_method_2_code 0 = .ok (.iload_n 2, 1) := by decide +kernel
theorem d8_1 : decode prog_20_method_2_code 1 = .ok (.istore 4, 2) := by decide +kernel
theorem d8_3 : decode prog_20_method_2_code 3 = .ok (.iload 4, 2) := by decide +kernel
theorem d8_5 : decode prog_20_method_2_code 5 = .ok (.iload_n 3, 1) := by decide +kernel
theorem d8_6 : decode prog_20_method_2_code 6 = .ok (.if_icmp .ge 280, 3) := by decide +kernel
theorem d8_9 : decode prog_20_method_2_code 9 = .ok (.aload_n 0, 1) := by decide +kernel
theorem d8_10 : decode prog_20_method_2_code 10 = .ok (.getfield 16, 3) := by decide +kernel
theorem d8_13 : decode prog_20_method_2_code 13 = .ok (.ifCond .ne 22, 3) := by decide +kernel
theorem d8_16 : decode prog_20_method_2_code 16 = .ok (.iload 4, 2) := by decide +kernel
theorem d8_18 : decode prog_20_method_2_code 18 = .ok (.iload_n 3, 1) := by decide +kernel
theorem d8_19 : decode prog_20_method_2_code 19 = .ok (.if_icmp .ge 16, 3) := by decide +kernel
theorem d8_22 : decode prog_20_method_2_code 22 = .ok (.aload_n 1, 1) := by decide +kernel
theorem d8_23 : decode prog_20_method_2_code 23 = .ok (.iload 4, 2) := by decide +kernel
theorem d8_25 : decode prog_20_method_2_code 25 = .ok (.baload, 1) := by decide +kernel
theorem d8_26 : decode prog_20_method_2_code 26 = .ok (.ifCond .lt 9, 3) := by decide +kernel
theorem d8_35 : decode prog_20_method_2_code 35 = .ok (.iload 4, 2) := by decide +kernel
theorem d8_37 : decode prog_20_method_2_code 37 = .ok (.iload_n 3, 1) := by decide +kernel
theorem d8_38 : decode prog_20_method_2_code 38 = .ok (.if_icmp .ne 6, 3) := by decide +kernel
theorem d8_41 : decode prog_20_method_2_code 41 = .ok (.goto 245, 3) := by decide +kernel
theorem d8_286 : decode prog_20_method_2_code 286 = .ok (.iconst (-1), 1) := by decide +kernel
theorem d8_287 : decode prog_20_method_2_code 287 = .ok (.ireturn, 1) := by decide +kernel
theorem d8_44 : decode prog_20_method_2_code 44 = .ok (.aload_n 1, 1) := by decide +kernel
theorem d8_45 : decode prog_20_method_2_code 45 = .ok (.iload 4, 2) := by decide +kernel
theorem d8_47 : decode prog_20_method_2_code 47 = .ok (.baload, 1) := by decide +kernel
theorem d8_48 : decode prog_20_method_2_code 48 = .ok (.sipush 255, 3) := by decide +kernel
theorem d8_51 : decode prog_20_method_2_code 51 = .ok (.iand, 1) := by decide +kernel
theorem d8_52 : decode prog_20_method_2_code 52 = .ok (.istore 5, 2) := by decide +kernel
theorem liI_255 : (255 : Int32).toInt = 255 := by decide
theorem d8_54 : decode prog_20_method_2_code 54 = .ok (.aload_n 0, 1) := by decide +kernel
theorem d8_55 : decode prog_20_method_2_code 55 = .ok (.getfield 16, 3) := by decide +kernel
theorem d8_58 : decode prog_20_method_2_code 58 = .ok (.ifCond .le 53, 3) := by decide +kernel
theorem d8_111 : decode prog_20_method_2_code 111 = .ok (.iload 5, 2) := by decide +kernel
theorem d8_113 : decode prog_20_method_2_code 113 = .ok (.sipush 194, 3) := by decide +kernel
theorem d8_116 : decode prog_20_method_2_code 116 = .ok (.if_icmp .lt 19, 3) := by decide +kernel
theorem liI_194 : (194 : Int32).toInt = 194 := by decide
theorem d8_135 : decode prog_20_method_2_code 135 = .ok (.iload 5, 2) := by decide +kernel
theorem d8_137 : decode prog_20_method_2_code 137 = .ok (.sipush 224, 3) := by decide +kernel
theorem d8_140 : decode prog_20_method_2_code 140 = .ok (.if_icmp .lt 61, 3) := by decide +kernel
theorem d8_201 : decode prog_20_method_2_code 201 = .ok (.iload 5, 2) := by decide +kernel
theorem d8_203 : decode prog_20_method_2_code 203 = .ok (.sipush 240, 3) := by decide +kernel
theorem d8_206 : decode prog_20_method_2_code 206 = .ok (.if_icmp .lt 61, 3) := by decide +kernel
theorem d8_267 : decode prog_20_method_2_code 267 = .ok (.iload 5, 2) := by decide +kernel
theorem d8_269 : decode prog_20_method_2_code 269 = .ok (.sipush 128, 3) := by decide +kernel
theorem d8_272 : decode prog_20_method_2_code 272 = .ok (.if_icmp .lt 8, 3) := by decide +kernel
theorem d8_280 : decode prog_20_method_2_code 280 = .ok (.iinc 4 1, 3) := by decide +kernel
theorem d8_283 : decode prog_20_method_2_code 283 = .ok (.goto (-280), 3) := by decide +kernel
theorem d8_275 : decode prog_20_method_2_code 275 = .ok (.iload 4, 2) := by decide +kernel
theorem d8_277 : decode prog_20_method_2_code 277 = .ok (.iload_n 2, 1) := by decide +kernel
theorem d8_278 : decode prog_20_method_2_code 278 = .ok (.isub, 1) := by decide +kernel
theorem d8_279 : decode prog_20_method_2_code 279 = .ok (.ireturn, 1) := by decide +kernel
theorem d8_119 : decode prog_20_method_2_code 119 = .ok (.iload 5, 2) := by decide +kernel
theorem d8_121 : decode prog_20_method_2_code 121 = .ok (.sipush 223, 3) := by decide +kernel
theorem d8_124 : decode prog_20_method_2_code 124 = .ok (.if_icmp .gt 11, 3) := by decide +kernel
theorem liI_223 : (223 : Int32).toInt = 223 := by decide
theorem d8_143 : decode prog_20_method_2_code 143 = .ok (.iload 5, 2) := by decide +kernel
theorem d8_145 : decode prog_20_method_2_code 145 = .ok (.sipush 239, 3) := by decide +kernel
theorem d8_148 : decode prog_20_method_2_code 148 = .ok (.if_icmp .gt 53, 3) := by decide +kernel
theorem liI_239 : (239 : Int32).toInt = 239 := by decide
theorem d8_209 : decode prog_20_method_2_code 209 = .ok (.iload 5, 2) := by decide +kernel
theorem d8_211 : decode prog_20_method_2_code 211 = .ok (.sipush 244, 3) := by decide +kernel
theorem d8_214 : decode prog_20_method_2_code 214 = .ok (.if_icmp .gt 53, 3) := by decide +kernel
theorem liI_244 : (244 : Int32).toInt = 244 := by decide
theorem d8_217 : decode prog_20_method_2_code 217 = .ok (.aload_n 0, 1) := by decide +kernel
theorem d8_218 : decode prog_20_method_2_code 218 = .ok (.iconst 3, 1) := by decide +kernel
theorem d8_219 : decode prog_20_method_2_code 219 = .ok (.putfield 16, 3) := by decide +kernel
theorem sn_4 {Z : State} {a0 : Array Value} (hw : ∀ d ∈ tables_1, d.before a0 Z = true) : Jvm.RoadKit.slotOf Z "com/example/ballast/ballast/json/Utf8" "least" "I" ≠ Jvm.RoadKit.slotOf Z "com/example/ballast/ballast/json/Utf8" "pending" "I" := slot_ne (Or.inl (hw _ (List.mem_of_getElem? (i := 31) rfl))) (Or.inl (hw _ (List.mem_of_getElem? (i := 45) rfl))) (by decide) (t := .int) (t' := .int) (by decide) (by decide)
theorem sn_5 {Z : State} {a0 : Array Value} (hw : ∀ d ∈ tables_1, d.before a0 Z = true) : Jvm.RoadKit.slotOf Z "com/example/ballast/ballast/json/Utf8" "most" "I" ≠ Jvm.RoadKit.slotOf Z "com/example/ballast/ballast/json/Utf8" "pending" "I" := slot_ne (Or.inl (hw _ (List.mem_of_getElem? (i := 33) rfl))) (Or.inl (hw _ (List.mem_of_getElem? (i := 45) rfl))) (by decide) (t := .int) (t' := .int) (by decide) (by decide)
theorem d8_222 : decode prog_20_method_2_code 222 = .ok (.aload_n 0, 1) := by decide +kernel
theorem d8_223 : decode prog_20_method_2_code 223 = .ok (.iload 5, 2) := by decide +kernel
theorem d8_225 : decode prog_20_method_2_code 225 = .ok (.sipush 240, 3) := by decide +kernel
theorem d8_228 : decode prog_20_method_2_code 228 = .ok (.if_icmp .ne 9, 3) := by decide +kernel
theorem d8_231 : decode prog_20_method_2_code 231 = .ok (.sipush 144, 3) := by decide +kernel
theorem d8_234 : decode prog_20_method_2_code 234 = .ok (.goto 6, 3) := by decide +kernel
theorem d8_237 : decode prog_20_method_2_code 237 = .ok (.sipush 128, 3) := by decide +kernel
theorem liI_144 : (144 : Int32).toInt = 144 := by decide
theorem d8_240 : decode prog_20_method_2_code 240 = .ok (.putfield 7, 3) := by decide +kernel
theorem d8_243 : decode prog_20_method_2_code 243 = .ok (.aload_n 0, 1) := by decide +kernel
theorem d8_244 : decode prog_20_method_2_code 244 = .ok (.iload 5, 2) := by decide +kernel
theorem d8_246 : decode prog_20_method_2_code 246 = .ok (.sipush 244, 3) := by decide +kernel
theorem d8_249 : decode prog_20_method_2_code 249 = .ok (.if_icmp .ne 9, 3) := by decide +kernel
theorem d8_252 : decode prog_20_method_2_code 252 = .ok (.sipush 143, 3) := by decide +kernel
theorem d8_255 : decode prog_20_method_2_code 255 = .ok (.goto 6, 3) := by decide +kernel
theorem d8_258 : decode prog_20_method_2_code 258 = .ok (.sipush 191, 3) := by decide +kernel
theorem liI_143 : (143 : Int32).toInt = 143 := by decide
theorem liI_191 : (191 : Int32).toInt = 191 := by decide
theorem d8_261 : decode prog_20_method_2_code 261 = .ok (.putfield 13, 3) := by decide +kernel
theorem d8_264 : decode prog_20_method_2_code 264 = .ok (.goto 16, 3) := by decide +kernel
theorem d8_151 : decode prog_20_method_2_code 151 = .ok (.aload_n 0, 1) := by decide +kernel
theorem d8_152 : decode prog_20_method_2_code 152 = .ok (.iconst 2, 1) := by decide +kernel
theorem d8_153 : decode prog_20_method_2_code 153 = .ok (.putfield 16, 3) := by decide +kernel
theorem d8_156 : decode prog_20_method_2_code 156 = .ok (.aload_n 0, 1) := by decide +kernel
theorem d8_157 : decode prog_20_method_2_code 157 = .ok (.iload 5, 2) := by decide +kernel
theorem d8_159 : decode prog_20_method_2_code 159 = .ok (.sipush 224, 3) := by decide +kernel
theorem d8_162 : decode prog_20_method_2_code 162 = .ok (.if_icmp .ne 9, 3) := by decide +kernel
theorem d8_165 : decode prog_20_method_2_code 165 = .ok (.sipush 160, 3) := by decide +kernel
theorem d8_168 : decode prog_20_method_2_code 168 = .ok (.goto 6, 3) := by decide +kernel
theorem d8_171 : decode prog_20_method_2_code 171 = .ok (.sipush 128, 3) := by decide +kernel
theorem liI_160 : (160 : Int32).toInt = 160 := by decide
theorem d8_174 : decode prog_20_method_2_code 174 = .ok (.putfield 7, 3) := by decide +kernel
theorem d8_177 : decode prog_20_method_2_code 177 = .ok (.aload_n 0, 1) := by decide +kernel
theorem d8_178 : decode prog_20_method_2_code 178 = .ok (.iload 5, 2) := by decide +kernel
theorem d8_180 : decode prog_20_method_2_code 180 = .ok (.sipush 237, 3) := by decide +kernel
theorem d8_183 : decode prog_20_method_2_code 183 = .ok (.if_icmp .ne 9, 3) := by decide +kernel
theorem liI_237 : (237 : Int32).toInt = 237 := by decide
theorem d8_186 : decode prog_20_method_2_code 186 = .ok (.sipush 159, 3) := by decide +kernel
theorem d8_189 : decode prog_20_method_2_code 189 = .ok (.goto 6, 3) := by decide +kernel
theorem d8_192 : decode prog_20_method_2_code 192 = .ok (.sipush 191, 3) := by decide +kernel
theorem liI_159 : (159 : Int32).toInt = 159 := by decide
theorem d8_195 : decode prog_20_method_2_code 195 = .ok (.putfield 13, 3) := by decide +kernel
theorem d8_198 : decode prog_20_method_2_code 198 = .ok (.goto 82, 3) := by decide +kernel
theorem d8_127 : decode prog_20_method_2_code 127 = .ok (.aload_n 0, 1) := by decide +kernel
theorem d8_128 : decode prog_20_method_2_code 128 = .ok (.iconst 1, 1) := by decide +kernel
theorem d8_129 : decode prog_20_method_2_code 129 = .ok (.putfield 16, 3) := by decide +kernel
theorem d8_132 : decode prog_20_method_2_code 132 = .ok (.goto 148, 3) := by decide +kernel
theorem d8_29 : decode prog_20_method_2_code 29 = .ok (.iinc 4 1, 3) := by decide +kernel
theorem d8_32 : decode prog_20_method_2_code 32 = .ok (.goto (-23), 3) := by decide +kernel
theorem d8_61 : decode prog_20_method_2_code 61 = .ok (.iload 5, 2) := by decide +kernel
theorem d8_63 : decode prog_20_method_2_code 63 = .ok (.aload_n 0, 1) := by decide +kernel
theorem d8_64 : decode prog_20_method_2_code 64 = .ok (.getfield 7, 3) := by decide +kernel
theorem d8_67 : decode prog_20_method_2_code 67 = .ok (.if_icmp .lt 12, 3) := by decide +kernel
theorem d8_79 : decode prog_20_method_2_code 79 = .ok (.iload 4, 2) := by decide +kernel
theorem d8_81 : decode prog_20_method_2_code 81 = .ok (.iload_n 2, 1) := by decide +kernel
theorem d8_82 : decode prog_20_method_2_code 82 = .ok (.isub, 1) := by decide +kernel
theorem d8_83 : decode prog_20_method_2_code 83 = .ok (.ireturn, 1) := by decide +kernel
theorem d8_70 : decode prog_20_method_2_code 70 = .ok (.iload 5, 2) := by decide +kernel
theorem d8_72 : decode prog_20_method_2_code 72 = .ok (.aload_n 0, 1) := by decide +kernel
theorem d8_73 : decode prog_20_method_2_code 73 = .ok (.getfield 13, 3) := by decide +kernel
theorem d8_76 : decode prog_20_method_2_code 76 = .ok (.if_icmp .le 8, 3) := by decide +kernel
theorem d8_84 : decode prog_20_method_2_code 84 = .ok (.aload_n 0, 1) := by decide +kernel
theorem d8_85 : decode prog_20_method_2_code 85 = .ok (.dup, 1) := by decide +kernel
theorem d8_86 : decode prog_20_method_2_code 86 = .ok (.getfield 16, 3) := by decide +kernel
theorem d8_89 : decode prog_20_method_2_code 89 = .ok (.iconst 1, 1) := by decide +kernel
theorem d8_90 : decode prog_20_method_2_code 90 = .ok (.isub, 1) := by decide +kernel
theorem d8_91 : decode prog_20_method_2_code 91 = .ok (.putfield 16, 3) := by decide +kernel
theorem d8_94 : decode prog_20_method_2_code 94 = .ok (.aload_n 0, 1) := by decide +kernel
theorem d8_95 : decode prog_20_method_2_code 95 = .ok (.sipush 128, 3) := by decide +kernel
theorem d8_98 : decode prog_20_method_2_code 98 = .ok (.putfield 7, 3) := by decide +kernel
theorem d8_101 : decode prog_20_method_2_code 101 = .ok (.aload_n 0, 1) := by decide +kernel
theorem d8_102 : decode prog_20_method_2_code 102 = .ok (.sipush 191, 3) := by decide +kernel
theorem d8_105 : decode prog_20_method_2_code 105 = .ok (.putfield 13, 3) := by decide +kernel
theorem d8_108 : decode prog_20_method_2_code 108 = .ok (.goto 172, 3) := by decide +kernel
theorem ef_rm8 (m : MethodId) (o : Addr) (by0 : Addr) (f0 : Int32) (t0 : Int32) : entryFrame m #[(.ref o), (.ref by0), (.int f0), (.int t0)] 6 = mkF m 0 #[.val (.ref o), .val (.ref by0), .val (.int f0), .val (.int t0), .unset, .unset] [] := by first | (simp [entryFrame, mkF, argsToLocals, Value.category]; done) | rfl
def Q8 (Z : State) (o : Addr) (by0 : Addr) (f0 : Int32) (t0 : Int32) (pp : Int32) (ll : Int32) (mm : Int32) (fb : Nat → Int32) (h0 : Heap) (n0 : Nat) (vv : Option Value) (h : Heap) (LL : List Loc) : Prop := ∃ (r : Int32) (p2 : Int32) (l2 : Int32) (m2 : Int32) (rr : Int), vv = some (.int r) ∧ Fr n0 LL ∧ (URun (fun j : Nat => (fb j).toInt % 256) (t0.toInt - f0.toInt).toNat f0.toInt.toNat pp.toInt ll.toInt mm.toInt rr p2.toInt l2.toInt m2.toInt) ∧ ((rr = -1 ∧ r.toInt = -1) ∨ (0 ≤ rr ∧ r.toInt = rr - f0.toInt)) ∧ (0 ≤ p2.toInt) ∧ Keep h0 h [o] ∧ (Exa Z h o "com/example/ballast/ballast/json/Utf8") ∧ (Fld Z h o "com/example/ballast/ballast/json/Utf8" "pending" "I" (.int p2)) ∧ (Fld Z h o "com/example/ballast/ballast/json/Utf8" "least" "I" (.int l2)) ∧ (Fld Z h o "com/example/ballast/ballast/json/Utf8" "most" "I" (.int m2))
set_option maxRecDepth 65536 in
set_option maxHeartbeats 40000000 in
theorem rm8 (l : Launch) (Z : State) (a0 : Array Value) (hw : ∀ d ∈ tables_1, d.before a0 Z = true) (ws : List Jvm.Cond) (o : Addr) (by0 : Addr) (f0 : Int32) (t0 : Int32) (pp : Int32) (ll : Int32) (mm : Int32) (fb : Nat → Int32) (h0 : Heap) (n0 : Nat) (Z0 : n0 ≤ h0.size) (hE : Exa Z h0 o "com/example/ballast/ballast/json/Utf8") (hG : n0 ≤ o) (hf1 : Fld Z h0 o "com/example/ballast/ballast/json/Utf8" "pending" "I" (.int pp)) (hf2 : Fld Z h0 o "com/example/ballast/ballast/json/Utf8" "least" "I" (.int ll)) (hf3 : Fld Z h0 o "com/example/ballast/ballast/json/Utf8" "most" "I" (.int mm)) (hY : Vec Z h0 by0 .byte (6 : Int32) (ints fb)) (hne : by0 ≠ o) (hb8 : ∀ j : Nat, -128 ≤ (fb j).toInt ∧ (fb j).toInt < 128) (hft : 0 ≤ f0.toInt ∧ f0.toInt ≤ t0.toInt ∧ t0.toInt ≤ 6 ∧ 0 ≤ pp.toInt) :
    MetFree l (⟨"com/example/ballast/ballast/json/Utf8", "check", "([BII)I"⟩ : MethodName) (head1 (Jvm.Cond.code (⟨"com/example/ballast/ballast/json/Utf8", "check", "([BII)I"⟩ : MethodName) prog_20_method_2_code 6 (some .int) :: ws) ({ frames := 0, cells := 0, slots := 0, locals := 0 } : Room)) (fun aa UU => aa = #[(.ref o), (.ref by0), (.int f0), (.int t0)] ∧ Z.Warmed39 UU.vm ∧ UU.heap = h0) (fun _ _ _ _ _ => True) (fun _ UU oo UU' => ∃ vv LL, oo = .returned vv ∧ Q8 Z o by0 f0 t0 pp ll mm fb h0 n0 vv UU'.heap LL ∧ FrameEnd UU oo UU' LL 0 0) := by
  refine MetFree.of_bodySF (plainFor_of_name pn_1) hisR ?_
  intro p e s m args below meth c s₁ Bd hml0 hP hK
  obtain ⟨rfl, hZ, hh⟩ := hP
  have hx := Bd.exec
  have hby := Bd.bytes
  have hlk : meth.locks = false := BodyLoose.notSynchronized Bd
  have hml : c.maxLocals = 6 := hml0
  have hown : s.vm.findClass "com/example/ballast/ballast/json/Utf8" = some m.cls := findClass_of_methodNamed Bd.named
  have hnm := (name_of_methodNamed Bd.named Bd.method).1
  have X0 : Stand p l e ({ frames := 0, cells := 0, slots := 0, locals := 0 } : Room) s m #[(.ref o), (.ref by0), (.int f0), (.int t0)] below meth c s₁ [] 0 0 := Stand.of_body Bd
  have e0 : s₁.heap = h0 := by rw [← hh, Bd.state]; rfl
  have N0 := Fr.nil n0
  have K0 : Keep h0 h0 [o] := Keep.refl h0 _
  refine (?_ : Go p e below s (Q8 Z o by0 f0 t0 pp ll mm fb h0 n0) 0 0 (s₁.setTop (entryFrame m #[(.ref o), (.ref by0), (.int f0), (.int t0)] 6)))
  rw [ef_rm8]
  generalize hQ : Q8 Z o by0 f0 t0 pp ll mm fb h0 n0 = Q
  show Go p e below s Q 0 0 (s₁.setTop (mkF m 0 #[.val (.ref o), .val (.ref by0), .val (.int f0), .val (.int t0), .unset, .unset] []))
  have f1 := rng32 f0
  have f2 := rng32 t0
  refine Go.st (fun _ k => XS.iloadN X0.here hx rfl (hb hby d8_0) rfl k) ?_
  refine Go.st (fun _ k => XS.istore X0.here hx rfl (hb hby d8_1) rfl (l' := #[.val (.ref o), .val (.ref by0), .val (.int f0), .val (.int t0), .val (.int f0), .unset]) rfl k) ?_
  show Go p e below s Q 0 0 (s₁.setTop (mkF m 3 #[.val (.ref o), .val (.ref by0), .val (.int f0), .val (.int t0), .val (.int f0), .unset] []))
  have lp4 : ∀ (kg3 : Nat) (Tg3 : State) (hg3 : Heap) (Lgg3 : List Loc) (Xg3 : Stand p l e ({ frames := 0, cells := 0, slots := 0, locals := 0 } : Room) s m #[(.ref o), (.ref by0), (.int f0), (.int t0)] below meth c Tg3 Lgg3 0 0) (eg3 : Tg3.heap = hg3) (Ng3 : Fr n0 Lgg3) (Kg3 : Keep h0 hg3 [o]) (i3 : Int32) (p3 : Int32) (l3 : Int32) (m3 : Int32) (sl3 : Slot) (hfg3_0 : Exa Z hg3 o "com/example/ballast/ballast/json/Utf8") (hfg3_1 : Fld Z hg3 o "com/example/ballast/ballast/json/Utf8" "pending" "I" (.int p3)) (hfg3_2 : Fld Z hg3 o "com/example/ballast/ballast/json/Utf8" "least" "I" (.int l3)) (hfg3_3 : Fld Z hg3 o "com/example/ballast/ballast/json/Utf8" "most" "I" (.int m3)) (hfg3_4 : Vec Z hg3 by0 .byte (6 : Int32) (ints fb)) (hpg3_0 : f0.toInt ≤ i3.toInt ∧ i3.toInt ≤ t0.toInt ∧ 0 ≤ p3.toInt) (hpg3_1 : ∀ (rq pq lq mq : Int), URun (fun j : Nat => (fb j).toInt % 256) (t0.toInt - i3.toInt).toNat i3.toInt.toNat p3.toInt l3.toInt m3.toInt rq pq lq mq → URun (fun j : Nat => (fb j).toInt % 256) (t0.toInt - f0.toInt).toNat f0.toInt.toNat pp.toInt ll.toInt mm.toInt rq pq lq mq) (hpg3_2 : One sl3), (t0.toInt - i3.toInt).toNat = kg3 → Go p e below s Q 0 0 (Tg3.setTop (mkF m 3 #[.val (.ref o), .val (.ref by0), .val (.int f0), .val (.int t0), .val (.int i3), sl3] [])) := by
    intro kg3
    induction kg3 using Nat.strongRecOn with
    | ind kg3 ihg3 =>
    intro Tg3 hg3 Lgg3 Xg3 eg3 Ng3 Kg3 i3 p3 l3 m3 sl3 hfg3_0 hfg3_1 hfg3_2 hfg3_3 hfg3_4 hpg3_0 hpg3_1 hpg3_2 hkg3
    have f5 := rng32 i3
    have f6 := rng32 p3
    have f7 := rng32 l3
    have f8 := rng32 m3
    show Go p e below s Q 0 0 (Tg3.setTop (mkF m 3 #[.val (.ref o), .val (.ref by0), .val (.int f0), .val (.int t0), .val (.int i3), sl3] []))
    refine Go.st (fun _ k => XS.iload Xg3.here hx rfl (hb hby d8_3) rfl k) ?_
    refine Go.st (fun _ k => XS.iloadN Xg3.here hx rfl (hb hby d8_5) rfl k) ?_
    by_cases c9 : i3.toInt < t0.toInt
    ·
      refine Go.st (fun _ k => XS.icmpNo Xg3.here hx rfl (hb hby d8_6) rfl (tlt (ltI rfl rfl c9)).2.1 k) ?_
      show Go p e below s Q 0 0 (Tg3.setTop (mkF m 9 #[.val (.ref o), .val (.ref by0), .val (.int f0), .val (.int t0), .val (.int i3), sl3] []))
      have lp11 : ∀ (kg10 : Nat) (Tg10 : State) (hg10 : Heap) (Lgg10 : List Loc) (Xg10 : Stand p l e ({ frames := 0, cells := 0, slots := 0, locals := 0 } : Room) s m #[(.ref o), (.ref by0), (.int f0), (.int t0)] below meth c Tg10 Lgg10 0 0) (eg10 : Tg10.heap = hg10) (Ng10 : Fr n0 Lgg10) (Kg10 : Keep h0 hg10 [o]) (i9 : Int32) (p9 : Int32) (l9 : Int32) (m9 : Int32) (sl9 : Slot) (hfg10_0 : Exa Z hg10 o "com/example/ballast/ballast/json/Utf8") (hfg10_1 : Fld Z hg10 o "com/example/ballast/ballast/json/Utf8" "pending" "I" (.int p9)) (hfg10_2 : Fld Z hg10 o "com/example/ballast/ballast/json/Utf8" "least" "I" (.int l9)) (hfg10_3 : Fld Z hg10 o "com/example/ballast/ballast/json/Utf8" "most" "I" (.int m9)) (hfg10_4 : Vec Z hg10 by0 .byte (6 : Int32) (ints fb)) (hpg10_0 : f0.toInt ≤ i9.toInt ∧ i9.toInt ≤ t0.toInt ∧ 0 ≤ p9.toInt) (hpg10_1 : ∀ (rq pq lq mq : Int), URun (fun j : Nat => (fb j).toInt % 256) (t0.toInt - i9.toInt).toNat i9.toInt.toNat p9.toInt l9.toInt m9.toInt rq pq lq mq → URun (fun j : Nat => (fb j).toInt % 256) (t0.toInt - f0.toInt).toNat f0.toInt.toNat pp.toInt ll.toInt mm.toInt rq pq lq mq) (hpg10_2 : One sl9) (hpg10_3 : i3.toInt ≤ i9.toInt ∧ i9.toInt < t0.toInt + 1), (t0.toInt - i9.toInt).toNat = kg10 → Go p e below s Q 0 0 (Tg10.setTop (mkF m 9 #[.val (.ref o), .val (.ref by0), .val (.int f0), .val (.int t0), .val (.int i9), sl9] [])) := by
        intro kg10
        induction kg10 using Nat.strongRecOn with
        | ind kg10 ihg10 =>
        intro Tg10 hg10 Lgg10 Xg10 eg10 Ng10 Kg10 i9 p9 l9 m9 sl9 hfg10_0 hfg10_1 hfg10_2 hfg10_3 hfg10_4 hpg10_0 hpg10_1 hpg10_2 hpg10_3 hkg10
        have f12 := rng32 i9
        have f13 := rng32 p9
        have f14 := rng32 l9
        have f15 := rng32 m9
        show Go p e below s Q 0 0 (Tg10.setTop (mkF m 9 #[.val (.ref o), .val (.ref by0), .val (.int f0), .val (.int t0), .val (.int i9), sl9] []))
        refine Go.st (fun _ k => XS.aloadN Xg10.here hx rfl (hb hby d8_9) rfl rfl k) ?_
        obtain ⟨T16, X16, e16, st16⟩ := getF Xg10 hx hZ hown (host := "") (Or.inl (hw _ (List.mem_of_getElem? (i := 44) rfl))) Via.refl eg10 hfg10_1 (g := (mkF m 10 #[.val (.ref o), .val (.ref by0), .val (.int f0), .val (.int t0), .val (.int i9), sl9] [(.ref o)])) rfl rfl (hb hby d8_10)
        refine Go.st st16 ?_
        show Go p e below s Q 0 0 (T16.setTop (mkF m 13 #[.val (.ref o), .val (.ref by0), .val (.int f0), .val (.int t0), .val (.int i9), sl9] [(.int p9)]))
        have f17 := liI_0
        by_cases c18 : p9.toInt = 0
        ·
          refine Go.st (fun _ k => XS.ifNo X16.here hx rfl (hb hby d8_13) rfl ((if0 _ _).trans (teq (eqI rfl liI_0 c18)).2) k) ?_
          refine Go.st (fun _ k => XS.iload X16.here hx rfl (hb hby d8_16) rfl k) ?_
          refine Go.st (fun _ k => XS.iloadN X16.here hx rfl (hb hby d8_18) rfl k) ?_
          by_cases c19 : i9.toInt < t0.toInt
          ·
            refine Go.st (fun _ k => XS.icmpNo X16.here hx rfl (hb hby d8_19) rfl (tlt (ltI rfl rfl c19)).2.1 k) ?_
            refine Go.st (fun _ k => XS.aloadN X16.here hx rfl (hb hby d8_22) rfl rfl k) ?_
            refine Go.st (fun _ k => XS.iload X16.here hx rfl (hb hby d8_23) rfl k) ?_
            show Go p e below s Q 0 0 (T16.setTop (mkF m 25 #[.val (.ref o), .val (.ref by0), .val (.int f0), .val (.int t0), .val (.int i9), sl9] [(.int i9), (.ref by0)]))
            have f21 := liI_6
            have r22 : 0 ≤ i9.toInt := by omega
            have r23 : i9.toInt < (6 : Int32).toInt := by omega
            refine Go.st (Vec.ildB X16 hx hZ e16 hfg10_4 (j := i9) r22 r23 (g := (mkF m 25 #[.val (.ref o), .val (.ref by0), .val (.int f0), .val (.int t0), .val (.int i9), sl9] [(.int i9), (.ref by0)])) rfl rfl (hb hby d8_25)) ?_
            show Go p e below s Q 0 0 (T16.setTop (mkF m 26 #[.val (.ref o), .val (.ref by0), .val (.int f0), .val (.int t0), .val (.int i9), sl9] [(.int (fb i9.toInt.toNat))]))
            have hb_26 := hb8 i9.toInt.toNat
            have f24 := rng32 (fb i9.toInt.toNat)
            by_cases c25 : (fb i9.toInt.toNat).toInt < 0
            ·
              refine Go.st (fun _ k => XS.ifYes X16.here hx rfl (pc0 := 26) (pc' := 35) rfl (hb hby d8_26) rfl ((if0 _ _).trans (tlt (ltI rfl liI_0 c25)).1) (by decide) (by decide) k) ?_
              refine Go.st (fun _ k => XS.iload X16.here hx rfl (hb hby d8_35) rfl k) ?_
              refine Go.st (fun _ k => XS.iloadN X16.here hx rfl (hb hby d8_37) rfl k) ?_
              by_cases c26 : i9.toInt = t0.toInt
              ·
                refine Go.st (fun _ k => XS.icmpNo X16.here hx rfl (hb hby d8_38) rfl (teq (eqI rfl rfl c26)).2 k) ?_
                refine Go.st (fun _ k => XS.goto X16.here hx rfl (pc0 := 41) (pc' := 286) rfl (hb hby d8_41) (by decide) (by decide) k) ?_
                refine Go.st (fun _ k => XS.iconst X16.here hx rfl (hb hby d8_286) k) ?_
                show Go p e below s Q 0 0 (T16.setTop (mkF m 287 #[.val (.ref o), .val (.ref by0), .val (.int f0), .val (.int t0), .val (.int i9), sl9] [(.int (-1 : Int32))]))
                have f27 := liI_m1
                exact Go.retI X16 hx hlk Bd.returns (hb hby d8_287) (by rw [← hQ, e16]; exact ⟨(-1 : Int32), p9, l9, m9, (-1), rfl, Ng10, (by exact hpg10_1 _ _ _ _ (urun_end (by omega))), (by omega), (by omega), Kg10, hfg10_0, hfg10_1, hfg10_2, hfg10_3⟩) (by decide) (by decide)
              ·
                refine Go.st (fun _ k => XS.icmpYes X16.here hx rfl (pc0 := 38) (pc' := 44) rfl (hb hby d8_38) rfl (feq (neI rfl rfl c26)).2 (by decide) (by decide) k) ?_
                refine Go.st (fun _ k => XS.aloadN X16.here hx rfl (hb hby d8_44) rfl rfl k) ?_
                refine Go.st (fun _ k => XS.iload X16.here hx rfl (hb hby d8_45) rfl k) ?_
                show Go p e below s Q 0 0 (T16.setTop (mkF m 47 #[.val (.ref o), .val (.ref by0), .val (.int f0), .val (.int t0), .val (.int i9), sl9] [(.int i9), (.ref by0)]))
                have r29 : 0 ≤ i9.toInt := by omega
                have r30 : i9.toInt < (6 : Int32).toInt := by omega
                refine Go.st (Vec.ildB X16 hx hZ e16 hfg10_4 (j := i9) r29 r30 (g := (mkF m 47 #[.val (.ref o), .val (.ref by0), .val (.int f0), .val (.int t0), .val (.int i9), sl9] [(.int i9), (.ref by0)])) rfl rfl (hb hby d8_47)) ?_
                show Go p e below s Q 0 0 (T16.setTop (mkF m 48 #[.val (.ref o), .val (.ref by0), .val (.int f0), .val (.int t0), .val (.int i9), sl9] [(.int (fb i9.toInt.toNat))]))
                have hb_48 := hb8 i9.toInt.toNat
                refine Go.st (fun _ k => XS.sipush X16.here hx rfl (hb hby d8_48) k) ?_
                refine Go.st (fun _ k => XS.iand X16.here hx rfl (hb hby d8_51) rfl k) ?_
                refine Go.st (fun _ k => XS.istoreS X16.here hx rfl (hb hby d8_52) rfl rfl hpg10_2 k) ?_
                show Go p e below s Q 0 0 (T16.setTop (mkF m 54 #[.val (.ref o), .val (.ref by0), .val (.int f0), .val (.int t0), .val (.int i9), .val (.int ((fb i9.toInt.toNat) &&& (255 : Int32)))] []))
                have f31 := liI_255
                have f32 : ((fb i9.toInt.toNat) &&& (255 : Int32)).toInt = (fb i9.toInt.toNat).toInt % 256 := c_mask (fb i9.toInt.toNat) (255 : Int32) 8 (by decide) (by decide)
                generalize hv_v33 : ((fb i9.toInt.toNat) &&& (255 : Int32)) = v33 at f32 ⊢
                refine Go.st (fun _ k => XS.aloadN X16.here hx rfl (hb hby d8_54) rfl rfl k) ?_
                obtain ⟨T34, X34, e34, st34⟩ := getF X16 hx hZ hown (host := "") (Or.inl (hw _ (List.mem_of_getElem? (i := 44) rfl))) Via.refl e16 hfg10_1 (g := (mkF m 55 #[.val (.ref o), .val (.ref by0), .val (.int f0), .val (.int t0), .val (.int i9), .val (.int v33)] [(.ref o)])) rfl rfl (hb hby d8_55)
                refine Go.st st34 ?_
                show Go p e below s Q 0 0 (T34.setTop (mkF m 58 #[.val (.ref o), .val (.ref by0), .val (.int f0), .val (.int t0), .val (.int i9), .val (.int v33)] [(.int p9)]))
                have c35 : ¬ (0 < p9.toInt) := by omega
                refine Go.st (fun _ k => XS.ifYes X34.here hx rfl (pc0 := 58) (pc' := 111) rfl (hb hby d8_58) rfl ((if0 _ _).trans (flt (nltI liI_0 rfl c35)).2.2.2) (by decide) (by decide) k) ?_
                refine Go.st (fun _ k => XS.iload X34.here hx rfl (hb hby d8_111) rfl k) ?_
                refine Go.st (fun _ k => XS.sipush X34.here hx rfl (hb hby d8_113) k) ?_
                have f36 := liI_194
                by_cases c37 : v33.toInt < 194
                ·
                  refine Go.st (fun _ k => XS.icmpYes X34.here hx rfl (pc0 := 116) (pc' := 135) rfl (hb hby d8_116) rfl (tlt (ltI rfl liI_194 c37)).1 (by decide) (by decide) k) ?_
                  refine Go.st (fun _ k => XS.iload X34.here hx rfl (hb hby d8_135) rfl k) ?_
                  refine Go.st (fun _ k => XS.sipush X34.here hx rfl (hb hby d8_137) k) ?_
                  show Go p e below s Q 0 0 (T34.setTop (mkF m 140 #[.val (.ref o), .val (.ref by0), .val (.int f0), .val (.int t0), .val (.int i9), .val (.int v33)] [(.int (224 : Int32)), (.int v33)]))
                  have f38 := liI_224
                  have c39 : v33.toInt < 224 := by omega
                  refine Go.st (fun _ k => XS.icmpYes X34.here hx rfl (pc0 := 140) (pc' := 201) rfl (hb hby d8_140) rfl (tlt (ltI rfl liI_224 c39)).1 (by decide) (by decide) k) ?_
                  refine Go.st (fun _ k => XS.iload X34.here hx rfl (hb hby d8_201) rfl k) ?_
                  refine Go.st (fun _ k => XS.sipush X34.here hx rfl (hb hby d8_203) k) ?_
                  have f40 := liI_240
                  have c41 : v33.toInt < 240 := by omega
                  refine Go.st (fun _ k => XS.icmpYes X34.here hx rfl (pc0 := 206) (pc' := 267) rfl (hb hby d8_206) rfl (tlt (ltI rfl liI_240 c41)).1 (by decide) (by decide) k) ?_
                  refine Go.st (fun _ k => XS.iload X34.here hx rfl (hb hby d8_267) rfl k) ?_
                  refine Go.st (fun _ k => XS.sipush X34.here hx rfl (hb hby d8_269) k) ?_
                  show Go p e below s Q 0 0 (T34.setTop (mkF m 272 #[.val (.ref o), .val (.ref by0), .val (.int f0), .val (.int t0), .val (.int i9), .val (.int v33)] [(.int (128 : Int32)), (.int v33)]))
                  have f42 := liI_128
                  by_cases c43 : v33.toInt < 128
                  ·
                    refine Go.st (fun _ k => XS.icmpYes X34.here hx rfl (pc0 := 272) (pc' := 280) rfl (hb hby d8_272) rfl (tlt (ltI rfl liI_128 c43)).1 (by decide) (by decide) k) ?_
                    refine Go.st (fun _ k => XS.iinc X34.here hx rfl (hb hby d8_280) rfl (l' := #[.val (.ref o), .val (.ref by0), .val (.int f0), .val (.int t0), .val (.int (i9 + (1 : Int32))), .val (.int v33)]) rfl k) ?_
                    show Go p e below s Q 0 0 (T34.setTop (mkF m 283 #[.val (.ref o), .val (.ref by0), .val (.int f0), .val (.int t0), .val (.int (i9 + (1 : Int32))), .val (.int v33)] []))
                    have f44 := liI_1
                    have f45 := c_iadd i9 (1 : Int32)
                    have f46 := rng32 (i9 + (1 : Int32))
                    generalize hv_v47 : (i9 + (1 : Int32)) = v47 at f45 f46 ⊢
                    refine Go.st (fun _ k => XS.goto X34.here hx rfl (pc0 := 283) (pc' := 3) rfl (hb hby d8_283) (by decide) (by decide) k) ?_
                    show Go p e below s Q 0 0 (T34.setTop (mkF m 3 #[.val (.ref o), .val (.ref by0), .val (.int f0), .val (.int t0), .val (.int v47), .val (.int v33)] []))
                    exact ihg3 _ (by omega) T34 hg10 _ (up X34 (by decide) (by decide)) e34 Ng10 Kg10 v47 p9 l9 m9 (.val (.int v33)) hfg10_0 hfg10_1 hfg10_2 hfg10_3 hfg10_4 (by omega) (by intro rq pq lq mq h; exact hpg10_1 rq pq lq mq (urun_step (n' := (t0.toInt - v47.toInt).toNat) (by omega) (by omega) (rfl : _ = (fb i9.toInt.toNat).toInt % 256) (ua2 (by omega) (by omega) (by omega) (by omega) (by omega)) h)) (One.val rfl) rfl
                  ·
                    refine Go.st (fun _ k => XS.icmpNo X34.here hx rfl (hb hby d8_272) rfl (flt (nltI rfl liI_128 c43)).1 k) ?_
                    refine Go.st (fun _ k => XS.iload X34.here hx rfl (hb hby d8_275) rfl k) ?_
                    refine Go.st (fun _ k => XS.iloadN X34.here hx rfl (hb hby d8_277) rfl k) ?_
                    refine Go.st (fun _ k => XS.isub X34.here hx rfl (hb hby d8_278) rfl k) ?_
                    show Go p e below s Q 0 0 (T34.setTop (mkF m 279 #[.val (.ref o), .val (.ref by0), .val (.int f0), .val (.int t0), .val (.int i9), .val (.int v33)] [(.int (i9 - f0))]))
                    have f48 := c_isub i9 f0
                    have f49 := rng32 (i9 - f0)
                    exact Go.retI X34 hx hlk Bd.returns (hb hby d8_279) (by rw [← hQ, e34]; exact ⟨(i9 - f0), p9, l9, m9, (i9.toInt), rfl, Ng10, (by exact hpg10_1 _ _ _ _ (urun_rej (n' := (t0.toInt - i9.toInt).toNat - 1) (by omega) (rfl : _ = (fb i9.toInt.toNat).toInt % 256) (by unfold UR; omega) (by omega))), (by omega), (by omega), Kg10, hfg10_0, hfg10_1, hfg10_2, hfg10_3⟩) (by decide) (by decide)
                ·
                  refine Go.st (fun _ k => XS.icmpNo X34.here hx rfl (hb hby d8_116) rfl (flt (nltI rfl liI_194 c37)).1 k) ?_
                  refine Go.st (fun _ k => XS.iload X34.here hx rfl (hb hby d8_119) rfl k) ?_
                  refine Go.st (fun _ k => XS.sipush X34.here hx rfl (hb hby d8_121) k) ?_
                  show Go p e below s Q 0 0 (T34.setTop (mkF m 124 #[.val (.ref o), .val (.ref by0), .val (.int f0), .val (.int t0), .val (.int i9), .val (.int v33)] [(.int (223 : Int32)), (.int v33)]))
                  have f50 := liI_223
                  by_cases c51 : 223 < v33.toInt
                  ·
                    refine Go.st (fun _ k => XS.icmpYes X34.here hx rfl (pc0 := 124) (pc' := 135) rfl (hb hby d8_124) rfl (tlt (ltI liI_223 rfl c51)).2.2.1 (by decide) (by decide) k) ?_
                    refine Go.st (fun _ k => XS.iload X34.here hx rfl (hb hby d8_135) rfl k) ?_
                    refine Go.st (fun _ k => XS.sipush X34.here hx rfl (hb hby d8_137) k) ?_
                    have f52 := liI_224
                    have c53 : ¬ (v33.toInt < 224) := by omega
                    refine Go.st (fun _ k => XS.icmpNo X34.here hx rfl (hb hby d8_140) rfl (flt (nltI rfl liI_224 c53)).1 k) ?_
                    refine Go.st (fun _ k => XS.iload X34.here hx rfl (hb hby d8_143) rfl k) ?_
                    refine Go.st (fun _ k => XS.sipush X34.here hx rfl (hb hby d8_145) k) ?_
                    show Go p e below s Q 0 0 (T34.setTop (mkF m 148 #[.val (.ref o), .val (.ref by0), .val (.int f0), .val (.int t0), .val (.int i9), .val (.int v33)] [(.int (239 : Int32)), (.int v33)]))
                    have f54 := liI_239
                    by_cases c55 : 239 < v33.toInt
                    ·
                      refine Go.st (fun _ k => XS.icmpYes X34.here hx rfl (pc0 := 148) (pc' := 201) rfl (hb hby d8_148) rfl (tlt (ltI liI_239 rfl c55)).2.2.1 (by decide) (by decide) k) ?_
                      refine Go.st (fun _ k => XS.iload X34.here hx rfl (hb hby d8_201) rfl k) ?_
                      refine Go.st (fun _ k => XS.sipush X34.here hx rfl (hb hby d8_203) k) ?_
                      have f56 := liI_240
                      have c57 : ¬ (v33.toInt < 240) := by omega
                      refine Go.st (fun _ k => XS.icmpNo X34.here hx rfl (hb hby d8_206) rfl (flt (nltI rfl liI_240 c57)).1 k) ?_
                      refine Go.st (fun _ k => XS.iload X34.here hx rfl (hb hby d8_209) rfl k) ?_
                      refine Go.st (fun _ k => XS.sipush X34.here hx rfl (hb hby d8_211) k) ?_
                      show Go p e below s Q 0 0 (T34.setTop (mkF m 214 #[.val (.ref o), .val (.ref by0), .val (.int f0), .val (.int t0), .val (.int i9), .val (.int v33)] [(.int (244 : Int32)), (.int v33)]))
                      have f58 := liI_244
                      by_cases c59 : 244 < v33.toInt
                      ·
                        refine Go.st (fun _ k => XS.icmpYes X34.here hx rfl (pc0 := 214) (pc' := 267) rfl (hb hby d8_214) rfl (tlt (ltI liI_244 rfl c59)).2.2.1 (by decide) (by decide) k) ?_
                        refine Go.st (fun _ k => XS.iload X34.here hx rfl (hb hby d8_267) rfl k) ?_
                        refine Go.st (fun _ k => XS.sipush X34.here hx rfl (hb hby d8_269) k) ?_
                        have f60 := liI_128
                        have c61 : ¬ (v33.toInt < 128) := by omega
                        refine Go.st (fun _ k => XS.icmpNo X34.here hx rfl (hb hby d8_272) rfl (flt (nltI rfl liI_128 c61)).1 k) ?_
                        refine Go.st (fun _ k => XS.iload X34.here hx rfl (hb hby d8_275) rfl k) ?_
                        refine Go.st (fun _ k => XS.iloadN X34.here hx rfl (hb hby d8_277) rfl k) ?_
                        show Go p e below s Q 0 0 (T34.setTop (mkF m 278 #[.val (.ref o), .val (.ref by0), .val (.int f0), .val (.int t0), .val (.int i9), .val (.int v33)] [(.int f0), (.int i9)]))
                        refine Go.st (fun _ k => XS.isub X34.here hx rfl (hb hby d8_278) rfl k) ?_
                        show Go p e below s Q 0 0 (T34.setTop (mkF m 279 #[.val (.ref o), .val (.ref by0), .val (.int f0), .val (.int t0), .val (.int i9), .val (.int v33)] [(.int (i9 - f0))]))
                        have f62 := c_isub i9 f0
                        have f63 := rng32 (i9 - f0)
                        exact Go.retI X34 hx hlk Bd.returns (hb hby d8_279) (by rw [← hQ, e34]; exact ⟨(i9 - f0), p9, l9, m9, (i9.toInt), rfl, Ng10, (by exact hpg10_1 _ _ _ _ (urun_rej (n' := (t0.toInt - i9.toInt).toNat - 1) (by omega) (rfl : _ = (fb i9.toInt.toNat).toInt % 256) (by unfold UR; omega) (by omega))), (by omega), (by omega), Kg10, hfg10_0, hfg10_1, hfg10_2, hfg10_3⟩) (by decide) (by decide)
                      ·
                        refine Go.st (fun _ k => XS.icmpNo X34.here hx rfl (hb hby d8_214) rfl (flt (nltI liI_244 rfl c59)).2.2.1 k) ?_
                        show Go p e below s Q 0 0 (T34.setTop (mkF m 217 #[.val (.ref o), .val (.ref by0), .val (.int f0), .val (.int t0), .val (.int i9), .val (.int v33)] []))
                        refine Go.st (fun _ k => XS.aloadN X34.here hx rfl (hb hby d8_217) rfl rfl k) ?_
                        refine Go.st (fun _ k => XS.iconst X34.here hx rfl (hb hby d8_218) k) ?_
                        obtain ⟨T64, h64, X64, e64, W64, st64⟩ := putF X34 hx hZ hown (host := "") (Or.inl (hw _ (List.mem_of_getElem? (i := 44) rfl))) Via.refl e34 hfg10_1 hfg10_0 (Or.inl (hw _ (List.mem_of_getElem? (i := 45) rfl))) (hw _ (List.mem_of_getElem? (i := 22) rfl)) (ty := .int) (by decide) rfl rfl (g := (mkF m 219 #[.val (.ref o), .val (.ref by0), .val (.int f0), .val (.int t0), .val (.int i9), .val (.int v33)] [(.int (3 : Int32)), (.ref o)])) rfl rfl (hb hby d8_219)
                        have h65 : Exa Z h64 o "com/example/ballast/ballast/json/Utf8" := hfg10_0.wr W64
                        have h66 : Fld Z h64 o "com/example/ballast/ballast/json/Utf8" "pending" "I" (.int (3 : Int32)) := hfg10_1.same W64
                        have h67 : Fld Z h64 o "com/example/ballast/ballast/json/Utf8" "least" "I" (.int l9) := hfg10_2.other W64 (Or.inr (sn_4 hw))
                        have h68 : Fld Z h64 o "com/example/ballast/ballast/json/Utf8" "most" "I" (.int m9) := hfg10_3.other W64 (Or.inr (sn_5 hw))
                        have h69 : Vec Z h64 by0 .byte (6 : Int32) (ints fb) := hfg10_4.other W64 hne
                        have K64 : Keep h0 h64 [o] := Kg10.wr W64 (Or.inl (List.mem_of_getElem? (i := 0) rfl))
                        have N64 := Fr.snoc X64 Ng10 hG
                        refine Go.st st64 ?_
                        show Go p e below s Q 0 0 (T64.setTop (mkF m 222 #[.val (.ref o), .val (.ref by0), .val (.int f0), .val (.int t0), .val (.int i9), .val (.int v33)] []))
                        refine Go.st (fun _ k => XS.aloadN X64.here hx rfl (hb hby d8_222) rfl rfl k) ?_
                        refine Go.st (fun _ k => XS.iload X64.here hx rfl (hb hby d8_223) rfl k) ?_
                        refine Go.st (fun _ k => XS.sipush X64.here hx rfl (hb hby d8_225) k) ?_
                        show Go p e below s Q 0 0 (T64.setTop (mkF m 228 #[.val (.ref o), .val (.ref by0), .val (.int f0), .val (.int t0), .val (.int i9), .val (.int v33)] [(.int (240 : Int32)), (.int v33), (.ref o)]))
                        suffices J71 : ∀ (j70 : Int32), ((v33.toInt = 240 ∧ j70.toInt = 144) ∨ (¬ v33.toInt = 240 ∧ j70.toInt = 128)) → Go p e below s Q 0 0 (T64.setTop (mkF m 240 #[.val (.ref o), .val (.ref by0), .val (.int f0), .val (.int t0), .val (.int i9), .val (.int v33)] [(.int j70), (.ref o)])) by
                          by_cases c73 : v33.toInt = 240
                          ·
                            refine Go.st (fun _ k => XS.icmpNo X64.here hx rfl (hb hby d8_228) rfl (teq (eqI rfl liI_240 c73)).2 k) ?_
                            refine Go.st (fun _ k => XS.sipush X64.here hx rfl (hb hby d8_231) k) ?_
                            refine Go.st (fun _ k => XS.goto X64.here hx rfl (pc0 := 234) (pc' := 240) rfl (hb hby d8_234) (by decide) (by decide) k) ?_
                            show Go p e below s Q 0 0 (T64.setTop (mkF m 240 #[.val (.ref o), .val (.ref by0), .val (.int f0), .val (.int t0), .val (.int i9), .val (.int v33)] [(.int (144 : Int32)), (.ref o)]))
                            have f74 := liI_144
                            exact J71 (144 : Int32) (by omega)
                          ·
                            refine Go.st (fun _ k => XS.icmpYes X64.here hx rfl (pc0 := 228) (pc' := 237) rfl (hb hby d8_228) rfl (feq (neI rfl liI_240 c73)).2 (by decide) (by decide) k) ?_
                            refine Go.st (fun _ k => XS.sipush X64.here hx rfl (hb hby d8_237) k) ?_
                            show Go p e below s Q 0 0 (T64.setTop (mkF m 240 #[.val (.ref o), .val (.ref by0), .val (.int f0), .val (.int t0), .val (.int i9), .val (.int v33)] [(.int (128 : Int32)), (.ref o)]))
                            have f75 := liI_128
                            exact J71 (128 : Int32) (by omega)
                        intro j70 f76
                        have f77 := rng32 j70
                        obtain ⟨T78, h78, X78, e78, W78, st78⟩ := putF X64 hx hZ hown (host := "") (Or.inl (hw _ (List.mem_of_getElem? (i := 30) rfl))) Via.refl e64 h67 h65 (Or.inl (hw _ (List.mem_of_getElem? (i := 31) rfl))) (hw _ (List.mem_of_getElem? (i := 22) rfl)) (ty := .int) (by decide) rfl rfl (g := (mkF m 240 #[.val (.ref o), .val (.ref by0), .val (.int f0), .val (.int t0), .val (.int i9), .val (.int v33)] [(.int j70), (.ref o)])) rfl rfl (hb hby d8_240)
                        have h79 : Exa Z h78 o "com/example/ballast/ballast/json/Utf8" := h65.wr W78
                        have h80 : Fld Z h78 o "com/example/ballast/ballast/json/Utf8" "pending" "I" (.int (3 : Int32)) := h66.other W78 (Or.inr (sn_0 hw))
                        have h81 : Fld Z h78 o "com/example/ballast/ballast/json/Utf8" "least" "I" (.int j70) := h67.same W78
                        have h82 : Fld Z h78 o "com/example/ballast/ballast/json/Utf8" "most" "I" (.int m9) := h68.other W78 (Or.inr (sn_1 hw))
                        have h83 : Vec Z h78 by0 .byte (6 : Int32) (ints fb) := h69.other W78 hne
                        have K78 : Keep h0 h78 [o] := K64.wr W78 (Or.inl (List.mem_of_getElem? (i := 0) rfl))
                        have N78 := Fr.snoc X78 N64 hG
                        refine Go.st st78 ?_
                        show Go p e below s Q 0 0 (T78.setTop (mkF m 243 #[.val (.ref o), .val (.ref by0), .val (.int f0), .val (.int t0), .val (.int i9), .val (.int v33)] []))
                        refine Go.st (fun _ k => XS.aloadN X78.here hx rfl (hb hby d8_243) rfl rfl k) ?_
                        refine Go.st (fun _ k => XS.iload X78.here hx rfl (hb hby d8_244) rfl k) ?_
                        refine Go.st (fun _ k => XS.sipush X78.here hx rfl (hb hby d8_246) k) ?_
                        show Go p e below s Q 0 0 (T78.setTop (mkF m 249 #[.val (.ref o), .val (.ref by0), .val (.int f0), .val (.int t0), .val (.int i9), .val (.int v33)] [(.int (244 : Int32)), (.int v33), (.ref o)]))
                        suffices J85 : ∀ (j84 : Int32), ((v33.toInt = 244 ∧ j84.toInt = 143) ∨ (¬ v33.toInt = 244 ∧ j84.toInt = 191)) → Go p e below s Q 0 0 (T78.setTop (mkF m 261 #[.val (.ref o), .val (.ref by0), .val (.int f0), .val (.int t0), .val (.int i9), .val (.int v33)] [(.int j84), (.ref o)])) by
                          by_cases c87 : v33.toInt = 244
                          ·
                            refine Go.st (fun _ k => XS.icmpNo X78.here hx rfl (hb hby d8_249) rfl (teq (eqI rfl liI_244 c87)).2 k) ?_
                            refine Go.st (fun _ k => XS.sipush X78.here hx rfl (hb hby d8_252) k) ?_
                            refine Go.st (fun _ k => XS.goto X78.here hx rfl (pc0 := 255) (pc' := 261) rfl (hb hby d8_255) (by decide) (by decide) k) ?_
                            show Go p e below s Q 0 0 (T78.setTop (mkF m 261 #[.val (.ref o), .val (.ref by0), .val (.int f0), .val (.int t0), .val (.int i9), .val (.int v33)] [(.int (143 : Int32)), (.ref o)]))
                            have f88 := liI_143
                            exact J85 (143 : Int32) (by omega)
                          ·
                            refine Go.st (fun _ k => XS.icmpYes X78.here hx rfl (pc0 := 249) (pc' := 258) rfl (hb hby d8_249) rfl (feq (neI rfl liI_244 c87)).2 (by decide) (by decide) k) ?_
                            refine Go.st (fun _ k => XS.sipush X78.here hx rfl (hb hby d8_258) k) ?_
                            show Go p e below s Q 0 0 (T78.setTop (mkF m 261 #[.val (.ref o), .val (.ref by0), .val (.int f0), .val (.int t0), .val (.int i9), .val (.int v33)] [(.int (191 : Int32)), (.ref o)]))
                            have f89 := liI_191
                            exact J85 (191 : Int32) (by omega)
                        intro j84 f90
                        have f91 := rng32 j84
                        obtain ⟨T92, h92, X92, e92, W92, st92⟩ := putF X78 hx hZ hown (host := "") (Or.inl (hw _ (List.mem_of_getElem? (i := 32) rfl))) Via.refl e78 h82 h79 (Or.inl (hw _ (List.mem_of_getElem? (i := 33) rfl))) (hw _ (List.mem_of_getElem? (i := 22) rfl)) (ty := .int) (by decide) rfl rfl (g := (mkF m 261 #[.val (.ref o), .val (.ref by0), .val (.int f0), .val (.int t0), .val (.int i9), .val (.int v33)] [(.int j84), (.ref o)])) rfl rfl (hb hby d8_261)
                        have h93 : Exa Z h92 o "com/example/ballast/ballast/json/Utf8" := h79.wr W92
                        have h94 : Fld Z h92 o "com/example/ballast/ballast/json/Utf8" "pending" "I" (.int (3 : Int32)) := h80.other W92 (Or.inr (sn_2 hw))
                        have h95 : Fld Z h92 o "com/example/ballast/ballast/json/Utf8" "least" "I" (.int j70) := h81.other W92 (Or.inr (sn_3 hw))
                        have h96 : Fld Z h92 o "com/example/ballast/ballast/json/Utf8" "most" "I" (.int j84) := h82.same W92
                        have h97 : Vec Z h92 by0 .byte (6 : Int32) (ints fb) := h83.other W92 hne
                        have K92 : Keep h0 h92 [o] := K78.wr W92 (Or.inl (List.mem_of_getElem? (i := 0) rfl))
                        have N92 := Fr.snoc X92 N78 hG
                        refine Go.st st92 ?_
                        show Go p e below s Q 0 0 (T92.setTop (mkF m 264 #[.val (.ref o), .val (.ref by0), .val (.int f0), .val (.int t0), .val (.int i9), .val (.int v33)] []))
                        refine Go.st (fun _ k => XS.goto X92.here hx rfl (pc0 := 264) (pc' := 280) rfl (hb hby d8_264) (by decide) (by decide) k) ?_
                        refine Go.st (fun _ k => XS.iinc X92.here hx rfl (hb hby d8_280) rfl (l' := #[.val (.ref o), .val (.ref by0), .val (.int f0), .val (.int t0), .val (.int (i9 + (1 : Int32))), .val (.int v33)]) rfl k) ?_
                        show Go p e below s Q 0 0 (T92.setTop (mkF m 283 #[.val (.ref o), .val (.ref by0), .val (.int f0), .val (.int t0), .val (.int (i9 + (1 : Int32))), .val (.int v33)] []))
                        have f98 := liI_1
                        have f99 := c_iadd i9 (1 : Int32)
                        have f100 := rng32 (i9 + (1 : Int32))
                        generalize hv_v101 : (i9 + (1 : Int32)) = v101 at f99 f100 ⊢
                        refine Go.st (fun _ k => XS.goto X92.here hx rfl (pc0 := 283) (pc' := 3) rfl (hb hby d8_283) (by decide) (by decide) k) ?_
                        show Go p e below s Q 0 0 (T92.setTop (mkF m 3 #[.val (.ref o), .val (.ref by0), .val (.int f0), .val (.int t0), .val (.int v101), .val (.int v33)] []))
                        have f102 := liI_3
                        exact ihg3 _ (by omega) T92 h92 _ (up X92 (by decide) (by decide)) e92 N92 K92 v101 (3 : Int32) j70 j84 (.val (.int v33)) h93 h94 h95 h96 h97 (by omega) (by intro rq pq lq mq h; exact hpg10_1 rq pq lq mq (urun_step (n' := (t0.toInt - v101.toInt).toNat) (by omega) (by omega) (rfl : _ = (fb i9.toInt.toNat).toInt % 256) (ua5 (by omega) (by omega) (by omega) (by omega) (d := v33.toInt) (by omega) f76 f90) h)) (One.val rfl) rfl
                    ·
                      refine Go.st (fun _ k => XS.icmpNo X34.here hx rfl (hb hby d8_148) rfl (flt (nltI liI_239 rfl c55)).2.2.1 k) ?_
                      show Go p e below s Q 0 0 (T34.setTop (mkF m 151 #[.val (.ref o), .val (.ref by0), .val (.int f0), .val (.int t0), .val (.int i9), .val (.int v33)] []))
                      refine Go.st (fun _ k => XS.aloadN X34.here hx rfl (hb hby d8_151) rfl rfl k) ?_
                      refine Go.st (fun _ k => XS.iconst X34.here hx rfl (hb hby d8_152) k) ?_
                      obtain ⟨T103, h103, X103, e103, W103, st103⟩ := putF X34 hx hZ hown (host := "") (Or.inl (hw _ (List.mem_of_getElem? (i := 44) rfl))) Via.refl e34 hfg10_1 hfg10_0 (Or.inl (hw _ (List.mem_of_getElem? (i := 45) rfl))) (hw _ (List.mem_of_getElem? (i := 22) rfl)) (ty := .int) (by decide) rfl rfl (g := (mkF m 153 #[.val (.ref o), .val (.ref by0), .val (.int f0), .val (.int t0), .val (.int i9), .val (.int v33)] [(.int (2 : Int32)), (.ref o)])) rfl rfl (hb hby d8_153)
                      have h104 : Exa Z h103 o "com/example/ballast/ballast/json/Utf8" := hfg10_0.wr W103
                      have h105 : Fld Z h103 o "com/example/ballast/ballast/json/Utf8" "pending" "I" (.int (2 : Int32)) := hfg10_1.same W103
                      have h106 : Fld Z h103 o "com/example/ballast/ballast/json/Utf8" "least" "I" (.int l9) := hfg10_2.other W103 (Or.inr (sn_4 hw))
                      have h107 : Fld Z h103 o "com/example/ballast/ballast/json/Utf8" "most" "I" (.int m9) := hfg10_3.other W103 (Or.inr (sn_5 hw))
                      have h108 : Vec Z h103 by0 .byte (6 : Int32) (ints fb) := hfg10_4.other W103 hne
                      have K103 : Keep h0 h103 [o] := Kg10.wr W103 (Or.inl (List.mem_of_getElem? (i := 0) rfl))
                      have N103 := Fr.snoc X103 Ng10 hG
                      refine Go.st st103 ?_
                      show Go p e below s Q 0 0 (T103.setTop (mkF m 156 #[.val (.ref o), .val (.ref by0), .val (.int f0), .val (.int t0), .val (.int i9), .val (.int v33)] []))
                      refine Go.st (fun _ k => XS.aloadN X103.here hx rfl (hb hby d8_156) rfl rfl k) ?_
                      refine Go.st (fun _ k => XS.iload X103.here hx rfl (hb hby d8_157) rfl k) ?_
                      refine Go.st (fun _ k => XS.sipush X103.here hx rfl (hb hby d8_159) k) ?_
                      show Go p e below s Q 0 0 (T103.setTop (mkF m 162 #[.val (.ref o), .val (.ref by0), .val (.int f0), .val (.int t0), .val (.int i9), .val (.int v33)] [(.int (224 : Int32)), (.int v33), (.ref o)]))
                      suffices J110 : ∀ (j109 : Int32), ((v33.toInt = 224 ∧ j109.toInt = 160) ∨ (¬ v33.toInt = 224 ∧ j109.toInt = 128)) → Go p e below s Q 0 0 (T103.setTop (mkF m 174 #[.val (.ref o), .val (.ref by0), .val (.int f0), .val (.int t0), .val (.int i9), .val (.int v33)] [(.int j109), (.ref o)])) by
                        by_cases c112 : v33.toInt = 224
                        ·
                          refine Go.st (fun _ k => XS.icmpNo X103.here hx rfl (hb hby d8_162) rfl (teq (eqI rfl liI_224 c112)).2 k) ?_
                          refine Go.st (fun _ k => XS.sipush X103.here hx rfl (hb hby d8_165) k) ?_
                          refine Go.st (fun _ k => XS.goto X103.here hx rfl (pc0 := 168) (pc' := 174) rfl (hb hby d8_168) (by decide) (by decide) k) ?_
                          show Go p e below s Q 0 0 (T103.setTop (mkF m 174 #[.val (.ref o), .val (.ref by0), .val (.int f0), .val (.int t0), .val (.int i9), .val (.int v33)] [(.int (160 : Int32)), (.ref o)]))
                          have f113 := liI_160
                          exact J110 (160 : Int32) (by omega)
                        ·
                          refine Go.st (fun _ k => XS.icmpYes X103.here hx rfl (pc0 := 162) (pc' := 171) rfl (hb hby d8_162) rfl (feq (neI rfl liI_224 c112)).2 (by decide) (by decide) k) ?_
                          refine Go.st (fun _ k => XS.sipush X103.here hx rfl (hb hby d8_171) k) ?_
                          show Go p e below s Q 0 0 (T103.setTop (mkF m 174 #[.val (.ref o), .val (.ref by0), .val (.int f0), .val (.int t0), .val (.int i9), .val (.int v33)] [(.int (128 : Int32)), (.ref o)]))
                          have f114 := liI_128
                          exact J110 (128 : Int32) (by omega)
                      intro j109 f115
                      have f116 := rng32 j109
                      obtain ⟨T117, h117, X117, e117, W117, st117⟩ := putF X103 hx hZ hown (host := "") (Or.inl (hw _ (List.mem_of_getElem? (i := 30) rfl))) Via.refl e103 h106 h104 (Or.inl (hw _ (List.mem_of_getElem? (i := 31) rfl))) (hw _ (List.mem_of_getElem? (i := 22) rfl)) (ty := .int) (by decide) rfl rfl (g := (mkF m 174 #[.val (.ref o), .val (.ref by0), .val (.int f0), .val (.int t0), .val (.int i9), .val (.int v33)] [(.int j109), (.ref o)])) rfl rfl (hb hby d8_174)
                      have h118 : Exa Z h117 o "com/example/ballast/ballast/json/Utf8" := h104.wr W117
                      have h119 : Fld Z h117 o "com/example/ballast/ballast/json/Utf8" "pending" "I" (.int (2 : Int32)) := h105.other W117 (Or.inr (sn_0 hw))
                      have h120 : Fld Z h117 o "com/example/ballast/ballast/json/Utf8" "least" "I" (.int j109) := h106.same W117
                      have h121 : Fld Z h117 o "com/example/ballast/ballast/json/Utf8" "most" "I" (.int m9) := h107.other W117 (Or.inr (sn_1 hw))
                      have h122 : Vec Z h117 by0 .byte (6 : Int32) (ints fb) := h108.other W117 hne
                      have K117 : Keep h0 h117 [o] := K103.wr W117 (Or.inl (List.mem_of_getElem? (i := 0) rfl))
                      have N117 := Fr.snoc X117 N103 hG
                      refine Go.st st117 ?_
                      show Go p e below s Q 0 0 (T117.setTop (mkF m 177 #[.val (.ref o), .val (.ref by0), .val (.int f0), .val (.int t0), .val (.int i9), .val (.int v33)] []))
                      refine Go.st (fun _ k => XS.aloadN X117.here hx rfl (hb hby d8_177) rfl rfl k) ?_
                      refine Go.st (fun _ k => XS.iload X117.here hx rfl (hb hby d8_178) rfl k) ?_
                      refine Go.st (fun _ k => XS.sipush X117.here hx rfl (hb hby d8_180) k) ?_
                      show Go p e below s Q 0 0 (T117.setTop (mkF m 183 #[.val (.ref o), .val (.ref by0), .val (.int f0), .val (.int t0), .val (.int i9), .val (.int v33)] [(.int (237 : Int32)), (.int v33), (.ref o)]))
                      suffices J124 : ∀ (j123 : Int32), ((v33.toInt = 237 ∧ j123.toInt = 159) ∨ (¬ v33.toInt = 237 ∧ j123.toInt = 191)) → Go p e below s Q 0 0 (T117.setTop (mkF m 195 #[.val (.ref o), .val (.ref by0), .val (.int f0), .val (.int t0), .val (.int i9), .val (.int v33)] [(.int j123), (.ref o)])) by
                        have f126 := liI_237
                        by_cases c127 : v33.toInt = 237
                        ·
                          refine Go.st (fun _ k => XS.icmpNo X117.here hx rfl (hb hby d8_183) rfl (teq (eqI rfl liI_237 c127)).2 k) ?_
                          refine Go.st (fun _ k => XS.sipush X117.here hx rfl (hb hby d8_186) k) ?_
                          refine Go.st (fun _ k => XS.goto X117.here hx rfl (pc0 := 189) (pc' := 195) rfl (hb hby d8_189) (by decide) (by decide) k) ?_
                          show Go p e below s Q 0 0 (T117.setTop (mkF m 195 #[.val (.ref o), .val (.ref by0), .val (.int f0), .val (.int t0), .val (.int i9), .val (.int v33)] [(.int (159 : Int32)), (.ref o)]))
                          have f128 := liI_159
                          exact J124 (159 : Int32) (by omega)
                        ·
                          refine Go.st (fun _ k => XS.icmpYes X117.here hx rfl (pc0 := 183) (pc' := 192) rfl (hb hby d8_183) rfl (feq (neI rfl liI_237 c127)).2 (by decide) (by decide) k) ?_
                          refine Go.st (fun _ k => XS.sipush X117.here hx rfl (hb hby d8_192) k) ?_
                          show Go p e below s Q 0 0 (T117.setTop (mkF m 195 #[.val (.ref o), .val (.ref by0), .val (.int f0), .val (.int t0), .val (.int i9), .val (.int v33)] [(.int (191 : Int32)), (.ref o)]))
                          have f129 := liI_191
                          exact J124 (191 : Int32) (by omega)
                      intro j123 f130
                      have f131 := rng32 j123
                      obtain ⟨T132, h132, X132, e132, W132, st132⟩ := putF X117 hx hZ hown (host := "") (Or.inl (hw _ (List.mem_of_getElem? (i := 32) rfl))) Via.refl e117 h121 h118 (Or.inl (hw _ (List.mem_of_getElem? (i := 33) rfl))) (hw _ (List.mem_of_getElem? (i := 22) rfl)) (ty := .int) (by decide) rfl rfl (g := (mkF m 195 #[.val (.ref o), .val (.ref by0), .val (.int f0), .val (.int t0), .val (.int i9), .val (.int v33)] [(.int j123), (.ref o)])) rfl rfl (hb hby d8_195)
                      have h133 : Exa Z h132 o "com/example/ballast/ballast/json/Utf8" := h118.wr W132
                      have h134 : Fld Z h132 o "com/example/ballast/ballast/json/Utf8" "pending" "I" (.int (2 : Int32)) := h119.other W132 (Or.inr (sn_2 hw))
                      have h135 : Fld Z h132 o "com/example/ballast/ballast/json/Utf8" "least" "I" (.int j109) := h120.other W132 (Or.inr (sn_3 hw))
                      have h136 : Fld Z h132 o "com/example/ballast/ballast/json/Utf8" "most" "I" (.int j123) := h121.same W132
                      have h137 : Vec Z h132 by0 .byte (6 : Int32) (ints fb) := h122.other W132 hne
                      have K132 : Keep h0 h132 [o] := K117.wr W132 (Or.inl (List.mem_of_getElem? (i := 0) rfl))
                      have N132 := Fr.snoc X132 N117 hG
                      refine Go.st st132 ?_
                      show Go p e below s Q 0 0 (T132.setTop (mkF m 198 #[.val (.ref o), .val (.ref by0), .val (.int f0), .val (.int t0), .val (.int i9), .val (.int v33)] []))
                      refine Go.st (fun _ k => XS.goto X132.here hx rfl (pc0 := 198) (pc' := 280) rfl (hb hby d8_198) (by decide) (by decide) k) ?_
                      refine Go.st (fun _ k => XS.iinc X132.here hx rfl (hb hby d8_280) rfl (l' := #[.val (.ref o), .val (.ref by0), .val (.int f0), .val (.int t0), .val (.int (i9 + (1 : Int32))), .val (.int v33)]) rfl k) ?_
                      show Go p e below s Q 0 0 (T132.setTop (mkF m 283 #[.val (.ref o), .val (.ref by0), .val (.int f0), .val (.int t0), .val (.int (i9 + (1 : Int32))), .val (.int v33)] []))
                      have f138 := liI_1
                      have f139 := c_iadd i9 (1 : Int32)
                      have f140 := rng32 (i9 + (1 : Int32))
                      generalize hv_v141 : (i9 + (1 : Int32)) = v141 at f139 f140 ⊢
                      refine Go.st (fun _ k => XS.goto X132.here hx rfl (pc0 := 283) (pc' := 3) rfl (hb hby d8_283) (by decide) (by decide) k) ?_
                      show Go p e below s Q 0 0 (T132.setTop (mkF m 3 #[.val (.ref o), .val (.ref by0), .val (.int f0), .val (.int t0), .val (.int v141), .val (.int v33)] []))
                      have f142 := liI_2
                      exact ihg3 _ (by omega) T132 h132 _ (up X132 (by decide) (by decide)) e132 N132 K132 v141 (2 : Int32) j109 j123 (.val (.int v33)) h133 h134 h135 h136 h137 (by omega) (by intro rq pq lq mq h; exact hpg10_1 rq pq lq mq (urun_step (n' := (t0.toInt - v141.toInt).toNat) (by omega) (by omega) (rfl : _ = (fb i9.toInt.toNat).toInt % 256) (ua4 (by omega) (by omega) (by omega) (by omega) (d := v33.toInt) (by omega) f115 f130) h)) (One.val rfl) rfl
                  ·
                    refine Go.st (fun _ k => XS.icmpNo X34.here hx rfl (hb hby d8_124) rfl (flt (nltI liI_223 rfl c51)).2.2.1 k) ?_
                    show Go p e below s Q 0 0 (T34.setTop (mkF m 127 #[.val (.ref o), .val (.ref by0), .val (.int f0), .val (.int t0), .val (.int i9), .val (.int v33)] []))
                    refine Go.st (fun _ k => XS.aloadN X34.here hx rfl (hb hby d8_127) rfl rfl k) ?_
                    refine Go.st (fun _ k => XS.iconst X34.here hx rfl (hb hby d8_128) k) ?_
                    obtain ⟨T143, h143, X143, e143, W143, st143⟩ := putF X34 hx hZ hown (host := "") (Or.inl (hw _ (List.mem_of_getElem? (i := 44) rfl))) Via.refl e34 hfg10_1 hfg10_0 (Or.inl (hw _ (List.mem_of_getElem? (i := 45) rfl))) (hw _ (List.mem_of_getElem? (i := 22) rfl)) (ty := .int) (by decide) rfl rfl (g := (mkF m 129 #[.val (.ref o), .val (.ref by0), .val (.int f0), .val (.int t0), .val (.int i9), .val (.int v33)] [(.int (1 : Int32)), (.ref o)])) rfl rfl (hb hby d8_129)
                    have h144 : Exa Z h143 o "com/example/ballast/ballast/json/Utf8" := hfg10_0.wr W143
                    have h145 : Fld Z h143 o "com/example/ballast/ballast/json/Utf8" "pending" "I" (.int (1 : Int32)) := hfg10_1.same W143
                    have h146 : Fld Z h143 o "com/example/ballast/ballast/json/Utf8" "least" "I" (.int l9) := hfg10_2.other W143 (Or.inr (sn_4 hw))
                    have h147 : Fld Z h143 o "com/example/ballast/ballast/json/Utf8" "most" "I" (.int m9) := hfg10_3.other W143 (Or.inr (sn_5 hw))
                    have h148 : Vec Z h143 by0 .byte (6 : Int32) (ints fb) := hfg10_4.other W143 hne
                    have K143 : Keep h0 h143 [o] := Kg10.wr W143 (Or.inl (List.mem_of_getElem? (i := 0) rfl))
                    have N143 := Fr.snoc X143 Ng10 hG
                    refine Go.st st143 ?_
                    show Go p e below s Q 0 0 (T143.setTop (mkF m 132 #[.val (.ref o), .val (.ref by0), .val (.int f0), .val (.int t0), .val (.int i9), .val (.int v33)] []))
                    refine Go.st (fun _ k => XS.goto X143.here hx rfl (pc0 := 132) (pc' := 280) rfl (hb hby d8_132) (by decide) (by decide) k) ?_
                    refine Go.st (fun _ k => XS.iinc X143.here hx rfl (hb hby d8_280) rfl (l' := #[.val (.ref o), .val (.ref by0), .val (.int f0), .val (.int t0), .val (.int (i9 + (1 : Int32))), .val (.int v33)]) rfl k) ?_
                    show Go p e below s Q 0 0 (T143.setTop (mkF m 283 #[.val (.ref o), .val (.ref by0), .val (.int f0), .val (.int t0), .val (.int (i9 + (1 : Int32))), .val (.int v33)] []))
                    have f149 := liI_1
                    have f150 := c_iadd i9 (1 : Int32)
                    have f151 := rng32 (i9 + (1 : Int32))
                    generalize hv_v152 : (i9 + (1 : Int32)) = v152 at f150 f151 ⊢
                    refine Go.st (fun _ k => XS.goto X143.here hx rfl (pc0 := 283) (pc' := 3) rfl (hb hby d8_283) (by decide) (by decide) k) ?_
                    show Go p e below s Q 0 0 (T143.setTop (mkF m 3 #[.val (.ref o), .val (.ref by0), .val (.int f0), .val (.int t0), .val (.int v152), .val (.int v33)] []))
                    exact ihg3 _ (by omega) T143 h143 _ (up X143 (by decide) (by decide)) e143 N143 K143 v152 (1 : Int32) l9 m9 (.val (.int v33)) h144 h145 h146 h147 h148 (by omega) (by intro rq pq lq mq h; exact hpg10_1 rq pq lq mq (urun_step (n' := (t0.toInt - v152.toInt).toNat) (by omega) (by omega) (rfl : _ = (fb i9.toInt.toNat).toInt % 256) (ua3 (by omega) (by omega) (by omega) (by omega) (by omega) (by omega)) h)) (One.val rfl) rfl
            ·
              refine Go.st (fun _ k => XS.ifNo X16.here hx rfl (hb hby d8_26) rfl ((if0 _ _).trans (flt (nltI rfl liI_0 c25)).1) k) ?_
              refine Go.st (fun _ k => XS.iinc X16.here hx rfl (hb hby d8_29) rfl (l' := #[.val (.ref o), .val (.ref by0), .val (.int f0), .val (.int t0), .val (.int (i9 + (1 : Int32))), sl9]) rfl k) ?_
              show Go p e below s Q 0 0 (T16.setTop (mkF m 32 #[.val (.ref o), .val (.ref by0), .val (.int f0), .val (.int t0), .val (.int (i9 + (1 : Int32))), sl9] []))
              have f153 := liI_1
              have f154 := c_iadd i9 (1 : Int32)
              have f155 := rng32 (i9 + (1 : Int32))
              generalize hv_v156 : (i9 + (1 : Int32)) = v156 at f154 f155 ⊢
              refine Go.st (fun _ k => XS.goto X16.here hx rfl (pc0 := 32) (pc' := 9) rfl (hb hby d8_32) (by decide) (by decide) k) ?_
              show Go p e below s Q 0 0 (T16.setTop (mkF m 9 #[.val (.ref o), .val (.ref by0), .val (.int f0), .val (.int t0), .val (.int v156), sl9] []))
              exact ihg10 _ (by omega) T16 hg10 _ (up X16 (by decide) (by decide)) e16 Ng10 Kg10 v156 p9 l9 m9 sl9 hfg10_0 hfg10_1 hfg10_2 hfg10_3 hfg10_4 (by omega) (by intro rq pq lq mq h; exact hpg10_1 rq pq lq mq (urun_step (n' := (t0.toInt - v156.toInt).toNat) (by omega) (by omega) (rfl : _ = (fb i9.toInt.toNat).toInt % 256) (ua2 (by omega) (by omega) (by omega) (by omega) (by omega)) h)) hpg10_2 (by omega) rfl
          ·
            refine Go.st (fun _ k => XS.icmpYes X16.here hx rfl (pc0 := 19) (pc' := 35) rfl (hb hby d8_19) rfl (flt (nltI rfl rfl c19)).2.1 (by decide) (by decide) k) ?_
            refine Go.st (fun _ k => XS.iload X16.here hx rfl (hb hby d8_35) rfl k) ?_
            refine Go.st (fun _ k => XS.iloadN X16.here hx rfl (hb hby d8_37) rfl k) ?_
            show Go p e below s Q 0 0 (T16.setTop (mkF m 38 #[.val (.ref o), .val (.ref by0), .val (.int f0), .val (.int t0), .val (.int i9), sl9] [(.int t0), (.int i9)]))
            by_cases c157 : i9.toInt = t0.toInt
            ·
              refine Go.st (fun _ k => XS.icmpNo X16.here hx rfl (hb hby d8_38) rfl (teq (eqI rfl rfl c157)).2 k) ?_
              refine Go.st (fun _ k => XS.goto X16.here hx rfl (pc0 := 41) (pc' := 286) rfl (hb hby d8_41) (by decide) (by decide) k) ?_
              refine Go.st (fun _ k => XS.iconst X16.here hx rfl (hb hby d8_286) k) ?_
              show Go p e below s Q 0 0 (T16.setTop (mkF m 287 #[.val (.ref o), .val (.ref by0), .val (.int f0), .val (.int t0), .val (.int i9), sl9] [(.int (-1 : Int32))]))
              have f158 := liI_m1
              exact Go.retI X16 hx hlk Bd.returns (hb hby d8_287) (by rw [← hQ, e16]; exact ⟨(-1 : Int32), p9, l9, m9, (-1), rfl, Ng10, (by exact hpg10_1 _ _ _ _ (urun_end (by omega))), (by omega), (by omega), Kg10, hfg10_0, hfg10_1, hfg10_2, hfg10_3⟩) (by decide) (by decide)
            ·
              refine Go.st (fun _ k => XS.icmpYes X16.here hx rfl (pc0 := 38) (pc' := 44) rfl (hb hby d8_38) rfl (feq (neI rfl rfl c157)).2 (by decide) (by decide) k) ?_
              refine Go.st (fun _ k => XS.aloadN X16.here hx rfl (hb hby d8_44) rfl rfl k) ?_
              refine Go.st (fun _ k => XS.iload X16.here hx rfl (hb hby d8_45) rfl k) ?_
              have f160 := liI_6
              have r161 : 0 ≤ i9.toInt := by omega
              have r162 : i9.toInt < (6 : Int32).toInt := by omega
              refine Go.st (Vec.ildB X16 hx hZ e16 hfg10_4 (j := i9) r161 r162 (g := (mkF m 47 #[.val (.ref o), .val (.ref by0), .val (.int f0), .val (.int t0), .val (.int i9), sl9] [(.int i9), (.ref by0)])) rfl rfl (hb hby d8_47)) ?_
              show Go p e below s Q 0 0 (T16.setTop (mkF m 48 #[.val (.ref o), .val (.ref by0), .val (.int f0), .val (.int t0), .val (.int i9), sl9] [(.int (fb i9.toInt.toNat))]))
              have hb_48 := hb8 i9.toInt.toNat
              refine Go.st (fun _ k => XS.sipush X16.here hx rfl (hb hby d8_48) k) ?_
              refine Go.st (fun _ k => XS.iand X16.here hx rfl (hb hby d8_51) rfl k) ?_
              refine Go.st (fun _ k => XS.istoreS X16.here hx rfl (hb hby d8_52) rfl rfl hpg10_2 k) ?_
              show Go p e below s Q 0 0 (T16.setTop (mkF m 54 #[.val (.ref o), .val (.ref by0), .val (.int f0), .val (.int t0), .val (.int i9), .val (.int ((fb i9.toInt.toNat) &&& (255 : Int32)))] []))
              have f163 := rng32 (fb i9.toInt.toNat)
              have f164 := liI_255
              have f165 : ((fb i9.toInt.toNat) &&& (255 : Int32)).toInt = (fb i9.toInt.toNat).toInt % 256 := c_mask (fb i9.toInt.toNat) (255 : Int32) 8 (by decide) (by decide)
              generalize hv_v166 : ((fb i9.toInt.toNat) &&& (255 : Int32)) = v166 at f165 ⊢
              refine Go.st (fun _ k => XS.aloadN X16.here hx rfl (hb hby d8_54) rfl rfl k) ?_
              obtain ⟨T167, X167, e167, st167⟩ := getF X16 hx hZ hown (host := "") (Or.inl (hw _ (List.mem_of_getElem? (i := 44) rfl))) Via.refl e16 hfg10_1 (g := (mkF m 55 #[.val (.ref o), .val (.ref by0), .val (.int f0), .val (.int t0), .val (.int i9), .val (.int v166)] [(.ref o)])) rfl rfl (hb hby d8_55)
              refine Go.st st167 ?_
              show Go p e below s Q 0 0 (T167.setTop (mkF m 58 #[.val (.ref o), .val (.ref by0), .val (.int f0), .val (.int t0), .val (.int i9), .val (.int v166)] [(.int p9)]))
              have c168 : ¬ (0 < p9.toInt) := by omega
              refine Go.st (fun _ k => XS.ifYes X167.here hx rfl (pc0 := 58) (pc' := 111) rfl (hb hby d8_58) rfl ((if0 _ _).trans (flt (nltI liI_0 rfl c168)).2.2.2) (by decide) (by decide) k) ?_
              refine Go.st (fun _ k => XS.iload X167.here hx rfl (hb hby d8_111) rfl k) ?_
              refine Go.st (fun _ k => XS.sipush X167.here hx rfl (hb hby d8_113) k) ?_
              have f169 := liI_194
              by_cases c170 : v166.toInt < 194
              ·
                refine Go.st (fun _ k => XS.icmpYes X167.here hx rfl (pc0 := 116) (pc' := 135) rfl (hb hby d8_116) rfl (tlt (ltI rfl liI_194 c170)).1 (by decide) (by decide) k) ?_
                refine Go.st (fun _ k => XS.iload X167.here hx rfl (hb hby d8_135) rfl k) ?_
                refine Go.st (fun _ k => XS.sipush X167.here hx rfl (hb hby d8_137) k) ?_
                show Go p e below s Q 0 0 (T167.setTop (mkF m 140 #[.val (.ref o), .val (.ref by0), .val (.int f0), .val (.int t0), .val (.int i9), .val (.int v166)] [(.int (224 : Int32)), (.int v166)]))
                have f171 := liI_224
                have c172 : v166.toInt < 224 := by omega
                refine Go.st (fun _ k => XS.icmpYes X167.here hx rfl (pc0 := 140) (pc' := 201) rfl (hb hby d8_140) rfl (tlt (ltI rfl liI_224 c172)).1 (by decide) (by decide) k) ?_
                refine Go.st (fun _ k => XS.iload X167.here hx rfl (hb hby d8_201) rfl k) ?_
                refine Go.st (fun _ k => XS.sipush X167.here hx rfl (hb hby d8_203) k) ?_
                have f173 := liI_240
                have c174 : v166.toInt < 240 := by omega
                refine Go.st (fun _ k => XS.icmpYes X167.here hx rfl (pc0 := 206) (pc' := 267) rfl (hb hby d8_206) rfl (tlt (ltI rfl liI_240 c174)).1 (by decide) (by decide) k) ?_
                refine Go.st (fun _ k => XS.iload X167.here hx rfl (hb hby d8_267) rfl k) ?_
                refine Go.st (fun _ k => XS.sipush X167.here hx rfl (hb hby d8_269) k) ?_
                show Go p e below s Q 0 0 (T167.setTop (mkF m 272 #[.val (.ref o), .val (.ref by0), .val (.int f0), .val (.int t0), .val (.int i9), .val (.int v166)] [(.int (128 : Int32)), (.int v166)]))
                have f175 := liI_128
                by_cases c176 : v166.toInt < 128
                ·
                  refine Go.st (fun _ k => XS.icmpYes X167.here hx rfl (pc0 := 272) (pc' := 280) rfl (hb hby d8_272) rfl (tlt (ltI rfl liI_128 c176)).1 (by decide) (by decide) k) ?_
                  refine Go.st (fun _ k => XS.iinc X167.here hx rfl (hb hby d8_280) rfl (l' := #[.val (.ref o), .val (.ref by0), .val (.int f0), .val (.int t0), .val (.int (i9 + (1 : Int32))), .val (.int v166)]) rfl k) ?_
                  show Go p e below s Q 0 0 (T167.setTop (mkF m 283 #[.val (.ref o), .val (.ref by0), .val (.int f0), .val (.int t0), .val (.int (i9 + (1 : Int32))), .val (.int v166)] []))
                  have f177 := liI_1
                  have f178 := c_iadd i9 (1 : Int32)
                  have f179 := rng32 (i9 + (1 : Int32))
                  generalize hv_v180 : (i9 + (1 : Int32)) = v180 at f178 f179 ⊢
                  refine Go.st (fun _ k => XS.goto X167.here hx rfl (pc0 := 283) (pc' := 3) rfl (hb hby d8_283) (by decide) (by decide) k) ?_
                  show Go p e below s Q 0 0 (T167.setTop (mkF m 3 #[.val (.ref o), .val (.ref by0), .val (.int f0), .val (.int t0), .val (.int v180), .val (.int v166)] []))
                  exact ihg3 _ (by omega) T167 hg10 _ (up X167 (by decide) (by decide)) e167 Ng10 Kg10 v180 p9 l9 m9 (.val (.int v166)) hfg10_0 hfg10_1 hfg10_2 hfg10_3 hfg10_4 (by omega) (by intro rq pq lq mq h; exact hpg10_1 rq pq lq mq (urun_step (n' := (t0.toInt - v180.toInt).toNat) (by omega) (by omega) (rfl : _ = (fb i9.toInt.toNat).toInt % 256) (ua2 (by omega) (by omega) (by omega) (by omega) (by omega)) h)) (One.val rfl) rfl
                ·
                  refine Go.st (fun _ k => XS.icmpNo X167.here hx rfl (hb hby d8_272) rfl (flt (nltI rfl liI_128 c176)).1 k) ?_
                  refine Go.st (fun _ k => XS.iload X167.here hx rfl (hb hby d8_275) rfl k) ?_
                  refine Go.st (fun _ k => XS.iloadN X167.here hx rfl (hb hby d8_277) rfl k) ?_
                  refine Go.st (fun _ k => XS.isub X167.here hx rfl (hb hby d8_278) rfl k) ?_
                  show Go p e below s Q 0 0 (T167.setTop (mkF m 279 #[.val (.ref o), .val (.ref by0), .val (.int f0), .val (.int t0), .val (.int i9), .val (.int v166)] [(.int (i9 - f0))]))
                  have f181 := c_isub i9 f0
                  have f182 := rng32 (i9 - f0)
                  exact Go.retI X167 hx hlk Bd.returns (hb hby d8_279) (by rw [← hQ, e167]; exact ⟨(i9 - f0), p9, l9, m9, (i9.toInt), rfl, Ng10, (by exact hpg10_1 _ _ _ _ (urun_rej (n' := (t0.toInt - i9.toInt).toNat - 1) (by omega) (rfl : _ = (fb i9.toInt.toNat).toInt % 256) (by unfold UR; omega) (by omega))), (by omega), (by omega), Kg10, hfg10_0, hfg10_1, hfg10_2, hfg10_3⟩) (by decide) (by decide)
              ·
                refine Go.st (fun _ k => XS.icmpNo X167.here hx rfl (hb hby d8_116) rfl (flt (nltI rfl liI_194 c170)).1 k) ?_
                refine Go.st (fun _ k => XS.iload X167.here hx rfl (hb hby d8_119) rfl k) ?_
                refine Go.st (fun _ k => XS.sipush X167.here hx rfl (hb hby d8_121) k) ?_
                show Go p e below s Q 0 0 (T167.setTop (mkF m 124 #[.val (.ref o), .val (.ref by0), .val (.int f0), .val (.int t0), .val (.int i9), .val (.int v166)] [(.int (223 : Int32)), (.int v166)]))
                have f183 := liI_223
                by_cases c184 : 223 < v166.toInt
                ·
                  refine Go.st (fun _ k => XS.icmpYes X167.here hx rfl (pc0 := 124) (pc' := 135) rfl (hb hby d8_124) rfl (tlt (ltI liI_223 rfl c184)).2.2.1 (by decide) (by decide) k) ?_
                  refine Go.st (fun _ k => XS.iload X167.here hx rfl (hb hby d8_135) rfl k) ?_
                  refine Go.st (fun _ k => XS.sipush X167.here hx rfl (hb hby d8_137) k) ?_
                  have f185 := liI_224
                  have c186 : ¬ (v166.toInt < 224) := by omega
                  refine Go.st (fun _ k => XS.icmpNo X167.here hx rfl (hb hby d8_140) rfl (flt (nltI rfl liI_224 c186)).1 k) ?_
                  refine Go.st (fun _ k => XS.iload X167.here hx rfl (hb hby d8_143) rfl k) ?_
                  refine Go.st (fun _ k => XS.sipush X167.here hx rfl (hb hby d8_145) k) ?_
                  show Go p e below s Q 0 0 (T167.setTop (mkF m 148 #[.val (.ref o), .val (.ref by0), .val (.int f0), .val (.int t0), .val (.int i9), .val (.int v166)] [(.int (239 : Int32)), (.int v166)]))
                  have f187 := liI_239
                  by_cases c188 : 239 < v166.toInt
                  ·
                    refine Go.st (fun _ k => XS.icmpYes X167.here hx rfl (pc0 := 148) (pc' := 201) rfl (hb hby d8_148) rfl (tlt (ltI liI_239 rfl c188)).2.2.1 (by decide) (by decide) k) ?_
                    refine Go.st (fun _ k => XS.iload X167.here hx rfl (hb hby d8_201) rfl k) ?_
                    refine Go.st (fun _ k => XS.sipush X167.here hx rfl (hb hby d8_203) k) ?_
                    have f189 := liI_240
                    have c190 : ¬ (v166.toInt < 240) := by omega
                    refine Go.st (fun _ k => XS.icmpNo X167.here hx rfl (hb hby d8_206) rfl (flt (nltI rfl liI_240 c190)).1 k) ?_
                    refine Go.st (fun _ k => XS.iload X167.here hx rfl (hb hby d8_209) rfl k) ?_
                    refine Go.st (fun _ k => XS.sipush X167.here hx rfl (hb hby d8_211) k) ?_
                    show Go p e below s Q 0 0 (T167.setTop (mkF m 214 #[.val (.ref o), .val (.ref by0), .val (.int f0), .val (.int t0), .val (.int i9), .val (.int v166)] [(.int (244 : Int32)), (.int v166)]))
                    have f191 := liI_244
                    by_cases c192 : 244 < v166.toInt
                    ·
                      refine Go.st (fun _ k => XS.icmpYes X167.here hx rfl (pc0 := 214) (pc' := 267) rfl (hb hby d8_214) rfl (tlt (ltI liI_244 rfl c192)).2.2.1 (by decide) (by decide) k) ?_
                      refine Go.st (fun _ k => XS.iload X167.here hx rfl (hb hby d8_267) rfl k) ?_
                      refine Go.st (fun _ k => XS.sipush X167.here hx rfl (hb hby d8_269) k) ?_
                      have f193 := liI_128
                      have c194 : ¬ (v166.toInt < 128) := by omega
                      refine Go.st (fun _ k => XS.icmpNo X167.here hx rfl (hb hby d8_272) rfl (flt (nltI rfl liI_128 c194)).1 k) ?_
                      refine Go.st (fun _ k => XS.iload X167.here hx rfl (hb hby d8_275) rfl k) ?_
                      refine Go.st (fun _ k => XS.iloadN X167.here hx rfl (hb hby d8_277) rfl k) ?_
                      show Go p e below s Q 0 0 (T167.setTop (mkF m 278 #[.val (.ref o), .val (.ref by0), .val (.int f0), .val (.int t0), .val (.int i9), .val (.int v166)] [(.int f0), (.int i9)]))
                      refine Go.st (fun _ k => XS.isub X167.here hx rfl (hb hby d8_278) rfl k) ?_
                      show Go p e below s Q 0 0 (T167.setTop (mkF m 279 #[.val (.ref o), .val (.ref by0), .val (.int f0), .val (.int t0), .val (.int i9), .val (.int v166)] [(.int (i9 - f0))]))
                      have f195 := c_isub i9 f0
                      have f196 := rng32 (i9 - f0)
                      exact Go.retI X167 hx hlk Bd.returns (hb hby d8_279) (by rw [← hQ, e167]; exact ⟨(i9 - f0), p9, l9, m9, (i9.toInt), rfl, Ng10, (by exact hpg10_1 _ _ _ _ (urun_rej (n' := (t0.toInt - i9.toInt).toNat - 1) (by omega) (rfl : _ = (fb i9.toInt.toNat).toInt % 256) (by unfold UR; omega) (by omega))), (by omega), (by omega), Kg10, hfg10_0, hfg10_1, hfg10_2, hfg10_3⟩) (by decide) (by decide)
                    ·
                      refine Go.st (fun _ k => XS.icmpNo X167.here hx rfl (hb hby d8_214) rfl (flt (nltI liI_244 rfl c192)).2.2.1 k) ?_
                      show Go p e below s Q 0 0 (T167.setTop (mkF m 217 #[.val (.ref o), .val (.ref by0), .val (.int f0), .val (.int t0), .val (.int i9), .val (.int v166)] []))
                      refine Go.st (fun _ k => XS.aloadN X167.here hx rfl (hb hby d8_217) rfl rfl k) ?_
                      refine Go.st (fun _ k => XS.iconst X167.here hx rfl (hb hby d8_218) k) ?_
                      obtain ⟨T197, h197, X197, e197, W197, st197⟩ := putF X167 hx hZ hown (host := "") (Or.inl (hw _ (List.mem_of_getElem? (i := 44) rfl))) Via.refl e167 hfg10_1 hfg10_0 (Or.inl (hw _ (List.mem_of_getElem? (i := 45) rfl))) (hw _ (List.mem_of_getElem? (i := 22) rfl)) (ty := .int) (by decide) rfl rfl (g := (mkF m 219 #[.val (.ref o), .val (.ref by0), .val (.int f0), .val (.int t0), .val (.int i9), .val (.int v166)] [(.int (3 : Int32)), (.ref o)])) rfl rfl (hb hby d8_219)
                      have h198 : Exa Z h197 o "com/example/ballast/ballast/json/Utf8" := hfg10_0.wr W197
                      have h199 : Fld Z h197 o "com/example/ballast/ballast/json/Utf8" "pending" "I" (.int (3 : Int32)) := hfg10_1.same W197
                      have h200 : Fld Z h197 o "com/example/ballast/ballast/json/Utf8" "least" "I" (.int l9) := hfg10_2.other W197 (Or.inr (sn_4 hw))
                      have h201 : Fld Z h197 o "com/example/ballast/ballast/json/Utf8" "most" "I" (.int m9) := hfg10_3.other W197 (Or.inr (sn_5 hw))
                      have h202 : Vec Z h197 by0 .byte (6 : Int32) (ints fb) := hfg10_4.other W197 hne
                      have K197 : Keep h0 h197 [o] := Kg10.wr W197 (Or.inl (List.mem_of_getElem? (i := 0) rfl))
                      have N197 := Fr.snoc X197 Ng10 hG
                      refine Go.st st197 ?_
                      show Go p e below s Q 0 0 (T197.setTop (mkF m 222 #[.val (.ref o), .val (.ref by0), .val (.int f0), .val (.int t0), .val (.int i9), .val (.int v166)] []))
                      refine Go.st (fun _ k => XS.aloadN X197.here hx rfl (hb hby d8_222) rfl rfl k) ?_
                      refine Go.st (fun _ k => XS.iload X197.here hx rfl (hb hby d8_223) rfl k) ?_
                      refine Go.st (fun _ k => XS.sipush X197.here hx rfl (hb hby d8_225) k) ?_
                      show Go p e below s Q 0 0 (T197.setTop (mkF m 228 #[.val (.ref o), .val (.ref by0), .val (.int f0), .val (.int t0), .val (.int i9), .val (.int v166)] [(.int (240 : Int32)), (.int v166), (.ref o)]))
                      suffices J204 : ∀ (j203 : Int32), ((v166.toInt = 240 ∧ j203.toInt = 144) ∨ (¬ v166.toInt = 240 ∧ j203.toInt = 128)) → Go p e below s Q 0 0 (T197.setTop (mkF m 240 #[.val (.ref o), .val (.ref by0), .val (.int f0), .val (.int t0), .val (.int i9), .val (.int v166)] [(.int j203), (.ref o)])) by
                        by_cases c206 : v166.toInt = 240
                        ·
                          refine Go.st (fun _ k => XS.icmpNo X197.here hx rfl (hb hby d8_228) rfl (teq (eqI rfl liI_240 c206)).2 k) ?_
                          refine Go.st (fun _ k => XS.sipush X197.here hx rfl (hb hby d8_231) k) ?_
                          refine Go.st (fun _ k => XS.goto X197.here hx rfl (pc0 := 234) (pc' := 240) rfl (hb hby d8_234) (by decide) (by decide) k) ?_
                          show Go p e below s Q 0 0 (T197.setTop (mkF m 240 #[.val (.ref o), .val (.ref by0), .val (.int f0), .val (.int t0), .val (.int i9), .val (.int v166)] [(.int (144 : Int32)), (.ref o)]))
                          have f207 := liI_144
                          exact J204 (144 : Int32) (by omega)
                        ·
                          refine Go.st (fun _ k => XS.icmpYes X197.here hx rfl (pc0 := 228) (pc' := 237) rfl (hb hby d8_228) rfl (feq (neI rfl liI_240 c206)).2 (by decide) (by decide) k) ?_
                          refine Go.st (fun _ k => XS.sipush X197.here hx rfl (hb hby d8_237) k) ?_
                          show Go p e below s Q 0 0 (T197.setTop (mkF m 240 #[.val (.ref o), .val (.ref by0), .val (.int f0), .val (.int t0), .val (.int i9), .val (.int v166)] [(.int (128 : Int32)), (.ref o)]))
                          have f208 := liI_128
                          exact J204 (128 : Int32) (by omega)
                      intro j203 f209
                      have f210 := rng32 j203
                      obtain ⟨T211, h211, X211, e211, W211, st211⟩ := putF X197 hx hZ hown (host := "") (Or.inl (hw _ (List.mem_of_getElem? (i := 30) rfl))) Via.refl e197 h200 h198 (Or.inl (hw _ (List.mem_of_getElem? (i := 31) rfl))) (hw _ (List.mem_of_getElem? (i := 22) rfl)) (ty := .int) (by decide) rfl rfl (g := (mkF m 240 #[.val (.ref o), .val (.ref by0), .val (.int f0), .val (.int t0), .val (.int i9), .val (.int v166)] [(.int j203), (.ref o)])) rfl rfl (hb hby d8_240)
                      have h212 : Exa Z h211 o "com/example/ballast/ballast/json/Utf8" := h198.wr W211
                      have h213 : Fld Z h211 o "com/example/ballast/ballast/json/Utf8" "pending" "I" (.int (3 : Int32)) := h199.other W211 (Or.inr (sn_0 hw))
                      have h214 : Fld Z h211 o "com/example/ballast/ballast/json/Utf8" "least" "I" (.int j203) := h200.same W211
                      have h215 : Fld Z h211 o "com/example/ballast/ballast/json/Utf8" "most" "I" (.int m9) := h201.other W211 (Or.inr (sn_1 hw))
                      have h216 : Vec Z h211 by0 .byte (6 : Int32) (ints fb) := h202.other W211 hne
                      have K211 : Keep h0 h211 [o] := K197.wr W211 (Or.inl (List.mem_of_getElem? (i := 0) rfl))
                      have N211 := Fr.snoc X211 N197 hG
                      refine Go.st st211 ?_
                      show Go p e below s Q 0 0 (T211.setTop (mkF m 243 #[.val (.ref o), .val (.ref by0), .val (.int f0), .val (.int t0), .val (.int i9), .val (.int v166)] []))
                      refine Go.st (fun _ k => XS.aloadN X211.here hx rfl (hb hby d8_243) rfl rfl k) ?_
                      refine Go.st (fun _ k => XS.iload X211.here hx rfl (hb hby d8_244) rfl k) ?_
                      refine Go.st (fun _ k => XS.sipush X211.here hx rfl (hb hby d8_246) k) ?_
                      show Go p e below s Q 0 0 (T211.setTop (mkF m 249 #[.val (.ref o), .val (.ref by0), .val (.int f0), .val (.int t0), .val (.int i9), .val (.int v166)] [(.int (244 : Int32)), (.int v166), (.ref o)]))
                      suffices J218 : ∀ (j217 : Int32), ((v166.toInt = 244 ∧ j217.toInt = 143) ∨ (¬ v166.toInt = 244 ∧ j217.toInt = 191)) → Go p e below s Q 0 0 (T211.setTop (mkF m 261 #[.val (.ref o), .val (.ref by0), .val (.int f0), .val (.int t0), .val (.int i9), .val (.int v166)] [(.int j217), (.ref o)])) by
                        by_cases c220 : v166.toInt = 244
                        ·
                          refine Go.st (fun _ k => XS.icmpNo X211.here hx rfl (hb hby d8_249) rfl (teq (eqI rfl liI_244 c220)).2 k) ?_
                          refine Go.st (fun _ k => XS.sipush X211.here hx rfl (hb hby d8_252) k) ?_
                          refine Go.st (fun _ k => XS.goto X211.here hx rfl (pc0 := 255) (pc' := 261) rfl (hb hby d8_255) (by decide) (by decide) k) ?_
                          show Go p e below s Q 0 0 (T211.setTop (mkF m 261 #[.val (.ref o), .val (.ref by0), .val (.int f0), .val (.int t0), .val (.int i9), .val (.int v166)] [(.int (143 : Int32)), (.ref o)]))
                          have f221 := liI_143
                          exact J218 (143 : Int32) (by omega)
                        ·
                          refine Go.st (fun _ k => XS.icmpYes X211.here hx rfl (pc0 := 249) (pc' := 258) rfl (hb hby d8_249) rfl (feq (neI rfl liI_244 c220)).2 (by decide) (by decide) k) ?_
                          refine Go.st (fun _ k => XS.sipush X211.here hx rfl (hb hby d8_258) k) ?_
                          show Go p e below s Q 0 0 (T211.setTop (mkF m 261 #[.val (.ref o), .val (.ref by0), .val (.int f0), .val (.int t0), .val (.int i9), .val (.int v166)] [(.int (191 : Int32)), (.ref o)]))
                          have f222 := liI_191
                          exact J218 (191 : Int32) (by omega)
                      intro j217 f223
                      have f224 := rng32 j217
                      obtain ⟨T225, h225, X225, e225, W225, st225⟩ := putF X211 hx hZ hown (host := "") (Or.inl (hw _ (List.mem_of_getElem? (i := 32) rfl))) Via.refl e211 h215 h212 (Or.inl (hw _ (List.mem_of_getElem? (i := 33) rfl))) (hw _ (List.mem_of_getElem? (i := 22) rfl)) (ty := .int) (by decide) rfl rfl (g := (mkF m 261 #[.val (.ref o), .val (.ref by0), .val (.int f0), .val (.int t0), .val (.int i9), .val (.int v166)] [(.int j217), (.ref o)])) rfl rfl (hb hby d8_261)
                      have h226 : Exa Z h225 o "com/example/ballast/ballast/json/Utf8" := h212.wr W225
                      have h227 : Fld Z h225 o "com/example/ballast/ballast/json/Utf8" "pending" "I" (.int (3 : Int32)) := h213.other W225 (Or.inr (sn_2 hw))
                      have h228 : Fld Z h225 o "com/example/ballast/ballast/json/Utf8" "least" "I" (.int j203) := h214.other W225 (Or.inr (sn_3 hw))
                      have h229 : Fld Z h225 o "com/example/ballast/ballast/json/Utf8" "most" "I" (.int j217) := h215.same W225
                      have h230 : Vec Z h225 by0 .byte (6 : Int32) (ints fb) := h216.other W225 hne
                      have K225 : Keep h0 h225 [o] := K211.wr W225 (Or.inl (List.mem_of_getElem? (i := 0) rfl))
                      have N225 := Fr.snoc X225 N211 hG
                      refine Go.st st225 ?_
                      show Go p e below s Q 0 0 (T225.setTop (mkF m 264 #[.val (.ref o), .val (.ref by0), .val (.int f0), .val (.int t0), .val (.int i9), .val (.int v166)] []))
                      refine Go.st (fun _ k => XS.goto X225.here hx rfl (pc0 := 264) (pc' := 280) rfl (hb hby d8_264) (by decide) (by decide) k) ?_
                      refine Go.st (fun _ k => XS.iinc X225.here hx rfl (hb hby d8_280) rfl (l' := #[.val (.ref o), .val (.ref by0), .val (.int f0), .val (.int t0), .val (.int (i9 + (1 : Int32))), .val (.int v166)]) rfl k) ?_
                      show Go p e below s Q 0 0 (T225.setTop (mkF m 283 #[.val (.ref o), .val (.ref by0), .val (.int f0), .val (.int t0), .val (.int (i9 + (1 : Int32))), .val (.int v166)] []))
                      have f231 := liI_1
                      have f232 := c_iadd i9 (1 : Int32)
                      have f233 := rng32 (i9 + (1 : Int32))
                      generalize hv_v234 : (i9 + (1 : Int32)) = v234 at f232 f233 ⊢
                      refine Go.st (fun _ k => XS.goto X225.here hx rfl (pc0 := 283) (pc' := 3) rfl (hb hby d8_283) (by decide) (by decide) k) ?_
                      show Go p e below s Q 0 0 (T225.setTop (mkF m 3 #[.val (.ref o), .val (.ref by0), .val (.int f0), .val (.int t0), .val (.int v234), .val (.int v166)] []))
                      have f235 := liI_3
                      exact ihg3 _ (by omega) T225 h225 _ (up X225 (by decide) (by decide)) e225 N225 K225 v234 (3 : Int32) j203 j217 (.val (.int v166)) h226 h227 h228 h229 h230 (by omega) (by intro rq pq lq mq h; exact hpg10_1 rq pq lq mq (urun_step (n' := (t0.toInt - v234.toInt).toNat) (by omega) (by omega) (rfl : _ = (fb i9.toInt.toNat).toInt % 256) (ua5 (by omega) (by omega) (by omega) (by omega) (d := v166.toInt) (by omega) f209 f223) h)) (One.val rfl) rfl
                  ·
                    refine Go.st (fun _ k => XS.icmpNo X167.here hx rfl (hb hby d8_148) rfl (flt (nltI liI_239 rfl c188)).2.2.1 k) ?_
                    show Go p e below s Q 0 0 (T167.setTop (mkF m 151 #[.val (.ref o), .val (.ref by0), .val (.int f0), .val (.int t0), .val (.int i9), .val (.int v166)] []))
                    refine Go.st (fun _ k => XS.aloadN X167.here hx rfl (hb hby d8_151) rfl rfl k) ?_
                    refine Go.st (fun _ k => XS.iconst X167.here hx rfl (hb hby d8_152) k) ?_
                    obtain ⟨T236, h236, X236, e236, W236, st236⟩ := putF X167 hx hZ hown (host := "") (Or.inl (hw _ (List.mem_of_getElem? (i := 44) rfl))) Via.refl e167 hfg10_1 hfg10_0 (Or.inl (hw _ (List.mem_of_getElem? (i := 45) rfl))) (hw _ (List.mem_of_getElem? (i := 22) rfl)) (ty := .int) (by decide) rfl rfl (g := (mkF m 153 #[.val (.ref o), .val (.ref by0), .val (.int f0), .val (.int t0), .val (.int i9), .val (.int v166)] [(.int (2 : Int32)), (.ref o)])) rfl rfl (hb hby d8_153)
                    have h237 : Exa Z h236 o "com/example/ballast/ballast/json/Utf8" := hfg10_0.wr W236
                    have h238 : Fld Z h236 o "com/example/ballast/ballast/json/Utf8" "pending" "I" (.int (2 : Int32)) := hfg10_1.same W236
                    have h239 : Fld Z h236 o "com/example/ballast/ballast/json/Utf8" "least" "I" (.int l9) := hfg10_2.other W236 (Or.inr (sn_4 hw))
                    have h240 : Fld Z h236 o "com/example/ballast/ballast/json/Utf8" "most" "I" (.int m9) := hfg10_3.other W236 (Or.inr (sn_5 hw))
                    have h241 : Vec Z h236 by0 .byte (6 : Int32) (ints fb) := hfg10_4.other W236 hne
                    have K236 : Keep h0 h236 [o] := Kg10.wr W236 (Or.inl (List.mem_of_getElem? (i := 0) rfl))
                    have N236 := Fr.snoc X236 Ng10 hG
                    refine Go.st st236 ?_
                    show Go p e below s Q 0 0 (T236.setTop (mkF m 156 #[.val (.ref o), .val (.ref by0), .val (.int f0), .val (.int t0), .val (.int i9), .val (.int v166)] []))
                    refine Go.st (fun _ k => XS.aloadN X236.here hx rfl (hb hby d8_156) rfl rfl k) ?_
                    refine Go.st (fun _ k => XS.iload X236.here hx rfl (hb hby d8_157) rfl k) ?_
                    refine Go.st (fun _ k => XS.sipush X236.here hx rfl (hb hby d8_159) k) ?_
                    show Go p e below s Q 0 0 (T236.setTop (mkF m 162 #[.val (.ref o), .val (.ref by0), .val (.int f0), .val (.int t0), .val (.int i9), .val (.int v166)] [(.int (224 : Int32)), (.int v166), (.ref o)]))
                    suffices J243 : ∀ (j242 : Int32), ((v166.toInt = 224 ∧ j242.toInt = 160) ∨ (¬ v166.toInt = 224 ∧ j242.toInt = 128)) → Go p e below s Q 0 0 (T236.setTop (mkF m 174 #[.val (.ref o), .val (.ref by0), .val (.int f0), .val (.int t0), .val (.int i9), .val (.int v166)] [(.int j242), (.ref o)])) by
                      by_cases c245 : v166.toInt = 224
                      ·
                        refine Go.st (fun _ k => XS.icmpNo X236.here hx rfl (hb hby d8_162) rfl (teq (eqI rfl liI_224 c245)).2 k) ?_
                        refine Go.st (fun _ k => XS.sipush X236.here hx rfl (hb hby d8_165) k) ?_
                        refine Go.st (fun _ k => XS.goto X236.here hx rfl (pc0 := 168) (pc' := 174) rfl (hb hby d8_168) (by decide) (by decide) k) ?_
                        show Go p e below s Q 0 0 (T236.setTop (mkF m 174 #[.val (.ref o), .val (.ref by0), .val (.int f0), .val (.int t0), .val (.int i9), .val (.int v166)] [(.int (160 : Int32)), (.ref o)]))
                        have f246 := liI_160
                        exact J243 (160 : Int32) (by omega)
                      ·
                        refine Go.st (fun _ k => XS.icmpYes X236.here hx rfl (pc0 := 162) (pc' := 171) rfl (hb hby d8_162) rfl (feq (neI rfl liI_224 c245)).2 (by decide) (by decide) k) ?_
                        refine Go.st (fun _ k => XS.sipush X236.here hx rfl (hb hby d8_171) k) ?_
                        show Go p e below s Q 0 0 (T236.setTop (mkF m 174 #[.val (.ref o), .val (.ref by0), .val (.int f0), .val (.int t0), .val (.int i9), .val (.int v166)] [(.int (128 : Int32)), (.ref o)]))
                        have f247 := liI_128
                        exact J243 (128 : Int32) (by omega)
                    intro j242 f248
                    have f249 := rng32 j242
                    obtain ⟨T250, h250, X250, e250, W250, st250⟩ := putF X236 hx hZ hown (host := "") (Or.inl (hw _ (List.mem_of_getElem? (i := 30) rfl))) Via.refl e236 h239 h237 (Or.inl (hw _ (List.mem_of_getElem? (i := 31) rfl))) (hw _ (List.mem_of_getElem? (i := 22) rfl)) (ty := .int) (by decide) rfl rfl (g := (mkF m 174 #[.val (.ref o), .val (.ref by0), .val (.int f0), .val (.int t0), .val (.int i9), .val (.int v166)] [(.int j242), (.ref o)])) rfl rfl (hb hby d8_174)
                    have h251 : Exa Z h250 o "com/example/ballast/ballast/json/Utf8" := h237.wr W250
                    have h252 : Fld Z h250 o "com/example/ballast/ballast/json/Utf8" "pending" "I" (.int (2 : Int32)) := h238.other W250 (Or.inr (sn_0 hw))
                    have h253 : Fld Z h250 o "com/example/ballast/ballast/json/Utf8" "least" "I" (.int j242) := h239.same W250
                    have h254 : Fld Z h250 o "com/example/ballast/ballast/json/Utf8" "most" "I" (.int m9) := h240.other W250 (Or.inr (sn_1 hw))
                    have h255 : Vec Z h250 by0 .byte (6 : Int32) (ints fb) := h241.other W250 hne
                    have K250 : Keep h0 h250 [o] := K236.wr W250 (Or.inl (List.mem_of_getElem? (i := 0) rfl))
                    have N250 := Fr.snoc X250 N236 hG
                    refine Go.st st250 ?_
                    show Go p e below s Q 0 0 (T250.setTop (mkF m 177 #[.val (.ref o), .val (.ref by0), .val (.int f0), .val (.int t0), .val (.int i9), .val (.int v166)] []))
                    refine Go.st (fun _ k => XS.aloadN X250.here hx rfl (hb hby d8_177) rfl rfl k) ?_
                    refine Go.st (fun _ k => XS.iload X250.here hx rfl (hb hby d8_178) rfl k) ?_
                    refine Go.st (fun _ k => XS.sipush X250.here hx rfl (hb hby d8_180) k) ?_
                    show Go p e below s Q 0 0 (T250.setTop (mkF m 183 #[.val (.ref o), .val (.ref by0), .val (.int f0), .val (.int t0), .val (.int i9), .val (.int v166)] [(.int (237 : Int32)), (.int v166), (.ref o)]))
                    suffices J257 : ∀ (j256 : Int32), ((v166.toInt = 237 ∧ j256.toInt = 159) ∨ (¬ v166.toInt = 237 ∧ j256.toInt = 191)) → Go p e below s Q 0 0 (T250.setTop (mkF m 195 #[.val (.ref o), .val (.ref by0), .val (.int f0), .val (.int t0), .val (.int i9), .val (.int v166)] [(.int j256), (.ref o)])) by
                      have f259 := liI_237
                      by_cases c260 : v166.toInt = 237
                      ·
                        refine Go.st (fun _ k => XS.icmpNo X250.here hx rfl (hb hby d8_183) rfl (teq (eqI rfl liI_237 c260)).2 k) ?_
                        refine Go.st (fun _ k => XS.sipush X250.here hx rfl (hb hby d8_186) k) ?_
                        refine Go.st (fun _ k => XS.goto X250.here hx rfl (pc0 := 189) (pc' := 195) rfl (hb hby d8_189) (by decide) (by decide) k) ?_
                        show Go p e below s Q 0 0 (T250.setTop (mkF m 195 #[.val (.ref o), .val (.ref by0), .val (.int f0), .val (.int t0), .val (.int i9), .val (.int v166)] [(.int (159 : Int32)), (.ref o)]))
                        have f261 := liI_159
                        exact J257 (159 : Int32) (by omega)
                      ·
                        refine Go.st (fun _ k => XS.icmpYes X250.here hx rfl (pc0 := 183) (pc' := 192) rfl (hb hby d8_183) rfl (feq (neI rfl liI_237 c260)).2 (by decide) (by decide) k) ?_
                        refine Go.st (fun _ k => XS.sipush X250.here hx rfl (hb hby d8_192) k) ?_
                        show Go p e below s Q 0 0 (T250.setTop (mkF m 195 #[.val (.ref o), .val (.ref by0), .val (.int f0), .val (.int t0), .val (.int i9), .val (.int v166)] [(.int (191 : Int32)), (.ref o)]))
                        have f262 := liI_191
                        exact J257 (191 : Int32) (by omega)
                    intro j256 f263
                    have f264 := rng32 j256
                    obtain ⟨T265, h265, X265, e265, W265, st265⟩ := putF X250 hx hZ hown (host := "") (Or.inl (hw _ (List.mem_of_getElem? (i := 32) rfl))) Via.refl e250 h254 h251 (Or.inl (hw _ (List.mem_of_getElem? (i := 33) rfl))) (hw _ (List.mem_of_getElem? (i := 22) rfl)) (ty := .int) (by decide) rfl rfl (g := (mkF m 195 #[.val (.ref o), .val (.ref by0), .val (.int f0), .val (.int t0), .val (.int i9), .val (.int v166)] [(.int j256), (.ref o)])) rfl rfl (hb hby d8_195)
                    have h266 : Exa Z h265 o "com/example/ballast/ballast/json/Utf8" := h251.wr W265
                    have h267 : Fld Z h265 o "com/example/ballast/ballast/json/Utf8" "pending" "I" (.int (2 : Int32)) := h252.other W265 (Or.inr (sn_2 hw))
                    have h268 : Fld Z h265 o "com/example/ballast/ballast/json/Utf8" "least" "I" (.int j242) := h253.other W265 (Or.inr (sn_3 hw))
                    have h269 : Fld Z h265 o "com/example/ballast/ballast/json/Utf8" "most" "I" (.int j256) := h254.same W265
                    have h270 : Vec Z h265 by0 .byte (6 : Int32) (ints fb) := h255.other W265 hne
                    have K265 : Keep h0 h265 [o] := K250.wr W265 (Or.inl (List.mem_of_getElem? (i := 0) rfl))
                    have N265 := Fr.snoc X265 N250 hG
                    refine Go.st st265 ?_
                    show Go p e below s Q 0 0 (T265.setTop (mkF m 198 #[.val (.ref o), .val (.ref by0), .val (.int f0), .val (.int t0), .val (.int i9), .val (.int v166)] []))
                    refine Go.st (fun _ k => XS.goto X265.here hx rfl (pc0 := 198) (pc' := 280) rfl (hb hby d8_198) (by decide) (by decide) k) ?_
                    refine Go.st (fun _ k => XS.iinc X265.here hx rfl (hb hby d8_280) rfl (l' := #[.val (.ref o), .val (.ref by0), .val (.int f0), .val (.int t0), .val (.int (i9 + (1 : Int32))), .val (.int v166)]) rfl k) ?_
                    show Go p e below s Q 0 0 (T265.setTop (mkF m 283 #[.val (.ref o), .val (.ref by0), .val (.int f0), .val (.int t0), .val (.int (i9 + (1 : Int32))), .val (.int v166)] []))
                    have f271 := liI_1
                    have f272 := c_iadd i9 (1 : Int32)
                    have f273 := rng32 (i9 + (1 : Int32))
                    generalize hv_v274 : (i9 + (1 : Int32)) = v274 at f272 f273 ⊢
                    refine Go.st (fun _ k => XS.goto X265.here hx rfl (pc0 := 283) (pc' := 3) rfl (hb hby d8_283) (by decide) (by decide) k) ?_
                    show Go p e below s Q 0 0 (T265.setTop (mkF m 3 #[.val (.ref o), .val (.ref by0), .val (.int f0), .val (.int t0), .val (.int v274), .val (.int v166)] []))
                    have f275 := liI_2
                    exact ihg3 _ (by omega) T265 h265 _ (up X265 (by decide) (by decide)) e265 N265 K265 v274 (2 : Int32) j242 j256 (.val (.int v166)) h266 h267 h268 h269 h270 (by omega) (by intro rq pq lq mq h; exact hpg10_1 rq pq lq mq (urun_step (n' := (t0.toInt - v274.toInt).toNat) (by omega) (by omega) (rfl : _ = (fb i9.toInt.toNat).toInt % 256) (ua4 (by omega) (by omega) (by omega) (by omega) (d := v166.toInt) (by omega) f248 f263) h)) (One.val rfl) rfl
                ·
                  refine Go.st (fun _ k => XS.icmpNo X167.here hx rfl (hb hby d8_124) rfl (flt (nltI liI_223 rfl c184)).2.2.1 k) ?_
                  show Go p e below s Q 0 0 (T167.setTop (mkF m 127 #[.val (.ref o), .val (.ref by0), .val (.int f0), .val (.int t0), .val (.int i9), .val (.int v166)] []))
                  refine Go.st (fun _ k => XS.aloadN X167.here hx rfl (hb hby d8_127) rfl rfl k) ?_
                  refine Go.st (fun _ k => XS.iconst X167.here hx rfl (hb hby d8_128) k) ?_
                  obtain ⟨T276, h276, X276, e276, W276, st276⟩ := putF X167 hx hZ hown (host := "") (Or.inl (hw _ (List.mem_of_getElem? (i := 44) rfl))) Via.refl e167 hfg10_1 hfg10_0 (Or.inl (hw _ (List.mem_of_getElem? (i := 45) rfl))) (hw _ (List.mem_of_getElem? (i := 22) rfl)) (ty := .int) (by decide) rfl rfl (g := (mkF m 129 #[.val (.ref o), .val (.ref by0), .val (.int f0), .val (.int t0), .val (.int i9), .val (.int v166)] [(.int (1 : Int32)), (.ref o)])) rfl rfl (hb hby d8_129)
                  have h277 : Exa Z h276 o "com/example/ballast/ballast/json/Utf8" := hfg10_0.wr W276
                  have h278 : Fld Z h276 o "com/example/ballast/ballast/json/Utf8" "pending" "I" (.int (1 : Int32)) := hfg10_1.same W276
                  have h279 : Fld Z h276 o "com/example/ballast/ballast/json/Utf8" "least" "I" (.int l9) := hfg10_2.other W276 (Or.inr (sn_4 hw))
                  have h280 : Fld Z h276 o "com/example/ballast/ballast/json/Utf8" "most" "I" (.int m9) := hfg10_3.other W276 (Or.inr (sn_5 hw))
                  have h281 : Vec Z h276 by0 .byte (6 : Int32) (ints fb) := hfg10_4.other W276 hne
                  have K276 : Keep h0 h276 [o] := Kg10.wr W276 (Or.inl (List.mem_of_getElem? (i := 0) rfl))
                  have N276 := Fr.snoc X276 Ng10 hG
                  refine Go.st st276 ?_
                  show Go p e below s Q 0 0 (T276.setTop (mkF m 132 #[.val (.ref o), .val (.ref by0), .val (.int f0), .val (.int t0), .val (.int i9), .val (.int v166)] []))
                  refine Go.st (fun _ k => XS.goto X276.here hx rfl (pc0 := 132) (pc' := 280) rfl (hb hby d8_132) (by decide) (by decide) k) ?_
                  refine Go.st (fun _ k => XS.iinc X276.here hx rfl (hb hby d8_280) rfl (l' := #[.val (.ref o), .val (.ref by0), .val (.int f0), .val (.int t0), .val (.int (i9 + (1 : Int32))), .val (.int v166)]) rfl k) ?_
                  show Go p e below s Q 0 0 (T276.setTop (mkF m 283 #[.val (.ref o), .val (.ref by0), .val (.int f0), .val (.int t0), .val (.int (i9 + (1 : Int32))), .val (.int v166)] []))
                  have f282 := liI_1
                  have f283 := c_iadd i9 (1 : Int32)
                  have f284 := rng32 (i9 + (1 : Int32))
                  generalize hv_v285 : (i9 + (1 : Int32)) = v285 at f283 f284 ⊢
                  refine Go.st (fun _ k => XS.goto X276.here hx rfl (pc0 := 283) (pc' := 3) rfl (hb hby d8_283) (by decide) (by decide) k) ?_
                  show Go p e below s Q 0 0 (T276.setTop (mkF m 3 #[.val (.ref o), .val (.ref by0), .val (.int f0), .val (.int t0), .val (.int v285), .val (.int v166)] []))
                  exact ihg3 _ (by omega) T276 h276 _ (up X276 (by decide) (by decide)) e276 N276 K276 v285 (1 : Int32) l9 m9 (.val (.int v166)) h277 h278 h279 h280 h281 (by omega) (by intro rq pq lq mq h; exact hpg10_1 rq pq lq mq (urun_step (n' := (t0.toInt - v285.toInt).toNat) (by omega) (by omega) (rfl : _ = (fb i9.toInt.toNat).toInt % 256) (ua3 (by omega) (by omega) (by omega) (by omega) (by omega) (by omega)) h)) (One.val rfl) rfl
        ·
          refine Go.st (fun _ k => XS.ifYes X16.here hx rfl (pc0 := 13) (pc' := 35) rfl (hb hby d8_13) rfl ((if0 _ _).trans (feq (neI rfl liI_0 c18)).2) (by decide) (by decide) k) ?_
          refine Go.st (fun _ k => XS.iload X16.here hx rfl (hb hby d8_35) rfl k) ?_
          refine Go.st (fun _ k => XS.iloadN X16.here hx rfl (hb hby d8_37) rfl k) ?_
          by_cases c286 : i9.toInt = t0.toInt
          ·
            refine Go.st (fun _ k => XS.icmpNo X16.here hx rfl (hb hby d8_38) rfl (teq (eqI rfl rfl c286)).2 k) ?_
            refine Go.st (fun _ k => XS.goto X16.here hx rfl (pc0 := 41) (pc' := 286) rfl (hb hby d8_41) (by decide) (by decide) k) ?_
            refine Go.st (fun _ k => XS.iconst X16.here hx rfl (hb hby d8_286) k) ?_
            show Go p e below s Q 0 0 (T16.setTop (mkF m 287 #[.val (.ref o), .val (.ref by0), .val (.int f0), .val (.int t0), .val (.int i9), sl9] [(.int (-1 : Int32))]))
            have f287 := liI_m1
            exact Go.retI X16 hx hlk Bd.returns (hb hby d8_287) (by rw [← hQ, e16]; exact ⟨(-1 : Int32), p9, l9, m9, (-1), rfl, Ng10, (by exact hpg10_1 _ _ _ _ (urun_end (by omega))), (by omega), (by omega), Kg10, hfg10_0, hfg10_1, hfg10_2, hfg10_3⟩) (by decide) (by decide)
          ·
            refine Go.st (fun _ k => XS.icmpYes X16.here hx rfl (pc0 := 38) (pc' := 44) rfl (hb hby d8_38) rfl (feq (neI rfl rfl c286)).2 (by decide) (by decide) k) ?_
            refine Go.st (fun _ k => XS.aloadN X16.here hx rfl (hb hby d8_44) rfl rfl k) ?_
            refine Go.st (fun _ k => XS.iload X16.here hx rfl (hb hby d8_45) rfl k) ?_
            show Go p e below s Q 0 0 (T16.setTop (mkF m 47 #[.val (.ref o), .val (.ref by0), .val (.int f0), .val (.int t0), .val (.int i9), sl9] [(.int i9), (.ref by0)]))
            have f289 := liI_6
            have r290 : 0 ≤ i9.toInt := by omega
            have r291 : i9.toInt < (6 : Int32).toInt := by omega
            refine Go.st (Vec.ildB X16 hx hZ e16 hfg10_4 (j := i9) r290 r291 (g := (mkF m 47 #[.val (.ref o), .val (.ref by0), .val (.int f0), .val (.int t0), .val (.int i9), sl9] [(.int i9), (.ref by0)])) rfl rfl (hb hby d8_47)) ?_
            show Go p e below s Q 0 0 (T16.setTop (mkF m 48 #[.val (.ref o), .val (.ref by0), .val (.int f0), .val (.int t0), .val (.int i9), sl9] [(.int (fb i9.toInt.toNat))]))
            have hb_48 := hb8 i9.toInt.toNat
            refine Go.st (fun _ k => XS.sipush X16.here hx rfl (hb hby d8_48) k) ?_
            refine Go.st (fun _ k => XS.iand X16.here hx rfl (hb hby d8_51) rfl k) ?_
            refine Go.st (fun _ k => XS.istoreS X16.here hx rfl (hb hby d8_52) rfl rfl hpg10_2 k) ?_
            show Go p e below s Q 0 0 (T16.setTop (mkF m 54 #[.val (.ref o), .val (.ref by0), .val (.int f0), .val (.int t0), .val (.int i9), .val (.int ((fb i9.toInt.toNat) &&& (255 : Int32)))] []))
            have f292 := rng32 (fb i9.toInt.toNat)
            have f293 := liI_255
            have f294 : ((fb i9.toInt.toNat) &&& (255 : Int32)).toInt = (fb i9.toInt.toNat).toInt % 256 := c_mask (fb i9.toInt.toNat) (255 : Int32) 8 (by decide) (by decide)
            generalize hv_v295 : ((fb i9.toInt.toNat) &&& (255 : Int32)) = v295 at f294 ⊢
            refine Go.st (fun _ k => XS.aloadN X16.here hx rfl (hb hby d8_54) rfl rfl k) ?_
            obtain ⟨T296, X296, e296, st296⟩ := getF X16 hx hZ hown (host := "") (Or.inl (hw _ (List.mem_of_getElem? (i := 44) rfl))) Via.refl e16 hfg10_1 (g := (mkF m 55 #[.val (.ref o), .val (.ref by0), .val (.int f0), .val (.int t0), .val (.int i9), .val (.int v295)] [(.ref o)])) rfl rfl (hb hby d8_55)
            refine Go.st st296 ?_
            show Go p e below s Q 0 0 (T296.setTop (mkF m 58 #[.val (.ref o), .val (.ref by0), .val (.int f0), .val (.int t0), .val (.int i9), .val (.int v295)] [(.int p9)]))
            by_cases c297 : 0 < p9.toInt
            ·
              refine Go.st (fun _ k => XS.ifNo X296.here hx rfl (hb hby d8_58) rfl ((if0 _ _).trans (tlt (ltI liI_0 rfl c297)).2.2.2) k) ?_
              refine Go.st (fun _ k => XS.iload X296.here hx rfl (hb hby d8_61) rfl k) ?_
              refine Go.st (fun _ k => XS.aloadN X296.here hx rfl (hb hby d8_63) rfl rfl k) ?_
              obtain ⟨T298, X298, e298, st298⟩ := getF X296 hx hZ hown (host := "") (Or.inl (hw _ (List.mem_of_getElem? (i := 30) rfl))) Via.refl e296 hfg10_2 (g := (mkF m 64 #[.val (.ref o), .val (.ref by0), .val (.int f0), .val (.int t0), .val (.int i9), .val (.int v295)] [(.ref o), (.int v295)])) rfl rfl (hb hby d8_64)
              refine Go.st st298 ?_
              show Go p e below s Q 0 0 (T298.setTop (mkF m 67 #[.val (.ref o), .val (.ref by0), .val (.int f0), .val (.int t0), .val (.int i9), .val (.int v295)] [(.int l9), (.int v295)]))
              by_cases c299 : v295.toInt < l9.toInt
              ·
                refine Go.st (fun _ k => XS.icmpYes X298.here hx rfl (pc0 := 67) (pc' := 79) rfl (hb hby d8_67) rfl (tlt (ltI rfl rfl c299)).1 (by decide) (by decide) k) ?_
                refine Go.st (fun _ k => XS.iload X298.here hx rfl (hb hby d8_79) rfl k) ?_
                refine Go.st (fun _ k => XS.iloadN X298.here hx rfl (hb hby d8_81) rfl k) ?_
                refine Go.st (fun _ k => XS.isub X298.here hx rfl (hb hby d8_82) rfl k) ?_
                show Go p e below s Q 0 0 (T298.setTop (mkF m 83 #[.val (.ref o), .val (.ref by0), .val (.int f0), .val (.int t0), .val (.int i9), .val (.int v295)] [(.int (i9 - f0))]))
                have f300 := c_isub i9 f0
                have f301 := rng32 (i9 - f0)
                exact Go.retI X298 hx hlk Bd.returns (hb hby d8_83) (by rw [← hQ, e298]; exact ⟨(i9 - f0), p9, l9, m9, (i9.toInt), rfl, Ng10, (by exact hpg10_1 _ _ _ _ (urun_rej (n' := (t0.toInt - i9.toInt).toNat - 1) (by omega) (rfl : _ = (fb i9.toInt.toNat).toInt % 256) (by unfold UR; omega) (by omega))), (by omega), (by omega), Kg10, hfg10_0, hfg10_1, hfg10_2, hfg10_3⟩) (by decide) (by decide)
              ·
                refine Go.st (fun _ k => XS.icmpNo X298.here hx rfl (hb hby d8_67) rfl (flt (nltI rfl rfl c299)).1 k) ?_
                refine Go.st (fun _ k => XS.iload X298.here hx rfl (hb hby d8_70) rfl k) ?_
                refine Go.st (fun _ k => XS.aloadN X298.here hx rfl (hb hby d8_72) rfl rfl k) ?_
                obtain ⟨T302, X302, e302, st302⟩ := getF X298 hx hZ hown (host := "") (Or.inl (hw _ (List.mem_of_getElem? (i := 32) rfl))) Via.refl e298 hfg10_3 (g := (mkF m 73 #[.val (.ref o), .val (.ref by0), .val (.int f0), .val (.int t0), .val (.int i9), .val (.int v295)] [(.ref o), (.int v295)])) rfl rfl (hb hby d8_73)
                refine Go.st st302 ?_
                show Go p e below s Q 0 0 (T302.setTop (mkF m 76 #[.val (.ref o), .val (.ref by0), .val (.int f0), .val (.int t0), .val (.int i9), .val (.int v295)] [(.int m9), (.int v295)]))
                by_cases c303 : m9.toInt < v295.toInt
                ·
                  refine Go.st (fun _ k => XS.icmpNo X302.here hx rfl (hb hby d8_76) rfl (tlt (ltI rfl rfl c303)).2.2.2 k) ?_
                  refine Go.st (fun _ k => XS.iload X302.here hx rfl (hb hby d8_79) rfl k) ?_
                  refine Go.st (fun _ k => XS.iloadN X302.here hx rfl (hb hby d8_81) rfl k) ?_
                  refine Go.st (fun _ k => XS.isub X302.here hx rfl (hb hby d8_82) rfl k) ?_
                  show Go p e below s Q 0 0 (T302.setTop (mkF m 83 #[.val (.ref o), .val (.ref by0), .val (.int f0), .val (.int t0), .val (.int i9), .val (.int v295)] [(.int (i9 - f0))]))
                  have f304 := c_isub i9 f0
                  have f305 := rng32 (i9 - f0)
                  exact Go.retI X302 hx hlk Bd.returns (hb hby d8_83) (by rw [← hQ, e302]; exact ⟨(i9 - f0), p9, l9, m9, (i9.toInt), rfl, Ng10, (by exact hpg10_1 _ _ _ _ (urun_rej (n' := (t0.toInt - i9.toInt).toNat - 1) (by omega) (rfl : _ = (fb i9.toInt.toNat).toInt % 256) (by unfold UR; omega) (by omega))), (by omega), (by omega), Kg10, hfg10_0, hfg10_1, hfg10_2, hfg10_3⟩) (by decide) (by decide)
                ·
                  refine Go.st (fun _ k => XS.icmpYes X302.here hx rfl (pc0 := 76) (pc' := 84) rfl (hb hby d8_76) rfl (flt (nltI rfl rfl c303)).2.2.2 (by decide) (by decide) k) ?_
                  show Go p e below s Q 0 0 (T302.setTop (mkF m 84 #[.val (.ref o), .val (.ref by0), .val (.int f0), .val (.int t0), .val (.int i9), .val (.int v295)] []))
                  refine Go.st (fun _ k => XS.aloadN X302.here hx rfl (hb hby d8_84) rfl rfl k) ?_
                  refine Go.st (fun _ k => XS.dup X302.here hx rfl (hb hby d8_85) rfl rfl k) ?_
                  obtain ⟨T306, X306, e306, st306⟩ := getF X302 hx hZ hown (host := "") (Or.inl (hw _ (List.mem_of_getElem? (i := 44) rfl))) Via.refl e302 hfg10_1 (g := (mkF m 86 #[.val (.ref o), .val (.ref by0), .val (.int f0), .val (.int t0), .val (.int i9), .val (.int v295)] [(.ref o), (.ref o)])) rfl rfl (hb hby d8_86)
                  refine Go.st st306 ?_
                  show Go p e below s Q 0 0 (T306.setTop (mkF m 89 #[.val (.ref o), .val (.ref by0), .val (.int f0), .val (.int t0), .val (.int i9), .val (.int v295)] [(.int p9), (.ref o)]))
                  refine Go.st (fun _ k => XS.iconst X306.here hx rfl (hb hby d8_89) k) ?_
                  refine Go.st (fun _ k => XS.isub X306.here hx rfl (hb hby d8_90) rfl k) ?_
                  obtain ⟨T307, h307, X307, e307, W307, st307⟩ := putF X306 hx hZ hown (host := "") (Or.inl (hw _ (List.mem_of_getElem? (i := 44) rfl))) Via.refl e306 hfg10_1 hfg10_0 (Or.inl (hw _ (List.mem_of_getElem? (i := 45) rfl))) (hw _ (List.mem_of_getElem? (i := 22) rfl)) (ty := .int) (by decide) rfl rfl (g := (mkF m 91 #[.val (.ref o), .val (.ref by0), .val (.int f0), .val (.int t0), .val (.int i9), .val (.int v295)] [(.int (p9 - (1 : Int32))), (.ref o)])) rfl rfl (hb hby d8_91)
                  have h308 : Exa Z h307 o "com/example/ballast/ballast/json/Utf8" := hfg10_0.wr W307
                  have h309 : Fld Z h307 o "com/example/ballast/ballast/json/Utf8" "pending" "I" (.int (p9 - (1 : Int32))) := hfg10_1.same W307
                  have h310 : Fld Z h307 o "com/example/ballast/ballast/json/Utf8" "least" "I" (.int l9) := hfg10_2.other W307 (Or.inr (sn_4 hw))
                  have h311 : Fld Z h307 o "com/example/ballast/ballast/json/Utf8" "most" "I" (.int m9) := hfg10_3.other W307 (Or.inr (sn_5 hw))
                  have h312 : Vec Z h307 by0 .byte (6 : Int32) (ints fb) := hfg10_4.other W307 hne
                  have K307 : Keep h0 h307 [o] := Kg10.wr W307 (Or.inl (List.mem_of_getElem? (i := 0) rfl))
                  have N307 := Fr.snoc X307 Ng10 hG
                  refine Go.st st307 ?_
                  show Go p e below s Q 0 0 (T307.setTop (mkF m 94 #[.val (.ref o), .val (.ref by0), .val (.int f0), .val (.int t0), .val (.int i9), .val (.int v295)] []))
                  refine Go.st (fun _ k => XS.aloadN X307.here hx rfl (hb hby d8_94) rfl rfl k) ?_
                  refine Go.st (fun _ k => XS.sipush X307.here hx rfl (hb hby d8_95) k) ?_
                  obtain ⟨T313, h313, X313, e313, W313, st313⟩ := putF X307 hx hZ hown (host := "") (Or.inl (hw _ (List.mem_of_getElem? (i := 30) rfl))) Via.refl e307 h310 h308 (Or.inl (hw _ (List.mem_of_getElem? (i := 31) rfl))) (hw _ (List.mem_of_getElem? (i := 22) rfl)) (ty := .int) (by decide) rfl rfl (g := (mkF m 98 #[.val (.ref o), .val (.ref by0), .val (.int f0), .val (.int t0), .val (.int i9), .val (.int v295)] [(.int (128 : Int32)), (.ref o)])) rfl rfl (hb hby d8_98)
                  have h314 : Exa Z h313 o "com/example/ballast/ballast/json/Utf8" := h308.wr W313
                  have h315 : Fld Z h313 o "com/example/ballast/ballast/json/Utf8" "pending" "I" (.int (p9 - (1 : Int32))) := h309.other W313 (Or.inr (sn_0 hw))
                  have h316 : Fld Z h313 o "com/example/ballast/ballast/json/Utf8" "least" "I" (.int (128 : Int32)) := h310.same W313
                  have h317 : Fld Z h313 o "com/example/ballast/ballast/json/Utf8" "most" "I" (.int m9) := h311.other W313 (Or.inr (sn_1 hw))
                  have h318 : Vec Z h313 by0 .byte (6 : Int32) (ints fb) := h312.other W313 hne
                  have K313 : Keep h0 h313 [o] := K307.wr W313 (Or.inl (List.mem_of_getElem? (i := 0) rfl))
                  have N313 := Fr.snoc X313 N307 hG
                  refine Go.st st313 ?_
                  show Go p e below s Q 0 0 (T313.setTop (mkF m 101 #[.val (.ref o), .val (.ref by0), .val (.int f0), .val (.int t0), .val (.int i9), .val (.int v295)] []))
                  refine Go.st (fun _ k => XS.aloadN X313.here hx rfl (hb hby d8_101) rfl rfl k) ?_
                  refine Go.st (fun _ k => XS.sipush X313.here hx rfl (hb hby d8_102) k) ?_
                  obtain ⟨T319, h319, X319, e319, W319, st319⟩ := putF X313 hx hZ hown (host := "") (Or.inl (hw _ (List.mem_of_getElem? (i := 32) rfl))) Via.refl e313 h317 h314 (Or.inl (hw _ (List.mem_of_getElem? (i := 33) rfl))) (hw _ (List.mem_of_getElem? (i := 22) rfl)) (ty := .int) (by decide) rfl rfl (g := (mkF m 105 #[.val (.ref o), .val (.ref by0), .val (.int f0), .val (.int t0), .val (.int i9), .val (.int v295)] [(.int (191 : Int32)), (.ref o)])) rfl rfl (hb hby d8_105)
                  have h320 : Exa Z h319 o "com/example/ballast/ballast/json/Utf8" := h314.wr W319
                  have h321 : Fld Z h319 o "com/example/ballast/ballast/json/Utf8" "pending" "I" (.int (p9 - (1 : Int32))) := h315.other W319 (Or.inr (sn_2 hw))
                  have h322 : Fld Z h319 o "com/example/ballast/ballast/json/Utf8" "least" "I" (.int (128 : Int32)) := h316.other W319 (Or.inr (sn_3 hw))
                  have h323 : Fld Z h319 o "com/example/ballast/ballast/json/Utf8" "most" "I" (.int (191 : Int32)) := h317.same W319
                  have h324 : Vec Z h319 by0 .byte (6 : Int32) (ints fb) := h318.other W319 hne
                  have K319 : Keep h0 h319 [o] := K313.wr W319 (Or.inl (List.mem_of_getElem? (i := 0) rfl))
                  have N319 := Fr.snoc X319 N313 hG
                  refine Go.st st319 ?_
                  show Go p e below s Q 0 0 (T319.setTop (mkF m 108 #[.val (.ref o), .val (.ref by0), .val (.int f0), .val (.int t0), .val (.int i9), .val (.int v295)] []))
                  refine Go.st (fun _ k => XS.goto X319.here hx rfl (pc0 := 108) (pc' := 280) rfl (hb hby d8_108) (by decide) (by decide) k) ?_
                  refine Go.st (fun _ k => XS.iinc X319.here hx rfl (hb hby d8_280) rfl (l' := #[.val (.ref o), .val (.ref by0), .val (.int f0), .val (.int t0), .val (.int (i9 + (1 : Int32))), .val (.int v295)]) rfl k) ?_
                  show Go p e below s Q 0 0 (T319.setTop (mkF m 283 #[.val (.ref o), .val (.ref by0), .val (.int f0), .val (.int t0), .val (.int (i9 + (1 : Int32))), .val (.int v295)] []))
                  have f325 := liI_1
                  have f326 := c_iadd i9 (1 : Int32)
                  have f327 := rng32 (i9 + (1 : Int32))
                  generalize hv_v328 : (i9 + (1 : Int32)) = v328 at f326 f327 ⊢
                  refine Go.st (fun _ k => XS.goto X319.here hx rfl (pc0 := 283) (pc' := 3) rfl (hb hby d8_283) (by decide) (by decide) k) ?_
                  show Go p e below s Q 0 0 (T319.setTop (mkF m 3 #[.val (.ref o), .val (.ref by0), .val (.int f0), .val (.int t0), .val (.int v328), .val (.int v295)] []))
                  have f329 := c_isub p9 (1 : Int32)
                  have f330 := rng32 (p9 - (1 : Int32))
                  have f331 := liI_128
                  have f332 := liI_191
                  exact ihg3 _ (by omega) T319 h319 _ (up X319 (by decide) (by decide)) e319 N319 K319 v328 (p9 - (1 : Int32)) (128 : Int32) (191 : Int32) (.val (.int v295)) h320 h321 h322 h323 h324 (by omega) (by intro rq pq lq mq h; exact hpg10_1 rq pq lq mq (urun_step (n' := (t0.toInt - v328.toInt).toNat) (by omega) (by omega) (rfl : _ = (fb i9.toInt.toNat).toInt % 256) (ua1 (by omega) (by omega) (by omega) (by omega) (by omega) (by omega)) h)) (One.val rfl) rfl
            ·
              refine Go.st (fun _ k => XS.ifYes X296.here hx rfl (pc0 := 58) (pc' := 111) rfl (hb hby d8_58) rfl ((if0 _ _).trans (flt (nltI liI_0 rfl c297)).2.2.2) (by decide) (by decide) k) ?_
              refine Go.st (fun _ k => XS.iload X296.here hx rfl (hb hby d8_111) rfl k) ?_
              refine Go.st (fun _ k => XS.sipush X296.here hx rfl (hb hby d8_113) k) ?_
              have f333 := liI_194
              by_cases c334 : v295.toInt < 194
              ·
                refine Go.st (fun _ k => XS.icmpYes X296.here hx rfl (pc0 := 116) (pc' := 135) rfl (hb hby d8_116) rfl (tlt (ltI rfl liI_194 c334)).1 (by decide) (by decide) k) ?_
                refine Go.st (fun _ k => XS.iload X296.here hx rfl (hb hby d8_135) rfl k) ?_
                refine Go.st (fun _ k => XS.sipush X296.here hx rfl (hb hby d8_137) k) ?_
                show Go p e below s Q 0 0 (T296.setTop (mkF m 140 #[.val (.ref o), .val (.ref by0), .val (.int f0), .val (.int t0), .val (.int i9), .val (.int v295)] [(.int (224 : Int32)), (.int v295)]))
                have f335 := liI_224
                have c336 : v295.toInt < 224 := by omega
                refine Go.st (fun _ k => XS.icmpYes X296.here hx rfl (pc0 := 140) (pc' := 201) rfl (hb hby d8_140) rfl (tlt (ltI rfl liI_224 c336)).1 (by decide) (by decide) k) ?_
                refine Go.st (fun _ k => XS.iload X296.here hx rfl (hb hby d8_201) rfl k) ?_
                refine Go.st (fun _ k => XS.sipush X296.here hx rfl (hb hby d8_203) k) ?_
                have f337 := liI_240
                have c338 : v295.toInt < 240 := by omega
                refine Go.st (fun _ k => XS.icmpYes X296.here hx rfl (pc0 := 206) (pc' := 267) rfl (hb hby d8_206) rfl (tlt (ltI rfl liI_240 c338)).1 (by decide) (by decide) k) ?_
                refine Go.st (fun _ k => XS.iload X296.here hx rfl (hb hby d8_267) rfl k) ?_
                refine Go.st (fun _ k => XS.sipush X296.here hx rfl (hb hby d8_269) k) ?_
                show Go p e below s Q 0 0 (T296.setTop (mkF m 272 #[.val (.ref o), .val (.ref by0), .val (.int f0), .val (.int t0), .val (.int i9), .val (.int v295)] [(.int (128 : Int32)), (.int v295)]))
                have f339 := liI_128
                by_cases c340 : v295.toInt < 128
                ·
                  refine Go.st (fun _ k => XS.icmpYes X296.here hx rfl (pc0 := 272) (pc' := 280) rfl (hb hby d8_272) rfl (tlt (ltI rfl liI_128 c340)).1 (by decide) (by decide) k) ?_
                  refine Go.st (fun _ k => XS.iinc X296.here hx rfl (hb hby d8_280) rfl (l' := #[.val (.ref o), .val (.ref by0), .val (.int f0), .val (.int t0), .val (.int (i9 + (1 : Int32))), .val (.int v295)]) rfl k) ?_
                  show Go p e below s Q 0 0 (T296.setTop (mkF m 283 #[.val (.ref o), .val (.ref by0), .val (.int f0), .val (.int t0), .val (.int (i9 + (1 : Int32))), .val (.int v295)] []))
                  have f341 := liI_1
                  have f342 := c_iadd i9 (1 : Int32)
                  have f343 := rng32 (i9 + (1 : Int32))
                  generalize hv_v344 : (i9 + (1 : Int32)) = v344 at f342 f343 ⊢
                  refine Go.st (fun _ k => XS.goto X296.here hx rfl (pc0 := 283) (pc' := 3) rfl (hb hby d8_283) (by decide) (by decide) k) ?_
                  show Go p e below s Q 0 0 (T296.setTop (mkF m 3 #[.val (.ref o), .val (.ref by0), .val (.int f0), .val (.int t0), .val (.int v344), .val (.int v295)] []))
                  exact ihg3 _ (by omega) T296 hg10 _ (up X296 (by decide) (by decide)) e296 Ng10 Kg10 v344 p9 l9 m9 (.val (.int v295)) hfg10_0 hfg10_1 hfg10_2 hfg10_3 hfg10_4 (by omega) (by intro rq pq lq mq h; exact hpg10_1 rq pq lq mq (urun_step (n' := (t0.toInt - v344.toInt).toNat) (by omega) (by omega) (rfl : _ = (fb i9.toInt.toNat).toInt % 256) (ua2 (by omega) (by omega) (by omega) (by omega) (by omega)) h)) (One.val rfl) rfl
                ·
                  refine Go.st (fun _ k => XS.icmpNo X296.here hx rfl (hb hby d8_272) rfl (flt (nltI rfl liI_128 c340)).1 k) ?_
                  refine Go.st (fun _ k => XS.iload X296.here hx rfl (hb hby d8_275) rfl k) ?_
                  refine Go.st (fun _ k => XS.iloadN X296.here hx rfl (hb hby d8_277) rfl k) ?_
                  refine Go.st (fun _ k => XS.isub X296.here hx rfl (hb hby d8_278) rfl k) ?_
                  show Go p e below s Q 0 0 (T296.setTop (mkF m 279 #[.val (.ref o), .val (.ref by0), .val (.int f0), .val (.int t0), .val (.int i9), .val (.int v295)] [(.int (i9 - f0))]))
                  have f345 := c_isub i9 f0
                  have f346 := rng32 (i9 - f0)
                  exact Go.retI X296 hx hlk Bd.returns (hb hby d8_279) (by rw [← hQ, e296]; exact ⟨(i9 - f0), p9, l9, m9, (i9.toInt), rfl, Ng10, (by exact hpg10_1 _ _ _ _ (urun_rej (n' := (t0.toInt - i9.toInt).toNat - 1) (by omega) (rfl : _ = (fb i9.toInt.toNat).toInt % 256) (by unfold UR; omega) (by omega))), (by omega), (by omega), Kg10, hfg10_0, hfg10_1, hfg10_2, hfg10_3⟩) (by decide) (by decide)
              ·
                refine Go.st (fun _ k => XS.icmpNo X296.here hx rfl (hb hby d8_116) rfl (flt (nltI rfl liI_194 c334)).1 k) ?_
                refine Go.st (fun _ k => XS.iload X296.here hx rfl (hb hby d8_119) rfl k) ?_
                refine Go.st (fun _ k => XS.sipush X296.here hx rfl (hb hby d8_121) k) ?_
                show Go p e below s Q 0 0 (T296.setTop (mkF m 124 #[.val (.ref o), .val (.ref by0), .val (.int f0), .val (.int t0), .val (.int i9), .val (.int v295)] [(.int (223 : Int32)), (.int v295)]))
                have f347 := liI_223
                by_cases c348 : 223 < v295.toInt
                ·
                  refine Go.st (fun _ k => XS.icmpYes X296.here hx rfl (pc0 := 124) (pc' := 135) rfl (hb hby d8_124) rfl (tlt (ltI liI_223 rfl c348)).2.2.1 (by decide) (by decide) k) ?_
                  refine Go.st (fun _ k => XS.iload X296.here hx rfl (hb hby d8_135) rfl k) ?_
                  refine Go.st (fun _ k => XS.sipush X296.here hx rfl (hb hby d8_137) k) ?_
                  have f349 := liI_224
                  have c350 : ¬ (v295.toInt < 224) := by omega
                  refine Go.st (fun _ k => XS.icmpNo X296.here hx rfl (hb hby d8_140) rfl (flt (nltI rfl liI_224 c350)).1 k) ?_
                  refine Go.st (fun _ k => XS.iload X296.here hx rfl (hb hby d8_143) rfl k) ?_
                  refine Go.st (fun _ k => XS.sipush X296.here hx rfl (hb hby d8_145) k) ?_
                  show Go p e below s Q 0 0 (T296.setTop (mkF m 148 #[.val (.ref o), .val (.ref by0), .val (.int f0), .val (.int t0), .val (.int i9), .val (.int v295)] [(.int (239 : Int32)), (.int v295)]))
                  have f351 := liI_239
                  by_cases c352 : 239 < v295.toInt
                  ·
                    refine Go.st (fun _ k => XS.icmpYes X296.here hx rfl (pc0 := 148) (pc' := 201) rfl (hb hby d8_148) rfl (tlt (ltI liI_239 rfl c352)).2.2.1 (by decide) (by decide) k) ?_
                    refine Go.st (fun _ k => XS.iload X296.here hx rfl (hb hby d8_201) rfl k) ?_
                    refine Go.st (fun _ k => XS.sipush X296.here hx rfl (hb hby d8_203) k) ?_
                    have f353 := liI_240
                    have c354 : ¬ (v295.toInt < 240) := by omega
                    refine Go.st (fun _ k => XS.icmpNo X296.here hx rfl (hb hby d8_206) rfl (flt (nltI rfl liI_240 c354)).1 k) ?_
                    refine Go.st (fun _ k => XS.iload X296.here hx rfl (hb hby d8_209) rfl k) ?_
                    refine Go.st (fun _ k => XS.sipush X296.here hx rfl (hb hby d8_211) k) ?_
                    show Go p e below s Q 0 0 (T296.setTop (mkF m 214 #[.val (.ref o), .val (.ref by0), .val (.int f0), .val (.int t0), .val (.int i9), .val (.int v295)] [(.int (244 : Int32)), (.int v295)]))
                    have f355 := liI_244
                    by_cases c356 : 244 < v295.toInt
                    ·
                      refine Go.st (fun _ k => XS.icmpYes X296.here hx rfl (pc0 := 214) (pc' := 267) rfl (hb hby d8_214) rfl (tlt (ltI liI_244 rfl c356)).2.2.1 (by decide) (by decide) k) ?_
                      refine Go.st (fun _ k => XS.iload X296.here hx rfl (hb hby d8_267) rfl k) ?_
                      refine Go.st (fun _ k => XS.sipush X296.here hx rfl (hb hby d8_269) k) ?_
                      have f357 := liI_128
                      have c358 : ¬ (v295.toInt < 128) := by omega
                      refine Go.st (fun _ k => XS.icmpNo X296.here hx rfl (hb hby d8_272) rfl (flt (nltI rfl liI_128 c358)).1 k) ?_
                      refine Go.st (fun _ k => XS.iload X296.here hx rfl (hb hby d8_275) rfl k) ?_
                      refine Go.st (fun _ k => XS.iloadN X296.here hx rfl (hb hby d8_277) rfl k) ?_
                      show Go p e below s Q 0 0 (T296.setTop (mkF m 278 #[.val (.ref o), .val (.ref by0), .val (.int f0), .val (.int t0), .val (.int i9), .val (.int v295)] [(.int f0), (.int i9)]))
                      refine Go.st (fun _ k => XS.isub X296.here hx rfl (hb hby d8_278) rfl k) ?_
                      show Go p e below s Q 0 0 (T296.setTop (mkF m 279 #[.val (.ref o), .val (.ref by0), .val (.int f0), .val (.int t0), .val (.int i9), .val (.int v295)] [(.int (i9 - f0))]))
                      have f359 := c_isub i9 f0
                      have f360 := rng32 (i9 - f0)
                      exact Go.retI X296 hx hlk Bd.returns (hb hby d8_279) (by rw [← hQ, e296]; exact ⟨(i9 - f0), p9, l9, m9, (i9.toInt), rfl, Ng10, (by exact hpg10_1 _ _ _ _ (urun_rej (n' := (t0.toInt - i9.toInt).toNat - 1) (by omega) (rfl : _ = (fb i9.toInt.toNat).toInt % 256) (by unfold UR; omega) (by omega))), (by omega), (by omega), Kg10, hfg10_0, hfg10_1, hfg10_2, hfg10_3⟩) (by decide) (by decide)
                    ·
                      refine Go.st (fun _ k => XS.icmpNo X296.here hx rfl (hb hby d8_214) rfl (flt (nltI liI_244 rfl c356)).2.2.1 k) ?_
                      show Go p e below s Q 0 0 (T296.setTop (mkF m 217 #[.val (.ref o), .val (.ref by0), .val (.int f0), .val (.int t0), .val (.int i9), .val (.int v295)] []))
                      refine Go.st (fun _ k => XS.aloadN X296.here hx rfl (hb hby d8_217) rfl rfl k) ?_
                      refine Go.st (fun _ k => XS.iconst X296.here hx rfl (hb hby d8_218) k) ?_
                      obtain ⟨T361, h361, X361, e361, W361, st361⟩ := putF X296 hx hZ hown (host := "") (Or.inl (hw _ (List.mem_of_getElem? (i := 44) rfl))) Via.refl e296 hfg10_1 hfg10_0 (Or.inl (hw _ (List.mem_of_getElem? (i := 45) rfl))) (hw _ (List.mem_of_getElem? (i := 22) rfl)) (ty := .int) (by decide) rfl rfl (g := (mkF m 219 #[.val (.ref o), .val (.ref by0), .val (.int f0), .val (.int t0), .val (.int i9), .val (.int v295)] [(.int (3 : Int32)), (.ref o)])) rfl rfl (hb hby d8_219)
                      have h362 : Exa Z h361 o "com/example/ballast/ballast/json/Utf8" := hfg10_0.wr W361
                      have h363 : Fld Z h361 o "com/example/ballast/ballast/json/Utf8" "pending" "I" (.int (3 : Int32)) := hfg10_1.same W361
                      have h364 : Fld Z h361 o "com/example/ballast/ballast/json/Utf8" "least" "I" (.int l9) := hfg10_2.other W361 (Or.inr (sn_4 hw))
                      have h365 : Fld Z h361 o "com/example/ballast/ballast/json/Utf8" "most" "I" (.int m9) := hfg10_3.other W361 (Or.inr (sn_5 hw))
                      have h366 : Vec Z h361 by0 .byte (6 : Int32) (ints fb) := hfg10_4.other W361 hne
                      have K361 : Keep h0 h361 [o] := Kg10.wr W361 (Or.inl (List.mem_of_getElem? (i := 0) rfl))
                      have N361 := Fr.snoc X361 Ng10 hG
                      refine Go.st st361 ?_
                      show Go p e below s Q 0 0 (T361.setTop (mkF m 222 #[.val (.ref o), .val (.ref by0), .val (.int f0), .val (.int t0), .val (.int i9), .val (.int v295)] []))
                      refine Go.st (fun _ k => XS.aloadN X361.here hx rfl (hb hby d8_222) rfl rfl k) ?_
                      refine Go.st (fun _ k => XS.iload X361.here hx rfl (hb hby d8_223) rfl k) ?_
                      refine Go.st (fun _ k => XS.sipush X361.here hx rfl (hb hby d8_225) k) ?_
                      show Go p e below s Q 0 0 (T361.setTop (mkF m 228 #[.val (.ref o), .val (.ref by0), .val (.int f0), .val (.int t0), .val (.int i9), .val (.int v295)] [(.int (240 : Int32)), (.int v295), (.ref o)]))
                      suffices J368 : ∀ (j367 : Int32), ((v295.toInt = 240 ∧ j367.toInt = 144) ∨ (¬ v295.toInt = 240 ∧ j367.toInt = 128)) → Go p e below s Q 0 0 (T361.setTop (mkF m 240 #[.val (.ref o), .val (.ref by0), .val (.int f0), .val (.int t0), .val (.int i9), .val (.int v295)] [(.int j367), (.ref o)])) by
                        by_cases c370 : v295.toInt = 240
                        ·
                          refine Go.st (fun _ k => XS.icmpNo X361.here hx rfl (hb hby d8_228) rfl (teq (eqI rfl liI_240 c370)).2 k) ?_
                          refine Go.st (fun _ k => XS.sipush X361.here hx rfl (hb hby d8_231) k) ?_
                          refine Go.st (fun _ k => XS.goto X361.here hx rfl (pc0 := 234) (pc' := 240) rfl (hb hby d8_234) (by decide) (by decide) k) ?_
                          show Go p e below s Q 0 0 (T361.setTop (mkF m 240 #[.val (.ref o), .val (.ref by0), .val (.int f0), .val (.int t0), .val (.int i9), .val (.int v295)] [(.int (144 : Int32)), (.ref o)]))
                          have f371 := liI_144
                          exact J368 (144 : Int32) (by omega)
                        ·
                          refine Go.st (fun _ k => XS.icmpYes X361.here hx rfl (pc0 := 228) (pc' := 237) rfl (hb hby d8_228) rfl (feq (neI rfl liI_240 c370)).2 (by decide) (by decide) k) ?_
                          refine Go.st (fun _ k => XS.sipush X361.here hx rfl (hb hby d8_237) k) ?_
                          show Go p e below s Q 0 0 (T361.setTop (mkF m 240 #[.val (.ref o), .val (.ref by0), .val (.int f0), .val (.int t0), .val (.int i9), .val (.int v295)] [(.int (128 : Int32)), (.ref o)]))
                          have f372 := liI_128
                          exact J368 (128 : Int32) (by omega)
                      intro j367 f373
                      have f374 := rng32 j367
                      obtain ⟨T375, h375, X375, e375, W375, st375⟩ := putF X361 hx hZ hown (host := "") (Or.inl (hw _ (List.mem_of_getElem? (i := 30) rfl))) Via.refl e361 h364 h362 (Or.inl (hw _ (List.mem_of_getElem? (i := 31) rfl))) (hw _ (List.mem_of_getElem? (i := 22) rfl)) (ty := .int) (by decide) rfl rfl (g := (mkF m 240 #[.val (.ref o), .val (.ref by0), .val (.int f0), .val (.int t0), .val (.int i9), .val (.int v295)] [(.int j367), (.ref o)])) rfl rfl (hb hby d8_240)
                      have h376 : Exa Z h375 o "com/example/ballast/ballast/json/Utf8" := h362.wr W375
                      have h377 : Fld Z h375 o "com/example/ballast/ballast/json/Utf8" "pending" "I" (.int (3 : Int32)) := h363.other W375 (Or.inr (sn_0 hw))
                      have h378 : Fld Z h375 o "com/example/ballast/ballast/json/Utf8" "least" "I" (.int j367) := h364.same W375
                      have h379 : Fld Z h375 o "com/example/ballast/ballast/json/Utf8" "most" "I" (.int m9) := h365.other W375 (Or.inr (sn_1 hw))
                      have h380 : Vec Z h375 by0 .byte (6 : Int32) (ints fb) := h366.other W375 hne
                      have K375 : Keep h0 h375 [o] := K361.wr W375 (Or.inl (List.mem_of_getElem? (i := 0) rfl))
                      have N375 := Fr.snoc X375 N361 hG
                      refine Go.st st375 ?_
                      show Go p e below s Q 0 0 (T375.setTop (mkF m 243 #[.val (.ref o), .val (.ref by0), .val (.int f0), .val (.int t0), .val (.int i9), .val (.int v295)] []))
                      refine Go.st (fun _ k => XS.aloadN X375.here hx rfl (hb hby d8_243) rfl rfl k) ?_
                      refine Go.st (fun _ k => XS.iload X375.here hx rfl (hb hby d8_244) rfl k) ?_
                      refine Go.st (fun _ k => XS.sipush X375.here hx rfl (hb hby d8_246) k) ?_
                      show Go p e below s Q 0 0 (T375.setTop (mkF m 249 #[.val (.ref o), .val (.ref by0), .val (.int f0), .val (.int t0), .val (.int i9), .val (.int v295)] [(.int (244 : Int32)), (.int v295), (.ref o)]))
                      suffices J382 : ∀ (j381 : Int32), ((v295.toInt = 244 ∧ j381.toInt = 143) ∨ (¬ v295.toInt = 244 ∧ j381.toInt = 191)) → Go p e below s Q 0 0 (T375.setTop (mkF m 261 #[.val (.ref o), .val (.ref by0), .val (.int f0), .val (.int t0), .val (.int i9), .val (.int v295)] [(.int j381), (.ref o)])) by
                        by_cases c384 : v295.toInt = 244
                        ·
                          refine Go.st (fun _ k => XS.icmpNo X375.here hx rfl (hb hby d8_249) rfl (teq (eqI rfl liI_244 c384)).2 k) ?_
                          refine Go.st (fun _ k => XS.sipush X375.here hx rfl (hb hby d8_252) k) ?_
                          refine Go.st (fun _ k => XS.goto X375.here hx rfl (pc0 := 255) (pc' := 261) rfl (hb hby d8_255) (by decide) (by decide) k) ?_
                          show Go p e below s Q 0 0 (T375.setTop (mkF m 261 #[.val (.ref o), .val (.ref by0), .val (.int f0), .val (.int t0), .val (.int i9), .val (.int v295)] [(.int (143 : Int32)), (.ref o)]))
                          have f385 := liI_143
                          exact J382 (143 : Int32) (by omega)
                        ·
                          refine Go.st (fun _ k => XS.icmpYes X375.here hx rfl (pc0 := 249) (pc' := 258) rfl (hb hby d8_249) rfl (feq (neI rfl liI_244 c384)).2 (by decide) (by decide) k) ?_
                          refine Go.st (fun _ k => XS.sipush X375.here hx rfl (hb hby d8_258) k) ?_
                          show Go p e below s Q 0 0 (T375.setTop (mkF m 261 #[.val (.ref o), .val (.ref by0), .val (.int f0), .val (.int t0), .val (.int i9), .val (.int v295)] [(.int (191 : Int32)), (.ref o)]))
                          have f386 := liI_191
                          exact J382 (191 : Int32) (by omega)
                      intro j381 f387
                      have f388 := rng32 j381
                      obtain ⟨T389, h389, X389, e389, W389, st389⟩ := putF X375 hx hZ hown (host := "") (Or.inl (hw _ (List.mem_of_getElem? (i := 32) rfl))) Via.refl e375 h379 h376 (Or.inl (hw _ (List.mem_of_getElem? (i := 33) rfl))) (hw _ (List.mem_of_getElem? (i := 22) rfl)) (ty := .int) (by decide) rfl rfl (g := (mkF m 261 #[.val (.ref o), .val (.ref by0), .val (.int f0), .val (.int t0), .val (.int i9), .val (.int v295)] [(.int j381), (.ref o)])) rfl rfl (hb hby d8_261)
                      have h390 : Exa Z h389 o "com/example/ballast/ballast/json/Utf8" := h376.wr W389
                      have h391 : Fld Z h389 o "com/example/ballast/ballast/json/Utf8" "pending" "I" (.int (3 : Int32)) := h377.other W389 (Or.inr (sn_2 hw))
                      have h392 : Fld Z h389 o "com/example/ballast/ballast/json/Utf8" "least" "I" (.int j367) := h378.other W389 (Or.inr (sn_3 hw))
                      have h393 : Fld Z h389 o "com/example/ballast/ballast/json/Utf8" "most" "I" (.int j381) := h379.same W389
                      have h394 : Vec Z h389 by0 .byte (6 : Int32) (ints fb) := h380.other W389 hne
                      have K389 : Keep h0 h389 [o] := K375.wr W389 (Or.inl (List.mem_of_getElem? (i := 0) rfl))
                      have N389 := Fr.snoc X389 N375 hG
                      refine Go.st st389 ?_
                      show Go p e below s Q 0 0 (T389.setTop (mkF m 264 #[.val (.ref o), .val (.ref by0), .val (.int f0), .val (.int t0), .val (.int i9), .val (.int v295)] []))
                      refine Go.st (fun _ k => XS.goto X389.here hx rfl (pc0 := 264) (pc' := 280) rfl (hb hby d8_264) (by decide) (by decide) k) ?_
                      refine Go.st (fun _ k => XS.iinc X389.here hx rfl (hb hby d8_280) rfl (l' := #[.val (.ref o), .val (.ref by0), .val (.int f0), .val (.int t0), .val (.int (i9 + (1 : Int32))), .val (.int v295)]) rfl k) ?_
                      show Go p e below s Q 0 0 (T389.setTop (mkF m 283 #[.val (.ref o), .val (.ref by0), .val (.int f0), .val (.int t0), .val (.int (i9 + (1 : Int32))), .val (.int v295)] []))
                      have f395 := liI_1
                      have f396 := c_iadd i9 (1 : Int32)
                      have f397 := rng32 (i9 + (1 : Int32))
                      generalize hv_v398 : (i9 + (1 : Int32)) = v398 at f396 f397 ⊢
                      refine Go.st (fun _ k => XS.goto X389.here hx rfl (pc0 := 283) (pc' := 3) rfl (hb hby d8_283) (by decide) (by decide) k) ?_
                      show Go p e below s Q 0 0 (T389.setTop (mkF m 3 #[.val (.ref o), .val (.ref by0), .val (.int f0), .val (.int t0), .val (.int v398), .val (.int v295)] []))
                      have f399 := liI_3
                      exact ihg3 _ (by omega) T389 h389 _ (up X389 (by decide) (by decide)) e389 N389 K389 v398 (3 : Int32) j367 j381 (.val (.int v295)) h390 h391 h392 h393 h394 (by omega) (by intro rq pq lq mq h; exact hpg10_1 rq pq lq mq (urun_step (n' := (t0.toInt - v398.toInt).toNat) (by omega) (by omega) (rfl : _ = (fb i9.toInt.toNat).toInt % 256) (ua5 (by omega) (by omega) (by omega) (by omega) (d := v295.toInt) (by omega) f373 f387) h)) (One.val rfl) rfl
                  ·
                    refine Go.st (fun _ k => XS.icmpNo X296.here hx rfl (hb hby d8_148) rfl (flt (nltI liI_239 rfl c352)).2.2.1 k) ?_
                    show Go p e below s Q 0 0 (T296.setTop (mkF m 151 #[.val (.ref o), .val (.ref by0), .val (.int f0), .val (.int t0), .val (.int i9), .val (.int v295)] []))
                    refine Go.st (fun _ k => XS.aloadN X296.here hx rfl (hb hby d8_151) rfl rfl k) ?_
                    refine Go.st (fun _ k => XS.iconst X296.here hx rfl (hb hby d8_152) k) ?_
                    obtain ⟨T400, h400, X400, e400, W400, st400⟩ := putF X296 hx hZ hown (host := "") (Or.inl (hw _ (List.mem_of_getElem? (i := 44) rfl))) Via.refl e296 hfg10_1 hfg10_0 (Or.inl (hw _ (List.mem_of_getElem? (i := 45) rfl))) (hw _ (List.mem_of_getElem? (i := 22) rfl)) (ty := .int) (by decide) rfl rfl (g := (mkF m 153 #[.val (.ref o), .val (.ref by0), .val (.int f0), .val (.int t0), .val (.int i9), .val (.int v295)] [(.int (2 : Int32)), (.ref o)])) rfl rfl (hb hby d8_153)
                    have h401 : Exa Z h400 o "com/example/ballast/ballast/json/Utf8" := hfg10_0.wr W400
                    have h402 : Fld Z h400 o "com/example/ballast/ballast/json/Utf8" "pending" "I" (.int (2 : Int32)) := hfg10_1.same W400
                    have h403 : Fld Z h400 o "com/example/ballast/ballast/json/Utf8" "least" "I" (.int l9) := hfg10_2.other W400 (Or.inr (sn_4 hw))
                    have h404 : Fld Z h400 o "com/example/ballast/ballast/json/Utf8" "most" "I" (.int m9) := hfg10_3.other W400 (Or.inr (sn_5 hw))
                    have h405 : Vec Z h400 by0 .byte (6 : Int32) (ints fb) := hfg10_4.other W400 hne
                    have K400 : Keep h0 h400 [o] := Kg10.wr W400 (Or.inl (List.mem_of_getElem? (i := 0) rfl))
                    have N400 := Fr.snoc X400 Ng10 hG
                    refine Go.st st400 ?_
                    show Go p e below s Q 0 0 (T400.setTop (mkF m 156 #[.val (.ref o), .val (.ref by0), .val (.int f0), .val (.int t0), .val (.int i9), .val (.int v295)] []))
                    refine Go.st (fun _ k => XS.aloadN X400.here hx rfl (hb hby d8_156) rfl rfl k) ?_
                    refine Go.st (fun _ k => XS.iload X400.here hx rfl (hb hby d8_157) rfl k) ?_
                    refine Go.st (fun _ k => XS.sipush X400.here hx rfl (hb hby d8_159) k) ?_
                    show Go p e below s Q 0 0 (T400.setTop (mkF m 162 #[.val (.ref o), .val (.ref by0), .val (.int f0), .val (.int t0), .val (.int i9), .val (.int v295)] [(.int (224 : Int32)), (.int v295), (.ref o)]))
                    suffices J407 : ∀ (j406 : Int32), ((v295.toInt = 224 ∧ j406.toInt = 160) ∨ (¬ v295.toInt = 224 ∧ j406.toInt = 128)) → Go p e below s Q 0 0 (T400.setTop (mkF m 174 #[.val (.ref o), .val (.ref by0), .val (.int f0), .val (.int t0), .val (.int i9), .val (.int v295)] [(.int j406), (.ref o)])) by
                      by_cases c409 : v295.toInt = 224
                      ·
                        refine Go.st (fun _ k => XS.icmpNo X400.here hx rfl (hb hby d8_162) rfl (teq (eqI rfl liI_224 c409)).2 k) ?_
                        refine Go.st (fun _ k => XS.sipush X400.here hx rfl (hb hby d8_165) k) ?_
                        refine Go.st (fun _ k => XS.goto X400.here hx rfl (pc0 := 168) (pc' := 174) rfl (hb hby d8_168) (by decide) (by decide) k) ?_
                        show Go p e below s Q 0 0 (T400.setTop (mkF m 174 #[.val (.ref o), .val (.ref by0), .val (.int f0), .val (.int t0), .val (.int i9), .val (.int v295)] [(.int (160 : Int32)), (.ref o)]))
                        have f410 := liI_160
                        exact J407 (160 : Int32) (by omega)
                      ·
                        refine Go.st (fun _ k => XS.icmpYes X400.here hx rfl (pc0 := 162) (pc' := 171) rfl (hb hby d8_162) rfl (feq (neI rfl liI_224 c409)).2 (by decide) (by decide) k) ?_
                        refine Go.st (fun _ k => XS.sipush X400.here hx rfl (hb hby d8_171) k) ?_
                        show Go p e below s Q 0 0 (T400.setTop (mkF m 174 #[.val (.ref o), .val (.ref by0), .val (.int f0), .val (.int t0), .val (.int i9), .val (.int v295)] [(.int (128 : Int32)), (.ref o)]))
                        have f411 := liI_128
                        exact J407 (128 : Int32) (by omega)
                    intro j406 f412
                    have f413 := rng32 j406
                    obtain ⟨T414, h414, X414, e414, W414, st414⟩ := putF X400 hx hZ hown (host := "") (Or.inl (hw _ (List.mem_of_getElem? (i := 30) rfl))) Via.refl e400 h403 h401 (Or.inl (hw _ (List.mem_of_getElem? (i := 31) rfl))) (hw _ (List.mem_of_getElem? (i := 22) rfl)) (ty := .int) (by decide) rfl rfl (g := (mkF m 174 #[.val (.ref o), .val (.ref by0), .val (.int f0), .val (.int t0), .val (.int i9), .val (.int v295)] [(.int j406), (.ref o)])) rfl rfl (hb hby d8_174)
                    have h415 : Exa Z h414 o "com/example/ballast/ballast/json/Utf8" := h401.wr W414
                    have h416 : Fld Z h414 o "com/example/ballast/ballast/json/Utf8" "pending" "I" (.int (2 : Int32)) := h402.other W414 (Or.inr (sn_0 hw))
                    have h417 : Fld Z h414 o "com/example/ballast/ballast/json/Utf8" "least" "I" (.int j406) := h403.same W414
                    have h418 : Fld Z h414 o "com/example/ballast/ballast/json/Utf8" "most" "I" (.int m9) := h404.other W414 (Or.inr (sn_1 hw))
                    have h419 : Vec Z h414 by0 .byte (6 : Int32) (ints fb) := h405.other W414 hne
                    have K414 : Keep h0 h414 [o] := K400.wr W414 (Or.inl (List.mem_of_getElem? (i := 0) rfl))
                    have N414 := Fr.snoc X414 N400 hG
                    refine Go.st st414 ?_
                    show Go p e below s Q 0 0 (T414.setTop (mkF m 177 #[.val (.ref o), .val (.ref by0), .val (.int f0), .val (.int t0), .val (.int i9), .val (.int v295)] []))
                    refine Go.st (fun _ k => XS.aloadN X414.here hx rfl (hb hby d8_177) rfl rfl k) ?_
                    refine Go.st (fun _ k => XS.iload X414.here hx rfl (hb hby d8_178) rfl k) ?_
                    refine Go.st (fun _ k => XS.sipush X414.here hx rfl (hb hby d8_180) k) ?_
                    show Go p e below s Q 0 0 (T414.setTop (mkF m 183 #[.val (.ref o), .val (.ref by0), .val (.int f0), .val (.int t0), .val (.int i9), .val (.int v295)] [(.int (237 : Int32)), (.int v295), (.ref o)]))
                    suffices J421 : ∀ (j420 : Int32), ((v295.toInt = 237 ∧ j420.toInt = 159) ∨ (¬ v295.toInt = 237 ∧ j420.toInt = 191)) → Go p e below s Q 0 0 (T414.setTop (mkF m 195 #[.val (.ref o), .val (.ref by0), .val (.int f0), .val (.int t0), .val (.int i9), .val (.int v295)] [(.int j420), (.ref o)])) by
                      have f423 := liI_237
                      by_cases c424 : v295.toInt = 237
                      ·
                        refine Go.st (fun _ k => XS.icmpNo X414.here hx rfl (hb hby d8_183) rfl (teq (eqI rfl liI_237 c424)).2 k) ?_
                        refine Go.st (fun _ k => XS.sipush X414.here hx rfl (hb hby d8_186) k) ?_
                        refine Go.st (fun _ k => XS.goto X414.here hx rfl (pc0 := 189) (pc' := 195) rfl (hb hby d8_189) (by decide) (by decide) k) ?_
                        show Go p e below s Q 0 0 (T414.setTop (mkF m 195 #[.val (.ref o), .val (.ref by0), .val (.int f0), .val (.int t0), .val (.int i9), .val (.int v295)] [(.int (159 : Int32)), (.ref o)]))
                        have f425 := liI_159
                        exact J421 (159 : Int32) (by omega)
                      ·
                        refine Go.st (fun _ k => XS.icmpYes X414.here hx rfl (pc0 := 183) (pc' := 192) rfl (hb hby d8_183) rfl (feq (neI rfl liI_237 c424)).2 (by decide) (by decide) k) ?_
                        refine Go.st (fun _ k => XS.sipush X414.here hx rfl (hb hby d8_192) k) ?_
                        show Go p e below s Q 0 0 (T414.setTop (mkF m 195 #[.val (.ref o), .val (.ref by0), .val (.int f0), .val (.int t0), .val (.int i9), .val (.int v295)] [(.int (191 : Int32)), (.ref o)]))
                        have f426 := liI_191
                        exact J421 (191 : Int32) (by omega)
                    intro j420 f427
                    have f428 := rng32 j420
                    obtain ⟨T429, h429, X429, e429, W429, st429⟩ := putF X414 hx hZ hown (host := "") (Or.inl (hw _ (List.mem_of_getElem? (i := 32) rfl))) Via.refl e414 h418 h415 (Or.inl (hw _ (List.mem_of_getElem? (i := 33) rfl))) (hw _ (List.mem_of_getElem? (i := 22) rfl)) (ty := .int) (by decide) rfl rfl (g := (mkF m 195 #[.val (.ref o), .val (.ref by0), .val (.int f0), .val (.int t0), .val (.int i9), .val (.int v295)] [(.int j420), (.ref o)])) rfl rfl (hb hby d8_195)
                    have h430 : Exa Z h429 o "com/example/ballast/ballast/json/Utf8" := h415.wr W429
                    have h431 : Fld Z h429 o "com/example/ballast/ballast/json/Utf8" "pending" "I" (.int (2 : Int32)) := h416.other W429 (Or.inr (sn_2 hw))
                    have h432 : Fld Z h429 o "com/example/ballast/ballast/json/Utf8" "least" "I" (.int j406) := h417.other W429 (Or.inr (sn_3 hw))
                    have h433 : Fld Z h429 o "com/example/ballast/ballast/json/Utf8" "most" "I" (.int j420) := h418.same W429
                    have h434 : Vec Z h429 by0 .byte (6 : Int32) (ints fb) := h419.other W429 hne
                    have K429 : Keep h0 h429 [o] := K414.wr W429 (Or.inl (List.mem_of_getElem? (i := 0) rfl))
                    have N429 := Fr.snoc X429 N414 hG
                    refine Go.st st429 ?_
                    show Go p e below s Q 0 0 (T429.setTop (mkF m 198 #[.val (.ref o), .val (.ref by0), .val (.int f0), .val (.int t0), .val (.int i9), .val (.int v295)] []))
                    refine Go.st (fun _ k => XS.goto X429.here hx rfl (pc0 := 198) (pc' := 280) rfl (hb hby d8_198) (by decide) (by decide) k) ?_
                    refine Go.st (fun _ k => XS.iinc X429.here hx rfl (hb hby d8_280) rfl (l' := #[.val (.ref o), .val (.ref by0), .val (.int f0), .val (.int t0), .val (.int (i9 + (1 : Int32))), .val (.int v295)]) rfl k) ?_
                    show Go p e below s Q 0 0 (T429.setTop (mkF m 283 #[.val (.ref o), .val (.ref by0), .val (.int f0), .val (.int t0), .val (.int (i9 + (1 : Int32))), .val (.int v295)] []))
                    have f435 := liI_1
                    have f436 := c_iadd i9 (1 : Int32)
                    have f437 := rng32 (i9 + (1 : Int32))
                    generalize hv_v438 : (i9 + (1 : Int32)) = v438 at f436 f437 ⊢
                    refine Go.st (fun _ k => XS.goto X429.here hx rfl (pc0 := 283) (pc' := 3) rfl (hb hby d8_283) (by decide) (by decide) k) ?_
                    show Go p e below s Q 0 0 (T429.setTop (mkF m 3 #[.val (.ref o), .val (.ref by0), .val (.int f0), .val (.int t0), .val (.int v438), .val (.int v295)] []))
                    have f439 := liI_2
                    exact ihg3 _ (by omega) T429 h429 _ (up X429 (by decide) (by decide)) e429 N429 K429 v438 (2 : Int32) j406 j420 (.val (.int v295)) h430 h431 h432 h433 h434 (by omega) (by intro rq pq lq mq h; exact hpg10_1 rq pq lq mq (urun_step (n' := (t0.toInt - v438.toInt).toNat) (by omega) (by omega) (rfl : _ = (fb i9.toInt.toNat).toInt % 256) (ua4 (by omega) (by omega) (by omega) (by omega) (d := v295.toInt) (by omega) f412 f427) h)) (One.val rfl) rfl
                ·
                  refine Go.st (fun _ k => XS.icmpNo X296.here hx rfl (hb hby d8_124) rfl (flt (nltI liI_223 rfl c348)).2.2.1 k) ?_
                  show Go p e below s Q 0 0 (T296.setTop (mkF m 127 #[.val (.ref o), .val (.ref by0), .val (.int f0), .val (.int t0), .val (.int i9), .val (.int v295)] []))
                  refine Go.st (fun _ k => XS.aloadN X296.here hx rfl (hb hby d8_127) rfl rfl k) ?_
                  refine Go.st (fun _ k => XS.iconst X296.here hx rfl (hb hby d8_128) k) ?_
                  obtain ⟨T440, h440, X440, e440, W440, st440⟩ := putF X296 hx hZ hown (host := "") (Or.inl (hw _ (List.mem_of_getElem? (i := 44) rfl))) Via.refl e296 hfg10_1 hfg10_0 (Or.inl (hw _ (List.mem_of_getElem? (i := 45) rfl))) (hw _ (List.mem_of_getElem? (i := 22) rfl)) (ty := .int) (by decide) rfl rfl (g := (mkF m 129 #[.val (.ref o), .val (.ref by0), .val (.int f0), .val (.int t0), .val (.int i9), .val (.int v295)] [(.int (1 : Int32)), (.ref o)])) rfl rfl (hb hby d8_129)
                  have h441 : Exa Z h440 o "com/example/ballast/ballast/json/Utf8" := hfg10_0.wr W440
                  have h442 : Fld Z h440 o "com/example/ballast/ballast/json/Utf8" "pending" "I" (.int (1 : Int32)) := hfg10_1.same W440
                  have h443 : Fld Z h440 o "com/example/ballast/ballast/json/Utf8" "least" "I" (.int l9) := hfg10_2.other W440 (Or.inr (sn_4 hw))
                  have h444 : Fld Z h440 o "com/example/ballast/ballast/json/Utf8" "most" "I" (.int m9) := hfg10_3.other W440 (Or.inr (sn_5 hw))
                  have h445 : Vec Z h440 by0 .byte (6 : Int32) (ints fb) := hfg10_4.other W440 hne
                  have K440 : Keep h0 h440 [o] := Kg10.wr W440 (Or.inl (List.mem_of_getElem? (i := 0) rfl))
                  have N440 := Fr.snoc X440 Ng10 hG
                  refine Go.st st440 ?_
                  show Go p e below s Q 0 0 (T440.setTop (mkF m 132 #[.val (.ref o), .val (.ref by0), .val (.int f0), .val (.int t0), .val (.int i9), .val (.int v295)] []))
                  refine Go.st (fun _ k => XS.goto X440.here hx rfl (pc0 := 132) (pc' := 280) rfl (hb hby d8_132) (by decide) (by decide) k) ?_
                  refine Go.st (fun _ k => XS.iinc X440.here hx rfl (hb hby d8_280) rfl (l' := #[.val (.ref o), .val (.ref by0), .val (.int f0), .val (.int t0), .val (.int (i9 + (1 : Int32))), .val (.int v295)]) rfl k) ?_
                  show Go p e below s Q 0 0 (T440.setTop (mkF m 283 #[.val (.ref o), .val (.ref by0), .val (.int f0), .val (.int t0), .val (.int (i9 + (1 : Int32))), .val (.int v295)] []))
                  have f446 := liI_1
                  have f447 := c_iadd i9 (1 : Int32)
                  have f448 := rng32 (i9 + (1 : Int32))
                  generalize hv_v449 : (i9 + (1 : Int32)) = v449 at f447 f448 ⊢
                  refine Go.st (fun _ k => XS.goto X440.here hx rfl (pc0 := 283) (pc' := 3) rfl (hb hby d8_283) (by decide) (by decide) k) ?_
                  show Go p e below s Q 0 0 (T440.setTop (mkF m 3 #[.val (.ref o), .val (.ref by0), .val (.int f0), .val (.int t0), .val (.int v449), .val (.int v295)] []))
                  exact ihg3 _ (by omega) T440 h440 _ (up X440 (by decide) (by decide)) e440 N440 K440 v449 (1 : Int32) l9 m9 (.val (.int v295)) h441 h442 h443 h444 h445 (by omega) (by intro rq pq lq mq h; exact hpg10_1 rq pq lq mq (urun_step (n' := (t0.toInt - v449.toInt).toNat) (by omega) (by omega) (rfl : _ = (fb i9.toInt.toNat).toInt % 256) (ua3 (by omega) (by omega) (by omega) (by omega) (by omega) (by omega)) h)) (One.val rfl) rfl
      exact lp11 _ Tg3 hg3 _ (up Xg3 (by decide) (by decide)) eg3 Ng3 Kg3 i3 p3 l3 m3 sl3 hfg3_0 hfg3_1 hfg3_2 hfg3_3 hfg3_4 (by omega) (by exact hpg3_1) hpg3_2 (by omega) rfl
    ·
      refine Go.st (fun _ k => XS.icmpYes Xg3.here hx rfl (pc0 := 6) (pc' := 286) rfl (hb hby d8_6) rfl (flt (nltI rfl rfl c9)).2.1 (by decide) (by decide) k) ?_
      refine Go.st (fun _ k => XS.iconst Xg3.here hx rfl (hb hby d8_286) k) ?_
      show Go p e below s Q 0 0 (Tg3.setTop (mkF m 287 #[.val (.ref o), .val (.ref by0), .val (.int f0), .val (.int t0), .val (.int i3), sl3] [(.int (-1 : Int32))]))
      have f450 := liI_m1
      exact Go.retI Xg3 hx hlk Bd.returns (hb hby d8_287) (by rw [← hQ, eg3]; exact ⟨(-1 : Int32), p3, l3, m3, (-1), rfl, Ng3, (by exact hpg3_1 _ _ _ _ (urun_end (by omega))), (by omega), (by omega), Kg3, hfg3_0, hfg3_1, hfg3_2, hfg3_3⟩) (by decide) (by decide)
  have f451 := rng32 pp
  have f452 := rng32 ll
  have f453 := rng32 mm
  exact lp4 _ s₁ h0 _ (up X0 (by decide) (by decide)) e0 N0 K0 f0 pp ll mm (.unset) hE hf1 hf2 hf3 hY (by omega) (by intro rq pq lq mq h; exact h) One.u rfl
theorem liI_8 : (8 : Int32).toInt = 8 := by decide
theorem liI_2147483647 : (2147483647 : Int32).toInt = 2147483647 := by decide
theorem liI_5 : (5 : Int32).toInt = 5 := by decide
theorem pd_3 : parseMethodDescriptor "([III)I" = some ⟨[(.array .int), .int, .int], some .int⟩ := by decide +kernel
theorem pd_4 : parseMethodDescriptor "()V" = some ⟨[], none⟩ := by decide +kernel
theorem pd_5 : parseMethodDescriptor "([BII)I" = some ⟨[(.array .byte), .int, .int], some .int⟩ := by decide +kernel
theorem pd_6 : parseMethodDescriptor "()Z" = some ⟨[], some .boolean⟩ := by decide +kernel
theorem ef_rm0 (m : MethodId) (x0 : Int32) (x1 : Int32) (x2 : Int32) (x3 : Int32) (x4 : Int32) (x5 : Int32) : entryFrame m #[(.int x0), (.int x1), (.int x2), (.int x3), (.int x4), (.int x5)] maxLocals = mkF m 0 #[.val (.int x0), .val (.int x1), .val (.int x2), .val (.int x3), .val (.int x4), .val (.int x5), .unset, .unset, .unset, .unset, .unset, .unset, .unset, .unset, .unset, .unset] [] := by first | (simp [entryFrame, mkF, argsToLocals, Value.category, maxLocals]; done) | rfl
def Q0 (Z : State) (x0 : Int32) (x1 : Int32) (x2 : Int32) (x3 : Int32) (x4 : Int32) (x5 : Int32) (h0 : Heap) (n0 : Nat) (vv : Option Value) (h : Heap) (LL : List Loc) : Prop := vv = some (.int (1 : Int32)) ∧ Fr n0 LL ∧ Keep h0 h []
set_option maxRecDepth 65536 in
set_option maxHeartbeats 40000000 in
theorem rm0 (l : Launch) (Z : State) (a0 : Array Value) (hw : ∀ d ∈ tables_1, d.before a0 Z = true) (ws : List Jvm.Cond) (x0 : Int32) (x1 : Int32) (x2 : Int32) (x3 : Int32) (x4 : Int32) (x5 : Int32) (h0 : Heap) (n0 : Nat) (Z0 : n0 ≤ h0.size) :
    MetFree l x (head1 (Jvm.Cond.code x code maxLocals ret :: ws) room_1) (fun aa UU => aa = #[(.int x0), (.int x1), (.int x2), (.int x3), (.int x4), (.int x5)] ∧ Z.Warmed39 UU.vm ∧ UU.heap = h0) (fun _ _ _ _ _ => True) (fun _ UU oo UU' => ∃ vv LL, oo = .returned vv ∧ Q0 Z x0 x1 x2 x3 x4 x5 h0 n0 vv UU'.heap LL ∧ FrameEnd UU oo UU' LL 4 18) := by
  refine MetFree.of_bodySF (plainFor_of_name pn_0) hisR ?_
  intro p e s m args below meth c s₁ Bd hml0 hP hK
  obtain ⟨rfl, hZ, hh⟩ := hP
  have hx := Bd.exec
  have hby := Bd.bytes
  have hlk : meth.locks = false := BodyLoose.notSynchronized Bd
  have hml : c.maxLocals = 16 := hml0
  have hown : s.vm.findClass "com/example/ballast/ballast/json/Utf8CheckPinLaw" = some m.cls := findClass_of_methodNamed Bd.named
  have hnm := (name_of_methodNamed Bd.named Bd.method).1
  have X0 : Stand p l e room_1 s m #[(.int x0), (.int x1), (.int x2), (.int x3), (.int x4), (.int x5)] below meth c s₁ [] 0 0 := Stand.of_body Bd
  have e0 : s₁.heap = h0 := by rw [← hh, Bd.state]; rfl
  have N0 := Fr.nil n0
  have K0 : Keep h0 h0 [] := Keep.refl h0 _
  refine (?_ : Go p e below s (Q0 Z x0 x1 x2 x3 x4 x5 h0 n0) 4 18 (s₁.setTop (entryFrame m #[(.int x0), (.int x1), (.int x2), (.int x3), (.int x4), (.int x5)] maxLocals)))
  rw [ef_rm0]
  generalize hQ : Q0 Z x0 x1 x2 x3 x4 x5 h0 n0 = Q
  show Go p e below s Q 4 18 (s₁.setTop (mkF m 0 #[.val (.int x0), .val (.int x1), .val (.int x2), .val (.int x3), .val (.int x4), .val (.int x5), .unset, .unset, .unset, .unset, .unset, .unset, .unset, .unset, .unset, .unset] []))
  have f1 := rng32 x0
  have f2 := rng32 x1
  have f3 := rng32 x2
  have f4 := rng32 x3
  have f5 := rng32 x4
  have f6 := rng32 x5
  refine Go.st (fun _ k => XS.iconst X0.here hx rfl (hb hby at_0) k) ?_
  have f8 := liI_4
  have r9 : 0 ≤ (4 : Int32).toInt := by decide
  have r10 : (4 : Int32).toNatClampNeg ≤ 4 := by decide
  obtain ⟨T7, h7, k7, X7, e7, E7, A7, st7⟩ := newP X0 hx hZ (hw _ (List.mem_of_getElem? (i := 0) rfl)) e0 (g := (mkF m 1 #[.val (.int x0), .val (.int x1), .val (.int x2), .val (.int x3), .val (.int x4), .val (.int x5), .unset, .unset, .unset, .unset, .unset, .unset, .unset, .unset, .unset, .unset] [(.int (4 : Int32))])) rfl (hb hby at_1) rfl (not_neg r9) (cap := 4) r10 (by decide) (by decide) (by decide)
  obtain ⟨b7, g7⟩ : ∃ z, z = h0.size := ⟨_, rfl⟩
  rw [← g7] at A7 st7
  have Gb7 : Hid (n0 ≤ b7) := Nat.le_trans (Nat.le_trans Z0 K0.1) (Nat.le_of_eq g7.symm)
  have szb7 : Hid (h0.size ≤ b7) := Nat.le_trans K0.1 (Nat.le_of_eq g7.symm)
  have K7 : Keep h0 h7 [] := K0.ext E7
  have h11 : Vec Z h7 b7 .int (4 : Int32) (ints (lst [(0 : Int32), (0 : Int32), (0 : Int32), (0 : Int32)])) := Vec.zerosI 4 (Vec.new A7 r9)
  refine Go.st st7 ?_
  clear st7
  show Go p e below s Q 4 18 (T7.setTop (mkF m 3 #[.val (.int x0), .val (.int x1), .val (.int x2), .val (.int x3), .val (.int x4), .val (.int x5), .unset, .unset, .unset, .unset, .unset, .unset, .unset, .unset, .unset, .unset] [(.ref b7)]))
  refine Go.st (fun _ k => XS.astore X7.here hx rfl (hb hby at_3) rfl rfl (l' := #[.val (.int x0), .val (.int x1), .val (.int x2), .val (.int x3), .val (.int x4), .val (.int x5), .val (.ref b7), .unset, .unset, .unset, .unset, .unset, .unset, .unset, .unset, .unset]) rfl k) ?_
  refine Go.st (fun _ k => XS.aload X7.here hx rfl (hb hby at_5) rfl rfl k) ?_
  refine Go.st (fun _ k => XS.iconst X7.here hx rfl (hb hby at_7) k) ?_
  refine Go.st (fun _ k => XS.iloadN X7.here hx rfl (hb hby at_8) rfl k) ?_
  refine Go.st (fun _ k => XS.sipush X7.here hx rfl (hb hby at_9) k) ?_
  refine Go.st (fun _ k => XS.iand X7.here hx rfl (hb hby at_12) rfl k) ?_
  show Go p e below s Q 4 18 (T7.setTop (mkF m 13 #[.val (.int x0), .val (.int x1), .val (.int x2), .val (.int x3), .val (.int x4), .val (.int x5), .val (.ref b7), .unset, .unset, .unset, .unset, .unset, .unset, .unset, .unset, .unset] [(.int (x0 &&& (255 : Int32))), (.int (0 : Int32)), (.ref b7)]))
  have f12 := liI_255
  have f13 : (x0 &&& (255 : Int32)).toInt = x0.toInt % 256 := c_mask x0 (255 : Int32) 8 (by decide) (by decide)
  generalize hv_b0 : (x0 &&& (255 : Int32)) = b0 at f13 ⊢
  obtain ⟨T14, h14, X14, e14, W14, V14, st14⟩ := Vec.istI X7 hx hZ e7 h11 (j := (0 : Int32)) (by decide) (by decide) (g := (mkF m 13 #[.val (.int x0), .val (.int x1), .val (.int x2), .val (.int x3), .val (.int x4), .val (.int x5), .val (.ref b7), .unset, .unset, .unset, .unset, .unset, .unset, .unset, .unset, .unset] [(.int b0), (.int (0 : Int32)), (.ref b7)])) rfl rfl (hb hby at_13)
  have h15 : Vec Z h14 b7 .int (4 : Int32) (ints (lst [b0, (0 : Int32), (0 : Int32), (0 : Int32)])) := Vec.of_eq V14 (congrArg ints (upd_lst _ 0 _ (Nat.le_of_ble_eq_true rfl)))
  have K14 : Keep h0 h14 [] := K7.wr W14 (Or.inr szb7)
  have N14 := Fr.snoc X14 N0 Gb7
  refine Go.st st14 ?_
  clear st14
  clear h11 X7
  show Go p e below s Q 4 18 (T14.setTop (mkF m 14 #[.val (.int x0), .val (.int x1), .val (.int x2), .val (.int x3), .val (.int x4), .val (.int x5), .val (.ref b7), .unset, .unset, .unset, .unset, .unset, .unset, .unset, .unset, .unset] []))
  refine Go.st (fun _ k => XS.aload X14.here hx rfl (hb hby at_14) rfl rfl k) ?_
  refine Go.st (fun _ k => XS.iconst X14.here hx rfl (hb hby at_16) k) ?_
  refine Go.st (fun _ k => XS.iloadN X14.here hx rfl (hb hby at_17) rfl k) ?_
  refine Go.st (fun _ k => XS.sipush X14.here hx rfl (hb hby at_18) k) ?_
  refine Go.st (fun _ k => XS.iand X14.here hx rfl (hb hby at_21) rfl k) ?_
  show Go p e below s Q 4 18 (T14.setTop (mkF m 22 #[.val (.int x0), .val (.int x1), .val (.int x2), .val (.int x3), .val (.int x4), .val (.int x5), .val (.ref b7), .unset, .unset, .unset, .unset, .unset, .unset, .unset, .unset, .unset] [(.int (x1 &&& (255 : Int32))), (.int (1 : Int32)), (.ref b7)]))
  have f16 : (x1 &&& (255 : Int32)).toInt = x1.toInt % 256 := c_mask x1 (255 : Int32) 8 (by decide) (by decide)
  generalize hv_b1 : (x1 &&& (255 : Int32)) = b1 at f16 ⊢
  obtain ⟨T17, h17, X17, e17, W17, V17, st17⟩ := Vec.istI X14 hx hZ e14 h15 (j := (1 : Int32)) (by decide) (by decide) (g := (mkF m 22 #[.val (.int x0), .val (.int x1), .val (.int x2), .val (.int x3), .val (.int x4), .val (.int x5), .val (.ref b7), .unset, .unset, .unset, .unset, .unset, .unset, .unset, .unset, .unset] [(.int b1), (.int (1 : Int32)), (.ref b7)])) rfl rfl (hb hby at_22)
  have h18 : Vec Z h17 b7 .int (4 : Int32) (ints (lst [b0, b1, (0 : Int32), (0 : Int32)])) := Vec.of_eq V17 (congrArg ints (upd_lst _ 1 _ (Nat.le_of_ble_eq_true rfl)))
  have K17 : Keep h0 h17 [] := K14.wr W17 (Or.inr szb7)
  have N17 := Fr.snoc X17 N14 Gb7
  refine Go.st st17 ?_
  clear st17
  clear h15 X14
  show Go p e below s Q 4 18 (T17.setTop (mkF m 23 #[.val (.int x0), .val (.int x1), .val (.int x2), .val (.int x3), .val (.int x4), .val (.int x5), .val (.ref b7), .unset, .unset, .unset, .unset, .unset, .unset, .unset, .unset, .unset] []))
  refine Go.st (fun _ k => XS.aload X17.here hx rfl (hb hby at_23) rfl rfl k) ?_
  refine Go.st (fun _ k => XS.iconst X17.here hx rfl (hb hby at_25) k) ?_
  refine Go.st (fun _ k => XS.iloadN X17.here hx rfl (hb hby at_26) rfl k) ?_
  refine Go.st (fun _ k => XS.sipush X17.here hx rfl (hb hby at_27) k) ?_
  refine Go.st (fun _ k => XS.iand X17.here hx rfl (hb hby at_30) rfl k) ?_
  show Go p e below s Q 4 18 (T17.setTop (mkF m 31 #[.val (.int x0), .val (.int x1), .val (.int x2), .val (.int x3), .val (.int x4), .val (.int x5), .val (.ref b7), .unset, .unset, .unset, .unset, .unset, .unset, .unset, .unset, .unset] [(.int (x2 &&& (255 : Int32))), (.int (2 : Int32)), (.ref b7)]))
  have f19 : (x2 &&& (255 : Int32)).toInt = x2.toInt % 256 := c_mask x2 (255 : Int32) 8 (by decide) (by decide)
  generalize hv_b2 : (x2 &&& (255 : Int32)) = b2 at f19 ⊢
  obtain ⟨T20, h20, X20, e20, W20, V20, st20⟩ := Vec.istI X17 hx hZ e17 h18 (j := (2 : Int32)) (by decide) (by decide) (g := (mkF m 31 #[.val (.int x0), .val (.int x1), .val (.int x2), .val (.int x3), .val (.int x4), .val (.int x5), .val (.ref b7), .unset, .unset, .unset, .unset, .unset, .unset, .unset, .unset, .unset] [(.int b2), (.int (2 : Int32)), (.ref b7)])) rfl rfl (hb hby at_31)
  have h21 : Vec Z h20 b7 .int (4 : Int32) (ints (lst [b0, b1, b2, (0 : Int32)])) := Vec.of_eq V20 (congrArg ints (upd_lst _ 2 _ (Nat.le_of_ble_eq_true rfl)))
  have K20 : Keep h0 h20 [] := K17.wr W20 (Or.inr szb7)
  have N20 := Fr.snoc X20 N17 Gb7
  refine Go.st st20 ?_
  clear st20
  clear h18 X17
  show Go p e below s Q 4 18 (T20.setTop (mkF m 32 #[.val (.int x0), .val (.int x1), .val (.int x2), .val (.int x3), .val (.int x4), .val (.int x5), .val (.ref b7), .unset, .unset, .unset, .unset, .unset, .unset, .unset, .unset, .unset] []))
  refine Go.st (fun _ k => XS.aload X20.here hx rfl (hb hby at_32) rfl rfl k) ?_
  refine Go.st (fun _ k => XS.iconst X20.here hx rfl (hb hby at_34) k) ?_
  refine Go.st (fun _ k => XS.iloadN X20.here hx rfl (hb hby at_35) rfl k) ?_
  refine Go.st (fun _ k => XS.sipush X20.here hx rfl (hb hby at_36) k) ?_
  refine Go.st (fun _ k => XS.iand X20.here hx rfl (hb hby at_39) rfl k) ?_
  show Go p e below s Q 4 18 (T20.setTop (mkF m 40 #[.val (.int x0), .val (.int x1), .val (.int x2), .val (.int x3), .val (.int x4), .val (.int x5), .val (.ref b7), .unset, .unset, .unset, .unset, .unset, .unset, .unset, .unset, .unset] [(.int (x3 &&& (255 : Int32))), (.int (3 : Int32)), (.ref b7)]))
  have f22 : (x3 &&& (255 : Int32)).toInt = x3.toInt % 256 := c_mask x3 (255 : Int32) 8 (by decide) (by decide)
  generalize hv_b3 : (x3 &&& (255 : Int32)) = b3 at f22 ⊢
  obtain ⟨T23, h23, X23, e23, W23, V23, st23⟩ := Vec.istI X20 hx hZ e20 h21 (j := (3 : Int32)) (by decide) (by decide) (g := (mkF m 40 #[.val (.int x0), .val (.int x1), .val (.int x2), .val (.int x3), .val (.int x4), .val (.int x5), .val (.ref b7), .unset, .unset, .unset, .unset, .unset, .unset, .unset, .unset, .unset] [(.int b3), (.int (3 : Int32)), (.ref b7)])) rfl rfl (hb hby at_40)
  have h24 : Vec Z h23 b7 .int (4 : Int32) (ints (lst [b0, b1, b2, b3])) := Vec.of_eq V23 (congrArg ints (upd_lst _ 3 _ (Nat.le_of_ble_eq_true rfl)))
  have K23 : Keep h0 h23 [] := K20.wr W23 (Or.inr szb7)
  have N23 := Fr.snoc X23 N20 Gb7
  refine Go.st st23 ?_
  clear st23
  clear h21 X20
  show Go p e below s Q 4 18 (T23.setTop (mkF m 41 #[.val (.int x0), .val (.int x1), .val (.int x2), .val (.int x3), .val (.int x4), .val (.int x5), .val (.ref b7), .unset, .unset, .unset, .unset, .unset, .unset, .unset, .unset, .unset] []))
  have hb0 : 0 ≤ b0.toInt ∧ b0.toInt ≤ 255 := by omega
  have hb1 : 0 ≤ b1.toInt ∧ b1.toInt ≤ 255 := by omega
  have hb2 : 0 ≤ b2.toInt ∧ b2.toInt ≤ 255 := by omega
  have hb3 : 0 ≤ b3.toInt ∧ b3.toInt ≤ 255 := by omega
  refine Go.st (fun _ k => XS.bipush X23.here hx rfl (hb hby at_41) k) ?_
  have f26 := liI_6
  have r27 : 0 ≤ (6 : Int32).toInt := by decide
  have r28 : (6 : Int32).toNatClampNeg ≤ 6 := by decide
  obtain ⟨T25, h25, k25, X25, e25, E25, A25, st25⟩ := newP X23 hx hZ (hw _ (List.mem_of_getElem? (i := 1) rfl)) e23 (g := (mkF m 43 #[.val (.int x0), .val (.int x1), .val (.int x2), .val (.int x3), .val (.int x4), .val (.int x5), .val (.ref b7), .unset, .unset, .unset, .unset, .unset, .unset, .unset, .unset, .unset] [(.int (6 : Int32))])) rfl (hb hby at_43) rfl (not_neg r27) (cap := 6) r28 (by decide) (by decide) (by decide)
  obtain ⟨b25, g25⟩ : ∃ z, z = h23.size := ⟨_, rfl⟩
  rw [← g25] at A25 st25
  have q29 : Hid (b7 ≠ b25) := Nat.ne_of_lt (Nat.lt_of_lt_of_le h24.lt (Nat.le_of_eq g25.symm))
  have h30 : Vec Z h25 b7 .int (4 : Int32) (ints (lst [b0, b1, b2, b3])) := h24.ext E25
  have Gb25 : Hid (n0 ≤ b25) := Nat.le_trans (Nat.le_trans Z0 K23.1) (Nat.le_of_eq g25.symm)
  have szb25 : Hid (h0.size ≤ b25) := Nat.le_trans K23.1 (Nat.le_of_eq g25.symm)
  have K25 : Keep h0 h25 [] := K23.ext E25
  have h31 : Vec Z h25 b25 .byte (6 : Int32) (ints (lst [(0 : Int32), (0 : Int32), (0 : Int32), (0 : Int32), (0 : Int32), (0 : Int32)])) := Vec.zerosI 6 (Vec.new A25 r27)
  refine Go.st st25 ?_
  clear st25
  clear h24 X23
  show Go p e below s Q 4 18 (T25.setTop (mkF m 45 #[.val (.int x0), .val (.int x1), .val (.int x2), .val (.int x3), .val (.int x4), .val (.int x5), .val (.ref b7), .unset, .unset, .unset, .unset, .unset, .unset, .unset, .unset, .unset] [(.ref b25)]))
  refine Go.st (fun _ k => XS.astore X25.here hx rfl (hb hby at_45) rfl rfl (l' := #[.val (.int x0), .val (.int x1), .val (.int x2), .val (.int x3), .val (.int x4), .val (.int x5), .val (.ref b7), .val (.ref b25), .unset, .unset, .unset, .unset, .unset, .unset, .unset, .unset]) rfl k) ?_
  refine Go.st (fun _ k => XS.aload X25.here hx rfl (hb hby at_47) rfl rfl k) ?_
  refine Go.st (fun _ k => XS.iconst X25.here hx rfl (hb hby at_49) k) ?_
  refine Go.st (fun _ k => XS.iload X25.here hx rfl (hb hby at_50) rfl k) ?_
  refine Go.st (fun _ k => XS.i2b X25.here hx rfl (hb hby at_52) rfl k) ?_
  obtain ⟨T32, h32, X32, e32, W32, V32, st32⟩ := Vec.istB X25 hx hZ e25 h31 (j := (0 : Int32)) (by decide) (by decide) (g := (mkF m 53 #[.val (.int x0), .val (.int x1), .val (.int x2), .val (.int x3), .val (.int x4), .val (.int x5), .val (.ref b7), .val (.ref b25), .unset, .unset, .unset, .unset, .unset, .unset, .unset, .unset] [(.int (x5.toInt8.toInt32)), (.int (0 : Int32)), (.ref b25)])) rfl rfl (hb hby at_53)
  have h33 : Vec Z h32 b7 .int (4 : Int32) (ints (lst [b0, b1, b2, b3])) := h30.other W32 q29
  have h34 : Vec Z h32 b25 .byte (6 : Int32) (ints (lst [((x5.toInt8.toInt32).toInt8.toInt32), (0 : Int32), (0 : Int32), (0 : Int32), (0 : Int32), (0 : Int32)])) := Vec.of_eq V32 (congrArg ints (upd_lst _ 0 _ (Nat.le_of_ble_eq_true rfl)))
  have K32 : Keep h0 h32 [] := K25.wr W32 (Or.inr szb25)
  have N32 := Fr.snoc X32 N23 Gb25
  refine Go.st st32 ?_
  clear st32
  clear h30 h31 X25
  show Go p e below s Q 4 18 (T32.setTop (mkF m 54 #[.val (.int x0), .val (.int x1), .val (.int x2), .val (.int x3), .val (.int x4), .val (.int x5), .val (.ref b7), .val (.ref b25), .unset, .unset, .unset, .unset, .unset, .unset, .unset, .unset] []))
  have f35 := c_i2b x5
  have f36 := rng32 (x5.toInt8.toInt32)
  have f37 := c_i2b (x5.toInt8.toInt32)
  have f38 := rng32 ((x5.toInt8.toInt32).toInt8.toInt32)
  generalize hv_y0 : ((x5.toInt8.toInt32).toInt8.toInt32) = y0 at f37 f38 h34
  refine Go.st (fun _ k => XS.aload X32.here hx rfl (hb hby at_54) rfl rfl k) ?_
  refine Go.st (fun _ k => XS.iconst X32.here hx rfl (hb hby at_56) k) ?_
  refine Go.st (fun _ k => XS.aload X32.here hx rfl (hb hby at_57) rfl rfl k) ?_
  refine Go.st (fun _ k => XS.iconst X32.here hx rfl (hb hby at_59) k) ?_
  refine Go.st (Vec.ildI X32 hx hZ e32 h33 (j := (0 : Int32)) (by decide) (by decide) (g := (mkF m 60 #[.val (.int x0), .val (.int x1), .val (.int x2), .val (.int x3), .val (.int x4), .val (.int x5), .val (.ref b7), .val (.ref b25), .unset, .unset, .unset, .unset, .unset, .unset, .unset, .unset] [(.int (0 : Int32)), (.ref b7), (.int (1 : Int32)), (.ref b25)])) rfl rfl (hb hby at_60)) ?_
  show Go p e below s Q 4 18 (T32.setTop (mkF m 61 #[.val (.int x0), .val (.int x1), .val (.int x2), .val (.int x3), .val (.int x4), .val (.int x5), .val (.ref b7), .val (.ref b25), .unset, .unset, .unset, .unset, .unset, .unset, .unset, .unset] [(.int b0), (.int (1 : Int32)), (.ref b25)]))
  refine Go.st (fun _ k => XS.i2b X32.here hx rfl (hb hby at_61) rfl k) ?_
  obtain ⟨T40, h40, X40, e40, W40, V40, st40⟩ := Vec.istB X32 hx hZ e32 h34 (j := (1 : Int32)) (by decide) (by decide) (g := (mkF m 62 #[.val (.int x0), .val (.int x1), .val (.int x2), .val (.int x3), .val (.int x4), .val (.int x5), .val (.ref b7), .val (.ref b25), .unset, .unset, .unset, .unset, .unset, .unset, .unset, .unset] [(.int (b0.toInt8.toInt32)), (.int (1 : Int32)), (.ref b25)])) rfl rfl (hb hby at_62)
  have h41 : Vec Z h40 b7 .int (4 : Int32) (ints (lst [b0, b1, b2, b3])) := h33.other W40 q29
  have h42 : Vec Z h40 b25 .byte (6 : Int32) (ints (lst [y0, ((b0.toInt8.toInt32).toInt8.toInt32), (0 : Int32), (0 : Int32), (0 : Int32), (0 : Int32)])) := Vec.of_eq V40 (congrArg ints (upd_lst _ 1 _ (Nat.le_of_ble_eq_true rfl)))
  have K40 : Keep h0 h40 [] := K32.wr W40 (Or.inr szb25)
  have N40 := Fr.snoc X40 N32 Gb25
  refine Go.st st40 ?_
  clear st40
  clear h33 h34 X32
  show Go p e below s Q 4 18 (T40.setTop (mkF m 63 #[.val (.int x0), .val (.int x1), .val (.int x2), .val (.int x3), .val (.int x4), .val (.int x5), .val (.ref b7), .val (.ref b25), .unset, .unset, .unset, .unset, .unset, .unset, .unset, .unset] []))
  have f43 := c_i2b b0
  have f44 := rng32 (b0.toInt8.toInt32)
  have f45 := c_i2b (b0.toInt8.toInt32)
  have f46 := rng32 ((b0.toInt8.toInt32).toInt8.toInt32)
  generalize hv_y1 : ((b0.toInt8.toInt32).toInt8.toInt32) = y1 at f45 f46 h42
  refine Go.st (fun _ k => XS.aload X40.here hx rfl (hb hby at_63) rfl rfl k) ?_
  refine Go.st (fun _ k => XS.iconst X40.here hx rfl (hb hby at_65) k) ?_
  refine Go.st (fun _ k => XS.aload X40.here hx rfl (hb hby at_66) rfl rfl k) ?_
  refine Go.st (fun _ k => XS.iconst X40.here hx rfl (hb hby at_68) k) ?_
  refine Go.st (Vec.ildI X40 hx hZ e40 h41 (j := (1 : Int32)) (by decide) (by decide) (g := (mkF m 69 #[.val (.int x0), .val (.int x1), .val (.int x2), .val (.int x3), .val (.int x4), .val (.int x5), .val (.ref b7), .val (.ref b25), .unset, .unset, .unset, .unset, .unset, .unset, .unset, .unset] [(.int (1 : Int32)), (.ref b7), (.int (2 : Int32)), (.ref b25)])) rfl rfl (hb hby at_69)) ?_
  show Go p e below s Q 4 18 (T40.setTop (mkF m 70 #[.val (.int x0), .val (.int x1), .val (.int x2), .val (.int x3), .val (.int x4), .val (.int x5), .val (.ref b7), .val (.ref b25), .unset, .unset, .unset, .unset, .unset, .unset, .unset, .unset] [(.int b1), (.int (2 : Int32)), (.ref b25)]))
  refine Go.st (fun _ k => XS.i2b X40.here hx rfl (hb hby at_70) rfl k) ?_
  obtain ⟨T48, h48, X48, e48, W48, V48, st48⟩ := Vec.istB X40 hx hZ e40 h42 (j := (2 : Int32)) (by decide) (by decide) (g := (mkF m 71 #[.val (.int x0), .val (.int x1), .val (.int x2), .val (.int x3), .val (.int x4), .val (.int x5), .val (.ref b7), .val (.ref b25), .unset, .unset, .unset, .unset, .unset, .unset, .unset, .unset] [(.int (b1.toInt8.toInt32)), (.int (2 : Int32)), (.ref b25)])) rfl rfl (hb hby at_71)
  have h49 : Vec Z h48 b7 .int (4 : Int32) (ints (lst [b0, b1, b2, b3])) := h41.other W48 q29
  have h50 : Vec Z h48 b25 .byte (6 : Int32) (ints (lst [y0, y1, ((b1.toInt8.toInt32).toInt8.toInt32), (0 : Int32), (0 : Int32), (0 : Int32)])) := Vec.of_eq V48 (congrArg ints (upd_lst _ 2 _ (Nat.le_of_ble_eq_true rfl)))
  have K48 : Keep h0 h48 [] := K40.wr W48 (Or.inr szb25)
  have N48 := Fr.snoc X48 N40 Gb25
  refine Go.st st48 ?_
  clear st48
  clear h41 h42 X40
  show Go p e below s Q 4 18 (T48.setTop (mkF m 72 #[.val (.int x0), .val (.int x1), .val (.int x2), .val (.int x3), .val (.int x4), .val (.int x5), .val (.ref b7), .val (.ref b25), .unset, .unset, .unset, .unset, .unset, .unset, .unset, .unset] []))
  have f51 := c_i2b b1
  have f52 := rng32 (b1.toInt8.toInt32)
  have f53 := c_i2b (b1.toInt8.toInt32)
  have f54 := rng32 ((b1.toInt8.toInt32).toInt8.toInt32)
  generalize hv_y2 : ((b1.toInt8.toInt32).toInt8.toInt32) = y2 at f53 f54 h50
  refine Go.st (fun _ k => XS.aload X48.here hx rfl (hb hby at_72) rfl rfl k) ?_
  refine Go.st (fun _ k => XS.iconst X48.here hx rfl (hb hby at_74) k) ?_
  refine Go.st (fun _ k => XS.aload X48.here hx rfl (hb hby at_75) rfl rfl k) ?_
  refine Go.st (fun _ k => XS.iconst X48.here hx rfl (hb hby at_77) k) ?_
  refine Go.st (Vec.ildI X48 hx hZ e48 h49 (j := (2 : Int32)) (by decide) (by decide) (g := (mkF m 78 #[.val (.int x0), .val (.int x1), .val (.int x2), .val (.int x3), .val (.int x4), .val (.int x5), .val (.ref b7), .val (.ref b25), .unset, .unset, .unset, .unset, .unset, .unset, .unset, .unset] [(.int (2 : Int32)), (.ref b7), (.int (3 : Int32)), (.ref b25)])) rfl rfl (hb hby at_78)) ?_
  show Go p e below s Q 4 18 (T48.setTop (mkF m 79 #[.val (.int x0), .val (.int x1), .val (.int x2), .val (.int x3), .val (.int x4), .val (.int x5), .val (.ref b7), .val (.ref b25), .unset, .unset, .unset, .unset, .unset, .unset, .unset, .unset] [(.int b2), (.int (3 : Int32)), (.ref b25)]))
  refine Go.st (fun _ k => XS.i2b X48.here hx rfl (hb hby at_79) rfl k) ?_
  obtain ⟨T56, h56, X56, e56, W56, V56, st56⟩ := Vec.istB X48 hx hZ e48 h50 (j := (3 : Int32)) (by decide) (by decide) (g := (mkF m 80 #[.val (.int x0), .val (.int x1), .val (.int x2), .val (.int x3), .val (.int x4), .val (.int x5), .val (.ref b7), .val (.ref b25), .unset, .unset, .unset, .unset, .unset, .unset, .unset, .unset] [(.int (b2.toInt8.toInt32)), (.int (3 : Int32)), (.ref b25)])) rfl rfl (hb hby at_80)
  have h57 : Vec Z h56 b7 .int (4 : Int32) (ints (lst [b0, b1, b2, b3])) := h49.other W56 q29
  have h58 : Vec Z h56 b25 .byte (6 : Int32) (ints (lst [y0, y1, y2, ((b2.toInt8.toInt32).toInt8.toInt32), (0 : Int32), (0 : Int32)])) := Vec.of_eq V56 (congrArg ints (upd_lst _ 3 _ (Nat.le_of_ble_eq_true rfl)))
  have K56 : Keep h0 h56 [] := K48.wr W56 (Or.inr szb25)
  have N56 := Fr.snoc X56 N48 Gb25
  refine Go.st st56 ?_
  clear st56
  clear h49 h50 X48
  show Go p e below s Q 4 18 (T56.setTop (mkF m 81 #[.val (.int x0), .val (.int x1), .val (.int x2), .val (.int x3), .val (.int x4), .val (.int x5), .val (.ref b7), .val (.ref b25), .unset, .unset, .unset, .unset, .unset, .unset, .unset, .unset] []))
  have f59 := c_i2b b2
  have f60 := rng32 (b2.toInt8.toInt32)
  have f61 := c_i2b (b2.toInt8.toInt32)
  have f62 := rng32 ((b2.toInt8.toInt32).toInt8.toInt32)
  generalize hv_y3 : ((b2.toInt8.toInt32).toInt8.toInt32) = y3 at f61 f62 h58
  refine Go.st (fun _ k => XS.aload X56.here hx rfl (hb hby at_81) rfl rfl k) ?_
  refine Go.st (fun _ k => XS.iconst X56.here hx rfl (hb hby at_83) k) ?_
  refine Go.st (fun _ k => XS.aload X56.here hx rfl (hb hby at_84) rfl rfl k) ?_
  refine Go.st (fun _ k => XS.iconst X56.here hx rfl (hb hby at_86) k) ?_
  refine Go.st (Vec.ildI X56 hx hZ e56 h57 (j := (3 : Int32)) (by decide) (by decide) (g := (mkF m 87 #[.val (.int x0), .val (.int x1), .val (.int x2), .val (.int x3), .val (.int x4), .val (.int x5), .val (.ref b7), .val (.ref b25), .unset, .unset, .unset, .unset, .unset, .unset, .unset, .unset] [(.int (3 : Int32)), (.ref b7), (.int (4 : Int32)), (.ref b25)])) rfl rfl (hb hby at_87)) ?_
  show Go p e below s Q 4 18 (T56.setTop (mkF m 88 #[.val (.int x0), .val (.int x1), .val (.int x2), .val (.int x3), .val (.int x4), .val (.int x5), .val (.ref b7), .val (.ref b25), .unset, .unset, .unset, .unset, .unset, .unset, .unset, .unset] [(.int b3), (.int (4 : Int32)), (.ref b25)]))
  refine Go.st (fun _ k => XS.i2b X56.here hx rfl (hb hby at_88) rfl k) ?_
  obtain ⟨T64, h64, X64, e64, W64, V64, st64⟩ := Vec.istB X56 hx hZ e56 h58 (j := (4 : Int32)) (by decide) (by decide) (g := (mkF m 89 #[.val (.int x0), .val (.int x1), .val (.int x2), .val (.int x3), .val (.int x4), .val (.int x5), .val (.ref b7), .val (.ref b25), .unset, .unset, .unset, .unset, .unset, .unset, .unset, .unset] [(.int (b3.toInt8.toInt32)), (.int (4 : Int32)), (.ref b25)])) rfl rfl (hb hby at_89)
  have h65 : Vec Z h64 b7 .int (4 : Int32) (ints (lst [b0, b1, b2, b3])) := h57.other W64 q29
  have h66 : Vec Z h64 b25 .byte (6 : Int32) (ints (lst [y0, y1, y2, y3, ((b3.toInt8.toInt32).toInt8.toInt32), (0 : Int32)])) := Vec.of_eq V64 (congrArg ints (upd_lst _ 4 _ (Nat.le_of_ble_eq_true rfl)))
  have K64 : Keep h0 h64 [] := K56.wr W64 (Or.inr szb25)
  have N64 := Fr.snoc X64 N56 Gb25
  refine Go.st st64 ?_
  clear st64
  clear h57 h58 X56
  show Go p e below s Q 4 18 (T64.setTop (mkF m 90 #[.val (.int x0), .val (.int x1), .val (.int x2), .val (.int x3), .val (.int x4), .val (.int x5), .val (.ref b7), .val (.ref b25), .unset, .unset, .unset, .unset, .unset, .unset, .unset, .unset] []))
  have f67 := c_i2b b3
  have f68 := rng32 (b3.toInt8.toInt32)
  have f69 := c_i2b (b3.toInt8.toInt32)
  have f70 := rng32 ((b3.toInt8.toInt32).toInt8.toInt32)
  generalize hv_y4 : ((b3.toInt8.toInt32).toInt8.toInt32) = y4 at f69 f70 h66
  refine Go.st (fun _ k => XS.aload X64.here hx rfl (hb hby at_90) rfl rfl k) ?_
  refine Go.st (fun _ k => XS.iconst X64.here hx rfl (hb hby at_92) k) ?_
  refine Go.st (fun _ k => XS.iload X64.here hx rfl (hb hby at_93) rfl k) ?_
  refine Go.st (fun _ k => XS.bipush X64.here hx rfl (hb hby at_95) k) ?_
  refine Go.st (fun _ k => XS.ishr X64.here hx rfl (hb hby at_97) rfl k) ?_
  refine Go.st (fun _ k => XS.i2b X64.here hx rfl (hb hby at_98) rfl k) ?_
  show Go p e below s Q 4 18 (T64.setTop (mkF m 99 #[.val (.int x0), .val (.int x1), .val (.int x2), .val (.int x3), .val (.int x4), .val (.int x5), .val (.ref b7), .val (.ref b25), .unset, .unset, .unset, .unset, .unset, .unset, .unset, .unset] [(.int ((x5 >>> ((8 : Int32) &&& 31)).toInt8.toInt32)), (.int (5 : Int32)), (.ref b25)]))
  obtain ⟨T71, h71, X71, e71, W71, V71, st71⟩ := Vec.istB X64 hx hZ e64 h66 (j := (5 : Int32)) (by decide) (by decide) (g := (mkF m 99 #[.val (.int x0), .val (.int x1), .val (.int x2), .val (.int x3), .val (.int x4), .val (.int x5), .val (.ref b7), .val (.ref b25), .unset, .unset, .unset, .unset, .unset, .unset, .unset, .unset] [(.int ((x5 >>> ((8 : Int32) &&& 31)).toInt8.toInt32)), (.int (5 : Int32)), (.ref b25)])) rfl rfl (hb hby at_99)
  have h72 : Vec Z h71 b7 .int (4 : Int32) (ints (lst [b0, b1, b2, b3])) := h65.other W71 q29
  have h73 : Vec Z h71 b25 .byte (6 : Int32) (ints (lst [y0, y1, y2, y3, y4, (((x5 >>> ((8 : Int32) &&& 31)).toInt8.toInt32).toInt8.toInt32)])) := Vec.of_eq V71 (congrArg ints (upd_lst _ 5 _ (Nat.le_of_ble_eq_true rfl)))
  have K71 : Keep h0 h71 [] := K64.wr W71 (Or.inr szb25)
  have N71 := Fr.snoc X71 N64 Gb25
  refine Go.st st71 ?_
  clear st71
  clear h65 h66 X64
  show Go p e below s Q 4 18 (T71.setTop (mkF m 100 #[.val (.int x0), .val (.int x1), .val (.int x2), .val (.int x3), .val (.int x4), .val (.int x5), .val (.ref b7), .val (.ref b25), .unset, .unset, .unset, .unset, .unset, .unset, .unset, .unset] []))
  have f74 := liI_8
  have f75 : (x5 >>> ((8 : Int32) &&& 31)).toInt = x5.toInt / 256 := c_ishr x5 (8 : Int32) 8 (by decide)
  have f76 := rng32 (x5 >>> ((8 : Int32) &&& 31))
  have f77 := c_i2b (x5 >>> ((8 : Int32) &&& 31))
  have f78 := rng32 ((x5 >>> ((8 : Int32) &&& 31)).toInt8.toInt32)
  have f79 := c_i2b ((x5 >>> ((8 : Int32) &&& 31)).toInt8.toInt32)
  have f80 := rng32 (((x5 >>> ((8 : Int32) &&& 31)).toInt8.toInt32).toInt8.toInt32)
  generalize hv_y5 : (((x5 >>> ((8 : Int32) &&& 31)).toInt8.toInt32).toInt8.toInt32) = y5 at f79 f80 h73
  have hy1 : y1.toInt % 256 = b0.toInt := by omega
  have hy2 : y2.toInt % 256 = b1.toInt := by omega
  have hy3 : y3.toInt % 256 = b2.toInt := by omega
  have hy4 : y4.toInt % 256 = b3.toInt := by omega
  have hz0 : -128 ≤ y0.toInt ∧ y0.toInt < 128 := by omega
  have hz1 : -128 ≤ y1.toInt ∧ y1.toInt < 128 := by omega
  have hz2 : -128 ≤ y2.toInt ∧ y2.toInt < 128 := by omega
  have hz3 : -128 ≤ y3.toInt ∧ y3.toInt < 128 := by omega
  have hz4 : -128 ≤ y4.toInt ∧ y4.toInt < 128 := by omega
  have hz5 : -128 ≤ y5.toInt ∧ y5.toInt < 128 := by omega
  clear f1 f2 f3 f4 f5 f6 f8 f12 f13 f16 f19 f22 f26 f35 f36 f37 f38 f43 f44 f45 f46 f51 f52 f53 f54 f59 f60 f61 f62 f67 f68 f69 f70 f74 f75 f76 f77 f78 f79 f80
  replace hb0 : Hid _ := hb0
  replace hb1 : Hid _ := hb1
  replace hb2 : Hid _ := hb2
  replace hb3 : Hid _ := hb3
  replace hy1 : Hid _ := hy1
  replace hy2 : Hid _ := hy2
  replace hy3 : Hid _ := hy3
  replace hy4 : Hid _ := hy4
  replace hz0 : Hid _ := hz0
  replace hz1 : Hid _ := hz1
  replace hz2 : Hid _ := hz2
  replace hz3 : Hid _ := hz3
  replace hz4 : Hid _ := hz4
  replace hz5 : Hid _ := hz5
  refine Go.st (fun _ k => XS.iload X71.here hx rfl (hb hby at_100) rfl k) ?_
  refine Go.st (X71.ldcInt hx hown (mvT hZ (hw _ (List.mem_of_getElem? (i := 2) rfl))) (g := (mkF m 102 #[.val (.int x0), .val (.int x1), .val (.int x2), .val (.int x3), .val (.int x4), .val (.int x5), .val (.ref b7), .val (.ref b25), .unset, .unset, .unset, .unset, .unset, .unset, .unset, .unset] [(.int x4)])) rfl (hb hby at_102)) ?_
  show Go p e below s Q 4 18 (T71.setTop (mkF m 104 #[.val (.int x0), .val (.int x1), .val (.int x2), .val (.int x3), .val (.int x4), .val (.int x5), .val (.ref b7), .val (.ref b25), .unset, .unset, .unset, .unset, .unset, .unset, .unset, .unset] [(.int (2147483647 : Int32)), (.int x4)]))
  refine Go.st (fun _ k => XS.iand X71.here hx rfl (hb hby at_104) rfl k) ?_
  refine Go.st (fun _ k => XS.iconst X71.here hx rfl (hb hby at_105) k) ?_
  refine Go.st (fun _ k => iremM X71 hx rfl (hb hby at_106) rfl (by decide) k) ?_
  refine Go.st (fun _ k => XS.istore X71.here hx rfl (hb hby at_107) rfl (l' := #[.val (.int x0), .val (.int x1), .val (.int x2), .val (.int x3), .val (.int x4), .val (.int x5), .val (.ref b7), .val (.ref b25), .val (.int ((x4 &&& (2147483647 : Int32)) % (5 : Int32))), .unset, .unset, .unset, .unset, .unset, .unset, .unset]) rfl k) ?_
  show Go p e below s Q 4 18 (T71.setTop (mkF m 109 #[.val (.int x0), .val (.int x1), .val (.int x2), .val (.int x3), .val (.int x4), .val (.int x5), .val (.ref b7), .val (.ref b25), .val (.int ((x4 &&& (2147483647 : Int32)) % (5 : Int32))), .unset, .unset, .unset, .unset, .unset, .unset, .unset] []))
  have f81 := rng32 x4
  have f82 := liI_2147483647
  have f83 : (x4 &&& (2147483647 : Int32)).toInt = x4.toInt % 2147483648 := c_mask x4 (2147483647 : Int32) 31 (by decide) (by decide)
  have f84 := liI_5
  have f85 := c_irem (x4 &&& (2147483647 : Int32)) (5 : Int32) 5 (by decide)
  have f86 := rng32 ((x4 &&& (2147483647 : Int32)) % (5 : Int32))
  generalize hv_v87 : ((x4 &&& (2147483647 : Int32)) % (5 : Int32)) = v87 at f85 f86 ⊢
  have f88 : 0 ≤ v87.toInt ∧ v87.toInt ≤ 4 := by omega
  clear f81 f82 f83 f84 f85 f86
  refine Go.st (fun _ k => XS.iconst X71.here hx rfl (hb hby at_109) k) ?_
  have f90 := liI_5
  have r91 : 0 ≤ (5 : Int32).toInt := by decide
  have r92 : (5 : Int32).toNatClampNeg ≤ 5 := by decide
  obtain ⟨T89, h89, k89, X89, e89, E89, A89, st89⟩ := newP X71 hx hZ (hw _ (List.mem_of_getElem? (i := 0) rfl)) e71 (g := (mkF m 110 #[.val (.int x0), .val (.int x1), .val (.int x2), .val (.int x3), .val (.int x4), .val (.int x5), .val (.ref b7), .val (.ref b25), .val (.int v87), .unset, .unset, .unset, .unset, .unset, .unset, .unset] [(.int (5 : Int32))])) rfl (hb hby at_110) rfl (not_neg r91) (cap := 5) r92 (by decide) (by decide) (by decide)
  obtain ⟨b89, g89⟩ : ∃ z, z = h71.size := ⟨_, rfl⟩
  rw [← g89] at A89 st89
  have q93 : Hid (b7 ≠ b89) := Nat.ne_of_lt (Nat.lt_of_lt_of_le h72.lt (Nat.le_of_eq g89.symm))
  have q94 : Hid (b25 ≠ b89) := Nat.ne_of_lt (Nat.lt_of_lt_of_le h73.lt (Nat.le_of_eq g89.symm))
  have h95 : Vec Z h89 b7 .int (4 : Int32) (ints (lst [b0, b1, b2, b3])) := h72.ext E89
  have h96 : Vec Z h89 b25 .byte (6 : Int32) (ints (lst [y0, y1, y2, y3, y4, y5])) := h73.ext E89
  have Gb89 : Hid (n0 ≤ b89) := Nat.le_trans (Nat.le_trans Z0 K71.1) (Nat.le_of_eq g89.symm)
  have szb89 : Hid (h0.size ≤ b89) := Nat.le_trans K71.1 (Nat.le_of_eq g89.symm)
  have K89 : Keep h0 h89 [] := K71.ext E89
  have h97 : Vec Z h89 b89 .int (5 : Int32) (ints (lst [(0 : Int32), (0 : Int32), (0 : Int32), (0 : Int32), (0 : Int32)])) := Vec.zerosI 5 (Vec.new A89 r91)
  refine Go.st st89 ?_
  clear st89
  clear h72 h73 X71
  show Go p e below s Q 4 18 (T89.setTop (mkF m 112 #[.val (.int x0), .val (.int x1), .val (.int x2), .val (.int x3), .val (.int x4), .val (.int x5), .val (.ref b7), .val (.ref b25), .val (.int v87), .unset, .unset, .unset, .unset, .unset, .unset, .unset] [(.ref b89)]))
  refine Go.st (fun _ k => XS.astore X89.here hx rfl (hb hby at_112) rfl rfl (l' := #[.val (.int x0), .val (.int x1), .val (.int x2), .val (.int x3), .val (.int x4), .val (.int x5), .val (.ref b7), .val (.ref b25), .val (.int v87), .val (.ref b89), .unset, .unset, .unset, .unset, .unset, .unset]) rfl k) ?_
  show Go p e below s Q 4 18 (T89.setTop (mkF m 114 #[.val (.int x0), .val (.int x1), .val (.int x2), .val (.int x3), .val (.int x4), .val (.int x5), .val (.ref b7), .val (.ref b25), .val (.int v87), .val (.ref b89), .unset, .unset, .unset, .unset, .unset, .unset] []))
  have hst0 : Hid ((0 : Int32).toInt < 0 ∨ ∃ p l m, Cpl (BB b0 b1 b2 b3) 0 (0 : Int32).toInt p l m) := Or.inr ⟨0, 128, 191, Or.inl ⟨by decide, rfl, rfl, rfl⟩⟩
  refine Go.st (fun _ k => XS.aload X89.here hx rfl (hb hby at_114) rfl rfl k) ?_
  refine Go.st (fun _ k => XS.iconst X89.here hx rfl (hb hby at_116) k) ?_
  refine Go.st (fun _ k => XS.iconst X89.here hx rfl (hb hby at_117) k) ?_
  obtain ⟨T98, h98, X98, e98, W98, V98, st98⟩ := Vec.istI X89 hx hZ e89 h97 (j := (0 : Int32)) (by decide) (by decide) (g := (mkF m 118 #[.val (.int x0), .val (.int x1), .val (.int x2), .val (.int x3), .val (.int x4), .val (.int x5), .val (.ref b7), .val (.ref b25), .val (.int v87), .val (.ref b89), .unset, .unset, .unset, .unset, .unset, .unset] [(.int (0 : Int32)), (.int (0 : Int32)), (.ref b89)])) rfl rfl (hb hby at_118)
  have h99 : Vec Z h98 b7 .int (4 : Int32) (ints (lst [b0, b1, b2, b3])) := h95.other W98 q93
  have h100 : Vec Z h98 b25 .byte (6 : Int32) (ints (lst [y0, y1, y2, y3, y4, y5])) := h96.other W98 q94
  have h101 : Vec Z h98 b89 .int (5 : Int32) (ints (lst [(0 : Int32), (0 : Int32), (0 : Int32), (0 : Int32), (0 : Int32)])) := Vec.of_eq V98 (congrArg ints (upd_lst _ 0 _ (Nat.le_of_ble_eq_true rfl)))
  have K98 : Keep h0 h98 [] := K89.wr W98 (Or.inr szb89)
  have N98 := Fr.snoc X98 N71 Gb89
  refine Go.st st98 ?_
  clear st98
  clear h95 h96 h97 X89
  show Go p e below s Q 4 18 (T98.setTop (mkF m 119 #[.val (.int x0), .val (.int x1), .val (.int x2), .val (.int x3), .val (.int x4), .val (.int x5), .val (.ref b7), .val (.ref b25), .val (.int v87), .val (.ref b89), .unset, .unset, .unset, .unset, .unset, .unset] []))
  refine Go.st (fun _ k => XS.aload X98.here hx rfl (hb hby at_119) rfl rfl k) ?_
  refine Go.st (fun _ k => XS.iconst X98.here hx rfl (hb hby at_121) k) ?_
  refine Go.st (fun _ k => XS.aload X98.here hx rfl (hb hby at_122) rfl rfl k) ?_
  refine Go.st (fun _ k => XS.aload X98.here hx rfl (hb hby at_124) rfl rfl k) ?_
  refine Go.st (fun _ k => XS.iconst X98.here hx rfl (hb hby at_126) k) ?_
  refine Go.st (Vec.ildI X98 hx hZ e98 h101 (j := (0 : Int32)) (by decide) (by decide) (g := (mkF m 127 #[.val (.int x0), .val (.int x1), .val (.int x2), .val (.int x3), .val (.int x4), .val (.int x5), .val (.ref b7), .val (.ref b25), .val (.int v87), .val (.ref b89), .unset, .unset, .unset, .unset, .unset, .unset] [(.int (0 : Int32)), (.ref b89), (.ref b7), (.int (1 : Int32)), (.ref b89)])) rfl rfl (hb hby at_127)) ?_
  show Go p e below s Q 4 18 (T98.setTop (mkF m 128 #[.val (.int x0), .val (.int x1), .val (.int x2), .val (.int x3), .val (.int x4), .val (.int x5), .val (.ref b7), .val (.ref b25), .val (.int v87), .val (.ref b89), .unset, .unset, .unset, .unset, .unset, .unset] [(.int (0 : Int32)), (.ref b7), (.int (1 : Int32)), (.ref b89)]))
  refine Go.st (fun _ k => XS.iconst X98.here hx rfl (hb hby at_128) k) ?_
  have f104 := rng32 b0
  have f105 := rng32 b1
  have f106 := rng32 b2
  have f107 := rng32 b3
  have f108 := liI_0
  obtain ⟨_, _, ⟨T103, L103, k103, n103⟩, -, X103, ⟨Lc103, hQ103, l103, y103, z103⟩, st103⟩ := Jvm.LawKit.callS X98 hx (y := (⟨"com/example/ballast/ballast/json/Utf8CheckPinLaw", "step", "([III)I"⟩ : MethodName)) hown (mvT hZ (hw _ (List.mem_of_getElem? (i := 3) rfl))) (mvT hZ (hw _ (List.mem_of_getElem? (i := 4) rfl))) (mvT hZ (hw _ (List.mem_of_getElem? (i := 5) rfl))) (mvT hZ (hw _ (List.mem_of_getElem? (i := 6) rfl))) (by decide) (backOf (W := 2) (rms_0 l Z a0 hw [] b7 (0 : Int32) b0 b1 b2 b3 h98 n0 (Nat.le_trans Z0 K98.1) h99 hb0 hb1 hb2 hb3 hst0) hZ (hw _ (List.mem_of_getElem? (i := 6) rfl)) (hw _ (List.mem_of_getElem? (i := 5) rfl)) (by decide) (by decide)) (g := (mkF m 129 #[.val (.int x0), .val (.int x1), .val (.int x2), .val (.int x3), .val (.int x4), .val (.int x5), .val (.ref b7), .val (.ref b25), .val (.int v87), .val (.ref b89), .unset, .unset, .unset, .unset, .unset, .unset] [(.int (0 : Int32)), (.int (0 : Int32)), (.ref b7), (.int (1 : Int32)), (.ref b89)])) rfl (by rw [hml]; rfl) (argsL := [(.ref b7), (.int (0 : Int32)), (.int (0 : Int32))]) (rest := [(.int (1 : Int32)), (.ref b89)]) (lenOf pd_3 rfl) rfl (by show 2 * 0 + _ ≤ _; exact Nat.le_of_eq rfl) (hb hby at_129) (fun _ _ => ⟨rfl, e98, (by decide : 3 + 0 ≤ _), (by decide : 15 + 0 ≤ _)⟩)
  dsimp only [Pt.U, Pt.locs, Pt.cells, Pt.slots] at X103 l103 y103 z103 st103 hQ103
  subst y103 z103
  obtain ⟨r_109, rfl, N103q, f110, e103⟩ := hQ103
  have N103 : Fr n0 L103 := by rw [l103]; exact Fr.app N98 N103q
  refine Go.st st103 ?_
  clear st103
  clear X98
  show Go p e below s Q 4 18 (T103.setTop (mkF m 132 #[.val (.int x0), .val (.int x1), .val (.int x2), .val (.int x3), .val (.int x4), .val (.int x5), .val (.ref b7), .val (.ref b25), .val (.int v87), .val (.ref b89), .unset, .unset, .unset, .unset, .unset, .unset] [(.int r_109), (.int (1 : Int32)), (.ref b89)]))
  have f111 := rng32 r_109
  have hR0 : RefStep (BB b0 b1 b2 b3) 0 (0 : Int32).toInt r_109.toInt := refStep (BB_rng hb0 hb1 hb2 hb3) f110.1 (stepIs_of f110.2)
  clear f110
  have hst1 : Hid (r_109.toInt < 0 ∨ ∃ p l m, Cpl (BB b0 b1 b2 b3) 1 r_109.toInt p l m) := next_cpl hR0 hst0 (fun _ _ _ h => cpl_nn h)
  obtain ⟨T112, h112, X112, e112, W112, V112, st112⟩ := Vec.istI X103 hx hZ e103 h101 (j := (1 : Int32)) (by decide) (by decide) (g := (mkF m 132 #[.val (.int x0), .val (.int x1), .val (.int x2), .val (.int x3), .val (.int x4), .val (.int x5), .val (.ref b7), .val (.ref b25), .val (.int v87), .val (.ref b89), .unset, .unset, .unset, .unset, .unset, .unset] [(.int r_109), (.int (1 : Int32)), (.ref b89)])) rfl rfl (hb hby at_132)
  have h113 : Vec Z h112 b7 .int (4 : Int32) (ints (lst [b0, b1, b2, b3])) := h99.other W112 q93
  have h114 : Vec Z h112 b25 .byte (6 : Int32) (ints (lst [y0, y1, y2, y3, y4, y5])) := h100.other W112 q94
  have h115 : Vec Z h112 b89 .int (5 : Int32) (ints (lst [(0 : Int32), r_109, (0 : Int32), (0 : Int32), (0 : Int32)])) := Vec.of_eq V112 (congrArg ints (upd_lst _ 1 _ (Nat.le_of_ble_eq_true rfl)))
  have K112 : Keep h0 h112 [] := K98.wr W112 (Or.inr szb89)
  have N112 := Fr.snoc X112 N103 Gb89
  refine Go.st st112 ?_
  clear st112
  clear h99 h100 h101 X103
  show Go p e below s Q 4 18 (T112.setTop (mkF m 133 #[.val (.int x0), .val (.int x1), .val (.int x2), .val (.int x3), .val (.int x4), .val (.int x5), .val (.ref b7), .val (.ref b25), .val (.int v87), .val (.ref b89), .unset, .unset, .unset, .unset, .unset, .unset] []))
  refine Go.st (fun _ k => XS.aload X112.here hx rfl (hb hby at_133) rfl rfl k) ?_
  refine Go.st (fun _ k => XS.iconst X112.here hx rfl (hb hby at_135) k) ?_
  refine Go.st (fun _ k => XS.aload X112.here hx rfl (hb hby at_136) rfl rfl k) ?_
  refine Go.st (fun _ k => XS.aload X112.here hx rfl (hb hby at_138) rfl rfl k) ?_
  refine Go.st (fun _ k => XS.iconst X112.here hx rfl (hb hby at_140) k) ?_
  refine Go.st (Vec.ildI X112 hx hZ e112 h115 (j := (1 : Int32)) (by decide) (by decide) (g := (mkF m 141 #[.val (.int x0), .val (.int x1), .val (.int x2), .val (.int x3), .val (.int x4), .val (.int x5), .val (.ref b7), .val (.ref b25), .val (.int v87), .val (.ref b89), .unset, .unset, .unset, .unset, .unset, .unset] [(.int (1 : Int32)), (.ref b89), (.ref b7), (.int (2 : Int32)), (.ref b89)])) rfl rfl (hb hby at_141)) ?_
  show Go p e below s Q 4 18 (T112.setTop (mkF m 142 #[.val (.int x0), .val (.int x1), .val (.int x2), .val (.int x3), .val (.int x4), .val (.int x5), .val (.ref b7), .val (.ref b25), .val (.int v87), .val (.ref b89), .unset, .unset, .unset, .unset, .unset, .unset] [(.int r_109), (.ref b7), (.int (2 : Int32)), (.ref b89)]))
  refine Go.st (fun _ k => XS.iconst X112.here hx rfl (hb hby at_142) k) ?_
  have f118 := liI_1
  obtain ⟨_, _, ⟨T117, L117, k117, n117⟩, -, X117, ⟨Lc117, hQ117, l117, y117, z117⟩, st117⟩ := Jvm.LawKit.callS X112 hx (y := (⟨"com/example/ballast/ballast/json/Utf8CheckPinLaw", "step", "([III)I"⟩ : MethodName)) hown (mvT hZ (hw _ (List.mem_of_getElem? (i := 3) rfl))) (mvT hZ (hw _ (List.mem_of_getElem? (i := 4) rfl))) (mvT hZ (hw _ (List.mem_of_getElem? (i := 5) rfl))) (mvT hZ (hw _ (List.mem_of_getElem? (i := 6) rfl))) (by decide) (backOf (W := 2) (rms_1 l Z a0 hw [] b7 r_109 b0 b1 b2 b3 h112 n0 (Nat.le_trans Z0 K112.1) h113 hb0 hb1 hb2 hb3 hst1) hZ (hw _ (List.mem_of_getElem? (i := 6) rfl)) (hw _ (List.mem_of_getElem? (i := 5) rfl)) (by decide) (by decide)) (g := (mkF m 143 #[.val (.int x0), .val (.int x1), .val (.int x2), .val (.int x3), .val (.int x4), .val (.int x5), .val (.ref b7), .val (.ref b25), .val (.int v87), .val (.ref b89), .unset, .unset, .unset, .unset, .unset, .unset] [(.int (1 : Int32)), (.int r_109), (.ref b7), (.int (2 : Int32)), (.ref b89)])) rfl (by rw [hml]; rfl) (argsL := [(.ref b7), (.int r_109), (.int (1 : Int32))]) (rest := [(.int (2 : Int32)), (.ref b89)]) (lenOf pd_3 rfl) rfl (by show 2 * 0 + _ ≤ _; exact Nat.le_of_eq rfl) (hb hby at_143) (fun _ _ => ⟨rfl, e112, (by decide : 3 + 0 ≤ _), (by decide : 15 + 0 ≤ _)⟩)
  dsimp only [Pt.U, Pt.locs, Pt.cells, Pt.slots] at X117 l117 y117 z117 st117 hQ117
  subst y117 z117
  obtain ⟨r_119, rfl, N117q, f120, e117⟩ := hQ117
  have N117 : Fr n0 L117 := by rw [l117]; exact Fr.app N112 N117q
  refine Go.st st117 ?_
  clear st117
  clear X112
  show Go p e below s Q 4 18 (T117.setTop (mkF m 146 #[.val (.int x0), .val (.int x1), .val (.int x2), .val (.int x3), .val (.int x4), .val (.int x5), .val (.ref b7), .val (.ref b25), .val (.int v87), .val (.ref b89), .unset, .unset, .unset, .unset, .unset, .unset] [(.int r_119), (.int (2 : Int32)), (.ref b89)]))
  have f121 := rng32 r_119
  have hR1 : RefStep (BB b0 b1 b2 b3) 1 r_109.toInt r_119.toInt := refStep (BB_rng hb0 hb1 hb2 hb3) f120.1 (stepIs_of f120.2)
  clear f120
  have hst2 : Hid (r_119.toInt < 0 ∨ ∃ p l m, Cpl (BB b0 b1 b2 b3) 2 r_119.toInt p l m) := next_cpl hR1 hst1 (fun _ _ _ h => cpl_nn h)
  obtain ⟨T122, h122, X122, e122, W122, V122, st122⟩ := Vec.istI X117 hx hZ e117 h115 (j := (2 : Int32)) (by decide) (by decide) (g := (mkF m 146 #[.val (.int x0), .val (.int x1), .val (.int x2), .val (.int x3), .val (.int x4), .val (.int x5), .val (.ref b7), .val (.ref b25), .val (.int v87), .val (.ref b89), .unset, .unset, .unset, .unset, .unset, .unset] [(.int r_119), (.int (2 : Int32)), (.ref b89)])) rfl rfl (hb hby at_146)
  have h123 : Vec Z h122 b7 .int (4 : Int32) (ints (lst [b0, b1, b2, b3])) := h113.other W122 q93
  have h124 : Vec Z h122 b25 .byte (6 : Int32) (ints (lst [y0, y1, y2, y3, y4, y5])) := h114.other W122 q94
  have h125 : Vec Z h122 b89 .int (5 : Int32) (ints (lst [(0 : Int32), r_109, r_119, (0 : Int32), (0 : Int32)])) := Vec.of_eq V122 (congrArg ints (upd_lst _ 2 _ (Nat.le_of_ble_eq_true rfl)))
  have K122 : Keep h0 h122 [] := K112.wr W122 (Or.inr szb89)
  have N122 := Fr.snoc X122 N117 Gb89
  refine Go.st st122 ?_
  clear st122
  clear h113 h114 h115 X117
  show Go p e below s Q 4 18 (T122.setTop (mkF m 147 #[.val (.int x0), .val (.int x1), .val (.int x2), .val (.int x3), .val (.int x4), .val (.int x5), .val (.ref b7), .val (.ref b25), .val (.int v87), .val (.ref b89), .unset, .unset, .unset, .unset, .unset, .unset] []))
  refine Go.st (fun _ k => XS.aload X122.here hx rfl (hb hby at_147) rfl rfl k) ?_
  refine Go.st (fun _ k => XS.iconst X122.here hx rfl (hb hby at_149) k) ?_
  refine Go.st (fun _ k => XS.aload X122.here hx rfl (hb hby at_150) rfl rfl k) ?_
  refine Go.st (fun _ k => XS.aload X122.here hx rfl (hb hby at_152) rfl rfl k) ?_
  refine Go.st (fun _ k => XS.iconst X122.here hx rfl (hb hby at_154) k) ?_
  refine Go.st (Vec.ildI X122 hx hZ e122 h125 (j := (2 : Int32)) (by decide) (by decide) (g := (mkF m 155 #[.val (.int x0), .val (.int x1), .val (.int x2), .val (.int x3), .val (.int x4), .val (.int x5), .val (.ref b7), .val (.ref b25), .val (.int v87), .val (.ref b89), .unset, .unset, .unset, .unset, .unset, .unset] [(.int (2 : Int32)), (.ref b89), (.ref b7), (.int (3 : Int32)), (.ref b89)])) rfl rfl (hb hby at_155)) ?_
  show Go p e below s Q 4 18 (T122.setTop (mkF m 156 #[.val (.int x0), .val (.int x1), .val (.int x2), .val (.int x3), .val (.int x4), .val (.int x5), .val (.ref b7), .val (.ref b25), .val (.int v87), .val (.ref b89), .unset, .unset, .unset, .unset, .unset, .unset] [(.int r_119), (.ref b7), (.int (3 : Int32)), (.ref b89)]))
  refine Go.st (fun _ k => XS.iconst X122.here hx rfl (hb hby at_156) k) ?_
  have f128 := liI_2
  obtain ⟨_, _, ⟨T127, L127, k127, n127⟩, -, X127, ⟨Lc127, hQ127, l127, y127, z127⟩, st127⟩ := Jvm.LawKit.callS X122 hx (y := (⟨"com/example/ballast/ballast/json/Utf8CheckPinLaw", "step", "([III)I"⟩ : MethodName)) hown (mvT hZ (hw _ (List.mem_of_getElem? (i := 3) rfl))) (mvT hZ (hw _ (List.mem_of_getElem? (i := 4) rfl))) (mvT hZ (hw _ (List.mem_of_getElem? (i := 5) rfl))) (mvT hZ (hw _ (List.mem_of_getElem? (i := 6) rfl))) (by decide) (backOf (W := 2) (rms_2 l Z a0 hw [] b7 r_119 b0 b1 b2 b3 h122 n0 (Nat.le_trans Z0 K122.1) h123 hb0 hb1 hb2 hb3 hst2) hZ (hw _ (List.mem_of_getElem? (i := 6) rfl)) (hw _ (List.mem_of_getElem? (i := 5) rfl)) (by decide) (by decide)) (g := (mkF m 157 #[.val (.int x0), .val (.int x1), .val (.int x2), .val (.int x3), .val (.int x4), .val (.int x5), .val (.ref b7), .val (.ref b25), .val (.int v87), .val (.ref b89), .unset, .unset, .unset, .unset, .unset, .unset] [(.int (2 : Int32)), (.int r_119), (.ref b7), (.int (3 : Int32)), (.ref b89)])) rfl (by rw [hml]; rfl) (argsL := [(.ref b7), (.int r_119), (.int (2 : Int32))]) (rest := [(.int (3 : Int32)), (.ref b89)]) (lenOf pd_3 rfl) rfl (by show 2 * 0 + _ ≤ _; exact Nat.le_of_eq rfl) (hb hby at_157) (fun _ _ => ⟨rfl, e122, (by decide : 3 + 0 ≤ _), (by decide : 15 + 0 ≤ _)⟩)
  dsimp only [Pt.U, Pt.locs, Pt.cells, Pt.slots] at X127 l127 y127 z127 st127 hQ127
  subst y127 z127
  obtain ⟨r_129, rfl, N127q, f130, e127⟩ := hQ127
  have N127 : Fr n0 L127 := by rw [l127]; exact Fr.app N122 N127q
  refine Go.st st127 ?_
  clear st127
  clear X122
  show Go p e below s Q 4 18 (T127.setTop (mkF m 160 #[.val (.int x0), .val (.int x1), .val (.int x2), .val (.int x3), .val (.int x4), .val (.int x5), .val (.ref b7), .val (.ref b25), .val (.int v87), .val (.ref b89), .unset, .unset, .unset, .unset, .unset, .unset] [(.int r_129), (.int (3 : Int32)), (.ref b89)]))
  have f131 := rng32 r_129
  have hR2 : RefStep (BB b0 b1 b2 b3) 2 r_119.toInt r_129.toInt := refStep (BB_rng hb0 hb1 hb2 hb3) f130.1 (stepIs_of f130.2)
  clear f130
  have hst3 : Hid (r_129.toInt < 0 ∨ ∃ p l m, Cpl (BB b0 b1 b2 b3) 3 r_129.toInt p l m) := next_cpl hR2 hst2 (fun _ _ _ h => cpl_nn h)
  obtain ⟨T132, h132, X132, e132, W132, V132, st132⟩ := Vec.istI X127 hx hZ e127 h125 (j := (3 : Int32)) (by decide) (by decide) (g := (mkF m 160 #[.val (.int x0), .val (.int x1), .val (.int x2), .val (.int x3), .val (.int x4), .val (.int x5), .val (.ref b7), .val (.ref b25), .val (.int v87), .val (.ref b89), .unset, .unset, .unset, .unset, .unset, .unset] [(.int r_129), (.int (3 : Int32)), (.ref b89)])) rfl rfl (hb hby at_160)
  have h133 : Vec Z h132 b7 .int (4 : Int32) (ints (lst [b0, b1, b2, b3])) := h123.other W132 q93
  have h134 : Vec Z h132 b25 .byte (6 : Int32) (ints (lst [y0, y1, y2, y3, y4, y5])) := h124.other W132 q94
  have h135 : Vec Z h132 b89 .int (5 : Int32) (ints (lst [(0 : Int32), r_109, r_119, r_129, (0 : Int32)])) := Vec.of_eq V132 (congrArg ints (upd_lst _ 3 _ (Nat.le_of_ble_eq_true rfl)))
  have K132 : Keep h0 h132 [] := K122.wr W132 (Or.inr szb89)
  have N132 := Fr.snoc X132 N127 Gb89
  refine Go.st st132 ?_
  clear st132
  clear h123 h124 h125 X127
  show Go p e below s Q 4 18 (T132.setTop (mkF m 161 #[.val (.int x0), .val (.int x1), .val (.int x2), .val (.int x3), .val (.int x4), .val (.int x5), .val (.ref b7), .val (.ref b25), .val (.int v87), .val (.ref b89), .unset, .unset, .unset, .unset, .unset, .unset] []))
  refine Go.st (fun _ k => XS.aload X132.here hx rfl (hb hby at_161) rfl rfl k) ?_
  refine Go.st (fun _ k => XS.iconst X132.here hx rfl (hb hby at_163) k) ?_
  refine Go.st (fun _ k => XS.aload X132.here hx rfl (hb hby at_164) rfl rfl k) ?_
  refine Go.st (fun _ k => XS.aload X132.here hx rfl (hb hby at_166) rfl rfl k) ?_
  refine Go.st (fun _ k => XS.iconst X132.here hx rfl (hb hby at_168) k) ?_
  refine Go.st (Vec.ildI X132 hx hZ e132 h135 (j := (3 : Int32)) (by decide) (by decide) (g := (mkF m 169 #[.val (.int x0), .val (.int x1), .val (.int x2), .val (.int x3), .val (.int x4), .val (.int x5), .val (.ref b7), .val (.ref b25), .val (.int v87), .val (.ref b89), .unset, .unset, .unset, .unset, .unset, .unset] [(.int (3 : Int32)), (.ref b89), (.ref b7), (.int (4 : Int32)), (.ref b89)])) rfl rfl (hb hby at_169)) ?_
  show Go p e below s Q 4 18 (T132.setTop (mkF m 170 #[.val (.int x0), .val (.int x1), .val (.int x2), .val (.int x3), .val (.int x4), .val (.int x5), .val (.ref b7), .val (.ref b25), .val (.int v87), .val (.ref b89), .unset, .unset, .unset, .unset, .unset, .unset] [(.int r_129), (.ref b7), (.int (4 : Int32)), (.ref b89)]))
  refine Go.st (fun _ k => XS.iconst X132.here hx rfl (hb hby at_170) k) ?_
  have f138 := liI_3
  obtain ⟨_, _, ⟨T137, L137, k137, n137⟩, -, X137, ⟨Lc137, hQ137, l137, y137, z137⟩, st137⟩ := Jvm.LawKit.callS X132 hx (y := (⟨"com/example/ballast/ballast/json/Utf8CheckPinLaw", "step", "([III)I"⟩ : MethodName)) hown (mvT hZ (hw _ (List.mem_of_getElem? (i := 3) rfl))) (mvT hZ (hw _ (List.mem_of_getElem? (i := 4) rfl))) (mvT hZ (hw _ (List.mem_of_getElem? (i := 5) rfl))) (mvT hZ (hw _ (List.mem_of_getElem? (i := 6) rfl))) (by decide) (backOf (W := 2) (rms_3 l Z a0 hw [] b7 r_129 b0 b1 b2 b3 h132 n0 (Nat.le_trans Z0 K132.1) h133 hb0 hb1 hb2 hb3 hst3) hZ (hw _ (List.mem_of_getElem? (i := 6) rfl)) (hw _ (List.mem_of_getElem? (i := 5) rfl)) (by decide) (by decide)) (g := (mkF m 171 #[.val (.int x0), .val (.int x1), .val (.int x2), .val (.int x3), .val (.int x4), .val (.int x5), .val (.ref b7), .val (.ref b25), .val (.int v87), .val (.ref b89), .unset, .unset, .unset, .unset, .unset, .unset] [(.int (3 : Int32)), (.int r_129), (.ref b7), (.int (4 : Int32)), (.ref b89)])) rfl (by rw [hml]; rfl) (argsL := [(.ref b7), (.int r_129), (.int (3 : Int32))]) (rest := [(.int (4 : Int32)), (.ref b89)]) (lenOf pd_3 rfl) rfl (by show 2 * 0 + _ ≤ _; exact Nat.le_of_eq rfl) (hb hby at_171) (fun _ _ => ⟨rfl, e132, (by decide : 3 + 0 ≤ _), (by decide : 15 + 0 ≤ _)⟩)
  dsimp only [Pt.U, Pt.locs, Pt.cells, Pt.slots] at X137 l137 y137 z137 st137 hQ137
  subst y137 z137
  obtain ⟨r_139, rfl, N137q, f140, e137⟩ := hQ137
  have N137 : Fr n0 L137 := by rw [l137]; exact Fr.app N132 N137q
  refine Go.st st137 ?_
  clear st137
  clear X132
  show Go p e below s Q 4 18 (T137.setTop (mkF m 174 #[.val (.int x0), .val (.int x1), .val (.int x2), .val (.int x3), .val (.int x4), .val (.int x5), .val (.ref b7), .val (.ref b25), .val (.int v87), .val (.ref b89), .unset, .unset, .unset, .unset, .unset, .unset] [(.int r_139), (.int (4 : Int32)), (.ref b89)]))
  have f141 := rng32 r_139
  have hR3 : RefStep (BB b0 b1 b2 b3) 3 r_129.toInt r_139.toInt := refStep (BB_rng hb0 hb1 hb2 hb3) f140.1 (stepIs_of f140.2)
  clear f140
  have hst4 : Hid (r_139.toInt < 0 ∨ ∃ p l m, Cpl (BB b0 b1 b2 b3) 4 r_139.toInt p l m) := next_cpl hR3 hst3 (fun _ _ _ h => cpl_nn h)
  obtain ⟨T142, h142, X142, e142, W142, V142, st142⟩ := Vec.istI X137 hx hZ e137 h135 (j := (4 : Int32)) (by decide) (by decide) (g := (mkF m 174 #[.val (.int x0), .val (.int x1), .val (.int x2), .val (.int x3), .val (.int x4), .val (.int x5), .val (.ref b7), .val (.ref b25), .val (.int v87), .val (.ref b89), .unset, .unset, .unset, .unset, .unset, .unset] [(.int r_139), (.int (4 : Int32)), (.ref b89)])) rfl rfl (hb hby at_174)
  have h143 : Vec Z h142 b7 .int (4 : Int32) (ints (lst [b0, b1, b2, b3])) := h133.other W142 q93
  have h144 : Vec Z h142 b25 .byte (6 : Int32) (ints (lst [y0, y1, y2, y3, y4, y5])) := h134.other W142 q94
  have h145 : Vec Z h142 b89 .int (5 : Int32) (ints (lst [(0 : Int32), r_109, r_119, r_129, r_139])) := Vec.of_eq V142 (congrArg ints (upd_lst _ 4 _ (Nat.le_of_ble_eq_true rfl)))
  have K142 : Keep h0 h142 [] := K132.wr W142 (Or.inr szb89)
  have N142 := Fr.snoc X142 N137 Gb89
  refine Go.st st142 ?_
  clear st142
  clear h133 h134 h135 X137
  show Go p e below s Q 4 18 (T142.setTop (mkF m 175 #[.val (.int x0), .val (.int x1), .val (.int x2), .val (.int x3), .val (.int x4), .val (.int x5), .val (.ref b7), .val (.ref b25), .val (.int v87), .val (.ref b89), .unset, .unset, .unset, .unset, .unset, .unset] []))
  refine Go.st (fun _ k => XS.aload X142.here hx rfl (hb hby at_175) rfl rfl k) ?_
  refine Go.st (fun _ k => XS.iconst X142.here hx rfl (hb hby at_177) k) ?_
  refine Go.st (Vec.ildI X142 hx hZ e142 h145 (j := (4 : Int32)) (by decide) (by decide) (g := (mkF m 178 #[.val (.int x0), .val (.int x1), .val (.int x2), .val (.int x3), .val (.int x4), .val (.int x5), .val (.ref b7), .val (.ref b25), .val (.int v87), .val (.ref b89), .unset, .unset, .unset, .unset, .unset, .unset] [(.int (4 : Int32)), (.ref b89)])) rfl rfl (hb hby at_178)) ?_
  show Go p e below s Q 4 18 (T142.setTop (mkF m 179 #[.val (.int x0), .val (.int x1), .val (.int x2), .val (.int x3), .val (.int x4), .val (.int x5), .val (.ref b7), .val (.ref b25), .val (.int v87), .val (.ref b89), .unset, .unset, .unset, .unset, .unset, .unset] [(.int r_139)]))
  suffices J148 : ∀ (j147 : Int32), ((r_139.toInt < 0 ∧ j147.toInt = -1 - r_139.toInt) ∨ (0 ≤ r_139.toInt ∧ j147.toInt = -1)) → Go p e below s Q 4 18 (T142.setTop (mkF m 192 #[.val (.int x0), .val (.int x1), .val (.int x2), .val (.int x3), .val (.int x4), .val (.int x5), .val (.ref b7), .val (.ref b25), .val (.int v87), .val (.ref b89), .unset, .unset, .unset, .unset, .unset, .unset] [(.int j147)])) by
    by_cases c150 : r_139.toInt < 0
    ·
      refine Go.st (fun _ k => XS.ifNo X142.here hx rfl (hb hby at_179) rfl ((if0 _ _).trans (tlt (ltI rfl liI_0 c150)).2.1) k) ?_
      refine Go.st (fun _ k => XS.iconst X142.here hx rfl (hb hby at_182) k) ?_
      refine Go.st (fun _ k => XS.aload X142.here hx rfl (hb hby at_183) rfl rfl k) ?_
      refine Go.st (fun _ k => XS.iconst X142.here hx rfl (hb hby at_185) k) ?_
      refine Go.st (Vec.ildI X142 hx hZ e142 h145 (j := (4 : Int32)) (by decide) (by decide) (g := (mkF m 186 #[.val (.int x0), .val (.int x1), .val (.int x2), .val (.int x3), .val (.int x4), .val (.int x5), .val (.ref b7), .val (.ref b25), .val (.int v87), .val (.ref b89), .unset, .unset, .unset, .unset, .unset, .unset] [(.int (4 : Int32)), (.ref b89), (.int (-1 : Int32))])) rfl rfl (hb hby at_186)) ?_
      show Go p e below s Q 4 18 (T142.setTop (mkF m 187 #[.val (.int x0), .val (.int x1), .val (.int x2), .val (.int x3), .val (.int x4), .val (.int x5), .val (.ref b7), .val (.ref b25), .val (.int v87), .val (.ref b89), .unset, .unset, .unset, .unset, .unset, .unset] [(.int r_139), (.int (-1 : Int32))]))
      refine Go.st (fun _ k => XS.isub X142.here hx rfl (hb hby at_187) rfl k) ?_
      refine Go.st (fun _ k => XS.goto X142.here hx rfl (pc0 := 188) (pc' := 192) rfl (hb hby at_188) (by decide) (by decide) k) ?_
      show Go p e below s Q 4 18 (T142.setTop (mkF m 192 #[.val (.int x0), .val (.int x1), .val (.int x2), .val (.int x3), .val (.int x4), .val (.int x5), .val (.ref b7), .val (.ref b25), .val (.int v87), .val (.ref b89), .unset, .unset, .unset, .unset, .unset, .unset] [(.int ((-1 : Int32) - r_139))]))
      have f152 : (((-1 : Int32) - r_139).toInt - ((-1) - r_139.toInt)) % 4294967296 = 0 := (by have q := c_isub (-1 : Int32) r_139; rw [liI_m1] at q; exact q)
      have f153 := rng32 ((-1 : Int32) - r_139)
      exact J148 ((-1 : Int32) - r_139) (by exact neg_l c150)
    ·
      refine Go.st (fun _ k => XS.ifYes X142.here hx rfl (pc0 := 179) (pc' := 191) rfl (hb hby at_179) rfl ((if0 _ _).trans (flt (nltI rfl liI_0 c150)).2.1) (by decide) (by decide) k) ?_
      refine Go.st (fun _ k => XS.iconst X142.here hx rfl (hb hby at_191) k) ?_
      show Go p e below s Q 4 18 (T142.setTop (mkF m 192 #[.val (.int x0), .val (.int x1), .val (.int x2), .val (.int x3), .val (.int x4), .val (.int x5), .val (.ref b7), .val (.ref b25), .val (.int v87), .val (.ref b89), .unset, .unset, .unset, .unset, .unset, .unset] [(.int (-1 : Int32))]))
      have f154 := liI_m1
      exact J148 (-1 : Int32) (by exact neg_r c150)
  intro j147 f155
  have f156 := rng32 j147
  refine Go.st (fun _ k => XS.istore X142.here hx rfl (hb hby at_192) rfl (l' := #[.val (.int x0), .val (.int x1), .val (.int x2), .val (.int x3), .val (.int x4), .val (.int x5), .val (.ref b7), .val (.ref b25), .val (.int v87), .val (.ref b89), .val (.int j147), .unset, .unset, .unset, .unset, .unset]) rfl k) ?_
  refine Go.st (fun _ k => XS.aload X142.here hx rfl (hb hby at_194) rfl rfl k) ?_
  refine Go.st (fun _ k => XS.iconst X142.here hx rfl (hb hby at_196) k) ?_
  refine Go.st (Vec.ildI X142 hx hZ e142 h145 (j := (4 : Int32)) (by decide) (by decide) (g := (mkF m 197 #[.val (.int x0), .val (.int x1), .val (.int x2), .val (.int x3), .val (.int x4), .val (.int x5), .val (.ref b7), .val (.ref b25), .val (.int v87), .val (.ref b89), .val (.int j147), .unset, .unset, .unset, .unset, .unset] [(.int (4 : Int32)), (.ref b89)])) rfl rfl (hb hby at_197)) ?_
  show Go p e below s Q 4 18 (T142.setTop (mkF m 198 #[.val (.int x0), .val (.int x1), .val (.int x2), .val (.int x3), .val (.int x4), .val (.int x5), .val (.ref b7), .val (.ref b25), .val (.int v87), .val (.ref b89), .val (.int j147), .unset, .unset, .unset, .unset, .unset] [(.int r_139)]))
  suffices J159 : ∀ (j158 : Int32), ((0 ≤ r_139.toInt ∧ r_139.toInt < 4 ∧ j158.toInt = 1) ∨ (¬ (0 ≤ r_139.toInt ∧ r_139.toInt < 4) ∧ j158.toInt = 0)) → Go p e below s Q 4 18 (T142.setTop (mkF m 214 #[.val (.int x0), .val (.int x1), .val (.int x2), .val (.int x3), .val (.int x4), .val (.int x5), .val (.ref b7), .val (.ref b25), .val (.int v87), .val (.ref b89), .val (.int j147), .unset, .unset, .unset, .unset, .unset] [(.int j158)])) by
    by_cases c161 : r_139.toInt < 0
    ·
      refine Go.st (fun _ k => XS.ifYes X142.here hx rfl (pc0 := 198) (pc' := 213) rfl (hb hby at_198) rfl ((if0 _ _).trans (tlt (ltI rfl liI_0 c161)).1) (by decide) (by decide) k) ?_
      refine Go.st (fun _ k => XS.iconst X142.here hx rfl (hb hby at_213) k) ?_
      show Go p e below s Q 4 18 (T142.setTop (mkF m 214 #[.val (.int x0), .val (.int x1), .val (.int x2), .val (.int x3), .val (.int x4), .val (.int x5), .val (.ref b7), .val (.ref b25), .val (.int v87), .val (.ref b89), .val (.int j147), .unset, .unset, .unset, .unset, .unset] [(.int (0 : Int32))]))
      exact J159 (0 : Int32) (by omega)
    ·
      refine Go.st (fun _ k => XS.ifNo X142.here hx rfl (hb hby at_198) rfl ((if0 _ _).trans (flt (nltI rfl liI_0 c161)).1) k) ?_
      refine Go.st (fun _ k => XS.aload X142.here hx rfl (hb hby at_201) rfl rfl k) ?_
      refine Go.st (fun _ k => XS.iconst X142.here hx rfl (hb hby at_203) k) ?_
      refine Go.st (Vec.ildI X142 hx hZ e142 h145 (j := (4 : Int32)) (by decide) (by decide) (g := (mkF m 204 #[.val (.int x0), .val (.int x1), .val (.int x2), .val (.int x3), .val (.int x4), .val (.int x5), .val (.ref b7), .val (.ref b25), .val (.int v87), .val (.ref b89), .val (.int j147), .unset, .unset, .unset, .unset, .unset] [(.int (4 : Int32)), (.ref b89)])) rfl rfl (hb hby at_204)) ?_
      show Go p e below s Q 4 18 (T142.setTop (mkF m 205 #[.val (.int x0), .val (.int x1), .val (.int x2), .val (.int x3), .val (.int x4), .val (.int x5), .val (.ref b7), .val (.ref b25), .val (.int v87), .val (.ref b89), .val (.int j147), .unset, .unset, .unset, .unset, .unset] [(.int r_139)]))
      refine Go.st (fun _ k => XS.iconst X142.here hx rfl (hb hby at_205) k) ?_
      have f163 := liI_4
      by_cases c164 : r_139.toInt < 4
      ·
        refine Go.st (fun _ k => XS.icmpNo X142.here hx rfl (hb hby at_206) rfl (tlt (ltI rfl liI_4 c164)).2.1 k) ?_
        refine Go.st (fun _ k => XS.iconst X142.here hx rfl (hb hby at_209) k) ?_
        refine Go.st (fun _ k => XS.goto X142.here hx rfl (pc0 := 210) (pc' := 214) rfl (hb hby at_210) (by decide) (by decide) k) ?_
        show Go p e below s Q 4 18 (T142.setTop (mkF m 214 #[.val (.int x0), .val (.int x1), .val (.int x2), .val (.int x3), .val (.int x4), .val (.int x5), .val (.ref b7), .val (.ref b25), .val (.int v87), .val (.ref b89), .val (.int j147), .unset, .unset, .unset, .unset, .unset] [(.int (1 : Int32))]))
        exact J159 (1 : Int32) (by omega)
      ·
        refine Go.st (fun _ k => XS.icmpYes X142.here hx rfl (pc0 := 206) (pc' := 213) rfl (hb hby at_206) rfl (flt (nltI rfl liI_4 c164)).2.1 (by decide) (by decide) k) ?_
        refine Go.st (fun _ k => XS.iconst X142.here hx rfl (hb hby at_213) k) ?_
        show Go p e below s Q 4 18 (T142.setTop (mkF m 214 #[.val (.int x0), .val (.int x1), .val (.int x2), .val (.int x3), .val (.int x4), .val (.int x5), .val (.ref b7), .val (.ref b25), .val (.int v87), .val (.ref b89), .val (.int j147), .unset, .unset, .unset, .unset, .unset] [(.int (0 : Int32))]))
        exact J159 (0 : Int32) (by omega)
  intro j158 f165
  have f166 := rng32 j158
  refine Go.st (fun _ k => XS.istore X142.here hx rfl (hb hby at_214) rfl (l' := #[.val (.int x0), .val (.int x1), .val (.int x2), .val (.int x3), .val (.int x4), .val (.int x5), .val (.ref b7), .val (.ref b25), .val (.int v87), .val (.ref b89), .val (.int j147), .val (.int j158), .unset, .unset, .unset, .unset]) rfl k) ?_
  show Go p e below s Q 4 18 (T142.setTop (mkF m 216 #[.val (.int x0), .val (.int x1), .val (.int x2), .val (.int x3), .val (.int x4), .val (.int x5), .val (.ref b7), .val (.ref b25), .val (.int v87), .val (.ref b89), .val (.int j147), .val (.int j158), .unset, .unset, .unset, .unset] []))
  have hSS := SS_steps (s1 := r_109) (s2 := r_119) (s3 := r_129) (s4 := r_139) hR0 hR1 hR2 hR3
  have hS4 : SS r_109 r_119 r_129 r_139 4 = r_139.toInt := rfl
  have hBy := by_eq (y0 := y0) (y5 := y5) hy1 hy2 hy3 hy4
  have hkk : 0 ≤ v87.toInt ∧ v87.toInt ≤ 4 := by omega
  obtain ⟨T167, h167, X167, e167, E167, A167, D167, -, st167⟩ := newO X142 hx hZ hown (hw _ (List.mem_of_getElem? (i := 21) rfl)) (hw _ (List.mem_of_getElem? (i := 22) rfl)) (hw _ (List.mem_of_getElem? (i := 23) rfl)) e142 (g := (mkF m 216 #[.val (.int x0), .val (.int x1), .val (.int x2), .val (.int x3), .val (.int x4), .val (.int x5), .val (.ref b7), .val (.ref b25), .val (.int v87), .val (.ref b89), .val (.int j147), .val (.int j158), .unset, .unset, .unset, .unset] [])) rfl (hb hby at_216) (by decide) (by decide)
  obtain ⟨b167, g167⟩ : ∃ z, z = h142.size := ⟨_, rfl⟩
  rw [← g167] at A167 D167 st167
  have q168 : Hid (b7 ≠ b167) := Nat.ne_of_lt (Nat.lt_of_lt_of_le h143.lt (Nat.le_of_eq g167.symm))
  have q169 : Hid (b25 ≠ b167) := Nat.ne_of_lt (Nat.lt_of_lt_of_le h144.lt (Nat.le_of_eq g167.symm))
  have q170 : Hid (b89 ≠ b167) := Nat.ne_of_lt (Nat.lt_of_lt_of_le h145.lt (Nat.le_of_eq g167.symm))
  have h171 : Vec Z h167 b7 .int (4 : Int32) (ints (lst [b0, b1, b2, b3])) := h143.ext E167
  have h172 : Vec Z h167 b25 .byte (6 : Int32) (ints (lst [y0, y1, y2, y3, y4, y5])) := h144.ext E167
  have h173 : Vec Z h167 b89 .int (5 : Int32) (ints (lst [(0 : Int32), r_109, r_119, r_129, r_139])) := h145.ext E167
  have Gb167 : Hid (n0 ≤ b167) := Nat.le_trans (Nat.le_trans Z0 K142.1) (Nat.le_of_eq g167.symm)
  have szb167 : Hid (h0.size ≤ b167) := Nat.le_trans K142.1 (Nat.le_of_eq g167.symm)
  have K167 : Keep h0 h167 [] := K142.ext E167
  have h174 : Fld Z h167 b167 "com/example/ballast/ballast/json/Utf8" "least" "I" (.int (0 : Int32)) := D167 (Or.inl (hw _ (List.mem_of_getElem? (i := 31) rfl))) (ty := .int) (by decide)
  have h175 : Fld Z h167 b167 "com/example/ballast/ballast/json/Utf8" "most" "I" (.int (0 : Int32)) := D167 (Or.inl (hw _ (List.mem_of_getElem? (i := 33) rfl))) (ty := .int) (by decide)
  have h176 : Fld Z h167 b167 "com/example/ballast/ballast/json/Utf8" "pending" "I" (.int (0 : Int32)) := D167 (Or.inl (hw _ (List.mem_of_getElem? (i := 45) rfl))) (ty := .int) (by decide)
  refine Go.st st167 ?_
  clear st167
  clear h143 h144 h145 X142
  show Go p e below s Q 4 18 (T167.setTop (mkF m 219 #[.val (.int x0), .val (.int x1), .val (.int x2), .val (.int x3), .val (.int x4), .val (.int x5), .val (.ref b7), .val (.ref b25), .val (.int v87), .val (.ref b89), .val (.int j147), .val (.int j158), .unset, .unset, .unset, .unset] [(.ref b167)]))
  refine Go.st (fun _ k => XS.dup X167.here hx rfl (hb hby at_219) rfl rfl k) ?_
  obtain ⟨_, _, ⟨T177, L177, k177, n177⟩, -, X177, ⟨Lc177, hQ177, l177, y177, z177⟩, st177⟩ := X167.specialBack hx (y := (⟨"com/example/ballast/ballast/json/Utf8", "<init>", "()V"⟩ : MethodName)) rfl hown (mvT hZ (hw _ (List.mem_of_getElem? (i := 24) rfl))) (mvT hZ (hw _ (List.mem_of_getElem? (i := 25) rfl))) (mvT hZ (hw _ (List.mem_of_getElem? (i := 26) rfl))) (by decide) (backOf (W := 1) (rm6 l Z a0 hw [] b167 (0 : Int32) (0 : Int32) (0 : Int32) h167 n0 (Nat.le_trans Z0 K167.1) A167 Gb167 h176 h174 h175) hZ (hw _ (List.mem_of_getElem? (i := 26) rfl)) (hw _ (List.mem_of_getElem? (i := 23) rfl)) (by decide) (by decide)) (g := (mkF m 220 #[.val (.int x0), .val (.int x1), .val (.int x2), .val (.int x3), .val (.int x4), .val (.int x5), .val (.ref b7), .val (.ref b25), .val (.int v87), .val (.ref b89), .val (.int j147), .val (.int j158), .unset, .unset, .unset, .unset] [(.ref b167), (.ref b167)])) rfl (by rw [hml]; rfl) (Steps.refl _) (a := b167) (argsL := []) (rest := [(.ref b167)]) (lenOf pd_4 rfl) rfl (by show 2 * 0 + _ ≤ _; exact Nat.le_of_eq rfl) (hb hby at_220) (fun _ _ => ⟨rfl, e167, (by decide : 4 + 0 ≤ _), (by decide : 18 + 0 ≤ _)⟩)
  dsimp only [Pt.U, Pt.locs, Pt.cells, Pt.slots] at X177 l177 y177 z177 st177 hQ177
  subst y177 z177
  obtain ⟨rfl, N177q, K177q, h178, h179, h180, h181⟩ := hQ177
  have N177 : Fr n0 L177 := by rw [l177]; exact Fr.app N142 N177q
  have h182 : Vec Z T177.heap b7 .int (4 : Int32) (ints (lst [b0, b1, b2, b3])) := h171.keep K177q (ninS q168 nin0)
  have h183 : Vec Z T177.heap b25 .byte (6 : Int32) (ints (lst [y0, y1, y2, y3, y4, y5])) := h172.keep K177q (ninS q169 nin0)
  have h184 : Vec Z T177.heap b89 .int (5 : Int32) (ints (lst [(0 : Int32), r_109, r_119, r_129, r_139])) := h173.keep K177q (ninS q170 nin0)
  have K177 : Keep h0 T177.heap [] := K167.trans K177q (fun x hx => (show ∀ x ∈ ([b167] : List Addr), x ∈ ([] : List Addr) ∨ h0.size ≤ x from (allS (Or.inr szb167) all0)) x hx)
  refine Go.tr  st177 ?_
  clear st177
  clear h171 h172 h173 h174 h175 h176 X167
  show Go p e below s Q 4 18 (T177.setTop (mkF m 223 #[.val (.int x0), .val (.int x1), .val (.int x2), .val (.int x3), .val (.int x4), .val (.int x5), .val (.ref b7), .val (.ref b25), .val (.int v87), .val (.ref b89), .val (.int j147), .val (.int j158), .unset, .unset, .unset, .unset] [(.ref b167)]))
  refine Go.st (fun _ k => XS.astore X177.here hx rfl (hb hby at_223) rfl rfl (l' := #[.val (.int x0), .val (.int x1), .val (.int x2), .val (.int x3), .val (.int x4), .val (.int x5), .val (.ref b7), .val (.ref b25), .val (.int v87), .val (.ref b89), .val (.int j147), .val (.int j158), .val (.ref b167), .unset, .unset, .unset]) rfl k) ?_
  refine Go.st (fun _ k => XS.aload X177.here hx rfl (hb hby at_225) rfl rfl k) ?_
  refine Go.st (fun _ k => XS.aload X177.here hx rfl (hb hby at_227) rfl rfl k) ?_
  refine Go.st (fun _ k => XS.iconst X177.here hx rfl (hb hby at_229) k) ?_
  refine Go.st (fun _ k => XS.iconst X177.here hx rfl (hb hby at_230) k) ?_
  refine Go.st (fun _ k => XS.iload X177.here hx rfl (hb hby at_231) rfl k) ?_
  show Go p e below s Q 4 18 (T177.setTop (mkF m 233 #[.val (.int x0), .val (.int x1), .val (.int x2), .val (.int x3), .val (.int x4), .val (.int x5), .val (.ref b7), .val (.ref b25), .val (.int v87), .val (.ref b89), .val (.int j147), .val (.int j158), .val (.ref b167), .unset, .unset, .unset] [(.int v87), (.int (1 : Int32)), (.int (1 : Int32)), (.ref b25), (.ref b167)]))
  refine Go.st (fun _ k => XS.iadd X177.here hx rfl (hb hby at_233) rfl k) ?_
  have f186 := liI_128
  have f187 := liI_191
  have f188 := rng32 v87
  have f189 := c_iadd (1 : Int32) v87
  have f190 := rng32 ((1 : Int32) + v87)
  have p191 : 0 ≤ (1 : Int32).toInt ∧ (1 : Int32).toInt ≤ ((1 : Int32) + v87).toInt ∧ ((1 : Int32) + v87).toInt ≤ 6 ∧ 0 ≤ (0 : Int32).toInt := by omega
  obtain ⟨cq185, kq185, q185a, q185b, q185c⟩ := isOf hZ rfl h178
  obtain ⟨_, _, ⟨T185, L185, k185, n185⟩, -, X185, ⟨Lc185, hQ185, l185, y185, z185⟩, st185⟩ := X177.virtualBack hx (y := (⟨"com/example/ballast/ballast/json/Utf8", "check", "([BII)I"⟩ : MethodName)) (z := (⟨"com/example/ballast/ballast/json/Utf8", "check", "([BII)I"⟩ : MethodName)) hown (mvT hZ (hw _ (List.mem_of_getElem? (i := 34) rfl))) (mvT hZ (hw _ (List.mem_of_getElem? (i := 35) rfl))) (notFace_of_selects (args := #[]) (mvT hZ (hw _ (List.mem_of_getElem? (i := 37) rfl)))) (mvT hZ (hw _ (List.mem_of_getElem? (i := 37) rfl))) (mvT hZ (hw _ (List.mem_of_getElem? (i := 36) rfl))) (by decide) (backOf (W := 0) (rm8 l Z a0 hw [] b167 b25 (1 : Int32) ((1 : Int32) + v87) (0 : Int32) (128 : Int32) (191 : Int32) (lst [y0, y1, y2, y3, y4, y5]) T177.heap n0 (Nat.le_trans Z0 K177.1) h178 Gb167 h179 h180 h181 h183 q169 (by_rng hz0 hz1 hz2 hz3 hz4 hz5) p191) hZ (hw _ (List.mem_of_getElem? (i := 38) rfl)) (hw _ (List.mem_of_getElem? (i := 23) rfl)) (by decide) (by decide)) q185a q185c (g := (mkF m 234 #[.val (.int x0), .val (.int x1), .val (.int x2), .val (.int x3), .val (.int x4), .val (.int x5), .val (.ref b7), .val (.ref b25), .val (.int v87), .val (.ref b89), .val (.int j147), .val (.int j158), .val (.ref b167), .unset, .unset, .unset] [(.int ((1 : Int32) + v87)), (.int (1 : Int32)), (.ref b25), (.ref b167)])) rfl (by rw [hml]; rfl) (Steps.refl _) (argsL := [(.ref b25), (.int (1 : Int32)), (.int ((1 : Int32) + v87))]) (rest := []) (lenOf pd_5 rfl) rfl (by show 2 * 0 + _ ≤ _; exact Nat.le_of_eq rfl) (hb hby at_234) (fun _ _ => ⟨rfl, rfl, (by decide : 4 + 0 ≤ _), (by decide : 18 + 0 ≤ _)⟩)
  dsimp only [Pt.U, Pt.locs, Pt.cells, Pt.slots] at X185 l185 y185 z185 st185 hQ185
  subst y185 z185
  obtain ⟨r_192, p2_193, l2_194, m2_195, rr_196, rfl, N185q, f197, f198, f199, K185q, h200, h201, h202, h203⟩ := hQ185
  have N185 : Fr n0 L185 := by rw [l185]; exact Fr.app N177 N185q
  have h204 : Vec Z T185.heap b7 .int (4 : Int32) (ints (lst [b0, b1, b2, b3])) := h182.keep K185q (ninS q168 nin0)
  have h205 : Vec Z T185.heap b25 .byte (6 : Int32) (ints (lst [y0, y1, y2, y3, y4, y5])) := h183.keep K185q (ninS q169 nin0)
  have h206 : Vec Z T185.heap b89 .int (5 : Int32) (ints (lst [(0 : Int32), r_109, r_119, r_129, r_139])) := h184.keep K185q (ninS q170 nin0)
  have K185 : Keep h0 T185.heap [] := K177.trans K185q (fun x hx => (show ∀ x ∈ ([b167] : List Addr), x ∈ ([] : List Addr) ∨ h0.size ≤ x from (allS (Or.inr szb167) all0)) x hx)
  refine Go.tr  st185 ?_
  clear st185
  clear h182 h183 h184 h178 h179 h180 h181 X177
  show Go p e below s Q 4 18 (T185.setTop (mkF m 237 #[.val (.int x0), .val (.int x1), .val (.int x2), .val (.int x3), .val (.int x4), .val (.int x5), .val (.ref b7), .val (.ref b25), .val (.int v87), .val (.ref b89), .val (.int j147), .val (.int j158), .val (.ref b167), .unset, .unset, .unset] [(.int r_192)]))
  have f207 := rng32 r_192
  have q1 := f197
  have hkn : v87.toInt.toNat ≤ 4 := by omega
  rw [show (((1 : Int32) + v87).toInt - (1 : Int32).toInt).toNat = v87.toInt.toNat by omega] at q1
  have hF1 : Hid _ := fin1 hSS rfl hBy hkn q1
  have hSk : SS r_109 r_119 r_129 r_139 v87.toInt.toNat = (lst [(0 : Int32), r_109, r_119, r_129, r_139] v87.toInt.toNat).toInt := rfl
  have hlate : Hid (0 ≤ SS r_109 r_119 r_129 r_139 v87.toInt.toNat → (∃ p l m, Cpl (BB b0 b1 b2 b3) v87.toInt.toNat (SS r_109 r_119 r_129 r_139 v87.toInt.toNat) p l m) → SS r_109 r_119 r_129 r_139 4 < 0 → (v87.toInt.toNat : Int) ≤ -1 - SS r_109 r_119 r_129 r_139 4) := ref_late hSS (4 - v87.toInt.toNat) v87.toInt.toNat (by omega)
  have hG1 : (rr_196 = -1 ∧ 0 ≤ SS r_109 r_119 r_129 r_139 v87.toInt.toNat ∧ (SS r_109 r_119 r_129 r_139 4 < 0 → v87.toInt ≤ -1 - SS r_109 r_119 r_129 r_139 4)) ∨ (0 ≤ rr_196 - 1 ∧ rr_196 - 1 < v87.toInt ∧ SS r_109 r_119 r_129 r_139 v87.toInt.toNat < 0 ∧ SS r_109 r_119 r_129 r_139 4 = -1 - (rr_196 - 1)) := Or.elim hF1 (fun q => Or.inl ⟨q.1, q.2.1, fun h => by unfold Hid at hlate; have := hlate q.2.1 ⟨_, _, _, q.2.2.2⟩ h; omega⟩) (fun q => Or.inr ⟨q.1, by have := q.2.1; omega, by have := q.2.2.1; omega, q.2.2.2⟩)
  refine Go.st (fun _ k => XS.istore X185.here hx rfl (hb hby at_237) rfl (l' := #[.val (.int x0), .val (.int x1), .val (.int x2), .val (.int x3), .val (.int x4), .val (.int x5), .val (.ref b7), .val (.ref b25), .val (.int v87), .val (.ref b89), .val (.int j147), .val (.int j158), .val (.ref b167), .val (.int r_192), .unset, .unset]) rfl k) ?_
  refine Go.st (fun _ k => XS.iload X185.here hx rfl (hb hby at_239) rfl k) ?_
  by_cases c209 : j147.toInt < 0
  ·
    refine Go.st (fun _ k => XS.ifYes X185.here hx rfl (pc0 := 241) (pc' := 264) rfl (hb hby at_241) rfl ((if0 _ _).trans (tlt (ltI rfl liI_0 c209)).1) (by decide) (by decide) k) ?_
    refine Go.st (fun _ k => XS.iload X185.here hx rfl (hb hby at_264) rfl k) ?_
    refine Go.st (fun _ k => XS.iconst X185.here hx rfl (hb hby at_266) k) ?_
    have f210 := liI_m1
    have c211 : r_192.toInt = (-1) := by omega
    refine Go.st (fun _ k => XS.icmpYes X185.here hx rfl (pc0 := 267) (pc' := 272) rfl (hb hby at_267) rfl (teq (eqI rfl liI_m1 c211)).1 (by decide) (by decide) k) ?_
    show Go p e below s Q 4 18 (T185.setTop (mkF m 272 #[.val (.int x0), .val (.int x1), .val (.int x2), .val (.int x3), .val (.int x4), .val (.int x5), .val (.ref b7), .val (.ref b25), .val (.int v87), .val (.ref b89), .val (.int j147), .val (.int j158), .val (.ref b167), .val (.int r_192), .unset, .unset] []))
    have hF2 := Or.elim hF1 id (fun q => by exfalso; have q1 := q.1; have q2 := q.2.1; have q3 := q.2.2.2; omega)
    have hF3 := hF2.2.2.1
    have hF4 := hF2.2.1
    replace f155 : Hid _ := f155
    replace f165 : Hid _ := f165
    replace f198 : Hid _ := f198
    replace hG1 : Hid _ := hG1
    have hF5 : (v87.toInt.toNat : Int) = v87.toInt := by omega
    rw [hF5] at hF3
    refine Go.st (fun _ k => XS.aload X185.here hx rfl (hb hby at_272) rfl rfl k) ?_
    refine Go.st (fun _ k => XS.iload X185.here hx rfl (hb hby at_274) rfl k) ?_
    have r213 : 0 ≤ v87.toInt := by omega
    have r214 : v87.toInt < (5 : Int32).toInt := by omega
    refine Go.st (Vec.ildI X185 hx hZ rfl h206 (j := v87) r213 r214 (g := (mkF m 276 #[.val (.int x0), .val (.int x1), .val (.int x2), .val (.int x3), .val (.int x4), .val (.int x5), .val (.ref b7), .val (.ref b25), .val (.int v87), .val (.ref b89), .val (.int j147), .val (.int j158), .val (.ref b167), .val (.int r_192), .unset, .unset] [(.int v87), (.ref b89)])) rfl rfl (hb hby at_276)) ?_
    show Go p e below s Q 4 18 (T185.setTop (mkF m 277 #[.val (.int x0), .val (.int x1), .val (.int x2), .val (.int x3), .val (.int x4), .val (.int x5), .val (.ref b7), .val (.ref b25), .val (.int v87), .val (.ref b89), .val (.int j147), .val (.int j158), .val (.ref b167), .val (.int r_192), .unset, .unset] [(.int ((lst [(0 : Int32), r_109, r_119, r_129, r_139]) v87.toInt.toNat))]))
    suffices J216 : ∀ (j215 : Int32), ((0 ≤ (lst [(0 : Int32), r_109, r_119, r_129, r_139] v87.toInt.toNat).toInt ∧ (lst [(0 : Int32), r_109, r_119, r_129, r_139] v87.toInt.toNat).toInt < v87.toInt ∧ j215.toInt = 1) ∨ (¬ (0 ≤ (lst [(0 : Int32), r_109, r_119, r_129, r_139] v87.toInt.toNat).toInt ∧ (lst [(0 : Int32), r_109, r_119, r_129, r_139] v87.toInt.toNat).toInt < v87.toInt) ∧ j215.toInt = 0)) → Go p e below s Q 4 18 (T185.setTop (mkF m 295 #[.val (.int x0), .val (.int x1), .val (.int x2), .val (.int x3), .val (.int x4), .val (.int x5), .val (.ref b7), .val (.ref b25), .val (.int v87), .val (.ref b89), .val (.int j147), .val (.int j158), .val (.ref b167), .val (.int r_192), .unset, .unset] [(.int j215)])) by
      have f218 := rng32 ((lst [(0 : Int32), r_109, r_119, r_129, r_139]) v87.toInt.toNat)
      by_cases c219 : ((lst [(0 : Int32), r_109, r_119, r_129, r_139]) v87.toInt.toNat).toInt < 0
      ·
        refine Go.st (fun _ k => XS.ifYes X185.here hx rfl (pc0 := 277) (pc' := 294) rfl (hb hby at_277) rfl ((if0 _ _).trans (tlt (ltI rfl liI_0 c219)).1) (by decide) (by decide) k) ?_
        refine Go.st (fun _ k => XS.iconst X185.here hx rfl (hb hby at_294) k) ?_
        show Go p e below s Q 4 18 (T185.setTop (mkF m 295 #[.val (.int x0), .val (.int x1), .val (.int x2), .val (.int x3), .val (.int x4), .val (.int x5), .val (.ref b7), .val (.ref b25), .val (.int v87), .val (.ref b89), .val (.int j147), .val (.int j158), .val (.ref b167), .val (.int r_192), .unset, .unset] [(.int (0 : Int32))]))
        exact J216 (0 : Int32) (by omega)
      ·
        refine Go.st (fun _ k => XS.ifNo X185.here hx rfl (hb hby at_277) rfl ((if0 _ _).trans (flt (nltI rfl liI_0 c219)).1) k) ?_
        refine Go.st (fun _ k => XS.aload X185.here hx rfl (hb hby at_280) rfl rfl k) ?_
        refine Go.st (fun _ k => XS.iload X185.here hx rfl (hb hby at_282) rfl k) ?_
        have r221 : 0 ≤ v87.toInt := by omega
        have r222 : v87.toInt < (5 : Int32).toInt := by omega
        refine Go.st (Vec.ildI X185 hx hZ rfl h206 (j := v87) r221 r222 (g := (mkF m 284 #[.val (.int x0), .val (.int x1), .val (.int x2), .val (.int x3), .val (.int x4), .val (.int x5), .val (.ref b7), .val (.ref b25), .val (.int v87), .val (.ref b89), .val (.int j147), .val (.int j158), .val (.ref b167), .val (.int r_192), .unset, .unset] [(.int v87), (.ref b89)])) rfl rfl (hb hby at_284)) ?_
        show Go p e below s Q 4 18 (T185.setTop (mkF m 285 #[.val (.int x0), .val (.int x1), .val (.int x2), .val (.int x3), .val (.int x4), .val (.int x5), .val (.ref b7), .val (.ref b25), .val (.int v87), .val (.ref b89), .val (.int j147), .val (.int j158), .val (.ref b167), .val (.int r_192), .unset, .unset] [(.int ((lst [(0 : Int32), r_109, r_119, r_129, r_139]) v87.toInt.toNat))]))
        refine Go.st (fun _ k => XS.iload X185.here hx rfl (hb hby at_285) rfl k) ?_
        by_cases c223 : ((lst [(0 : Int32), r_109, r_119, r_129, r_139]) v87.toInt.toNat).toInt < v87.toInt
        ·
          refine Go.st (fun _ k => XS.icmpNo X185.here hx rfl (hb hby at_287) rfl (tlt (ltI rfl rfl c223)).2.1 k) ?_
          refine Go.st (fun _ k => XS.iconst X185.here hx rfl (hb hby at_290) k) ?_
          refine Go.st (fun _ k => XS.goto X185.here hx rfl (pc0 := 291) (pc' := 295) rfl (hb hby at_291) (by decide) (by decide) k) ?_
          show Go p e below s Q 4 18 (T185.setTop (mkF m 295 #[.val (.int x0), .val (.int x1), .val (.int x2), .val (.int x3), .val (.int x4), .val (.int x5), .val (.ref b7), .val (.ref b25), .val (.int v87), .val (.ref b89), .val (.int j147), .val (.int j158), .val (.ref b167), .val (.int r_192), .unset, .unset] [(.int (1 : Int32))]))
          exact J216 (1 : Int32) (by omega)
        ·
          refine Go.st (fun _ k => XS.icmpYes X185.here hx rfl (pc0 := 287) (pc' := 294) rfl (hb hby at_287) rfl (flt (nltI rfl rfl c223)).2.1 (by decide) (by decide) k) ?_
          refine Go.st (fun _ k => XS.iconst X185.here hx rfl (hb hby at_294) k) ?_
          show Go p e below s Q 4 18 (T185.setTop (mkF m 295 #[.val (.int x0), .val (.int x1), .val (.int x2), .val (.int x3), .val (.int x4), .val (.int x5), .val (.ref b7), .val (.ref b25), .val (.int v87), .val (.ref b89), .val (.int j147), .val (.int j158), .val (.ref b167), .val (.int r_192), .unset, .unset] [(.int (0 : Int32))]))
          exact J216 (0 : Int32) (by omega)
    intro j215 f224
    have f225 := rng32 j215
    refine Go.st (fun _ k => XS.istore X185.here hx rfl (hb hby at_295) rfl (l' := #[.val (.int x0), .val (.int x1), .val (.int x2), .val (.int x3), .val (.int x4), .val (.int x5), .val (.ref b7), .val (.ref b25), .val (.int v87), .val (.ref b89), .val (.int j147), .val (.int j158), .val (.ref b167), .val (.int r_192), .val (.int j215), .unset]) rfl k) ?_
    refine Go.st (fun _ k => XS.aload X185.here hx rfl (hb hby at_297) rfl rfl k) ?_
    have f227 := rng32 p2_193
    obtain ⟨cq226, kq226, q226a, q226b, q226c⟩ := isOf hZ rfl h200
    obtain ⟨_, _, ⟨T226, L226, k226, n226⟩, -, X226, ⟨Lc226, hQ226, l226, y226, z226⟩, st226⟩ := X185.virtualBack hx (y := (⟨"com/example/ballast/ballast/json/Utf8", "partial", "()Z"⟩ : MethodName)) (z := (⟨"com/example/ballast/ballast/json/Utf8", "partial", "()Z"⟩ : MethodName)) hown (mvT hZ (hw _ (List.mem_of_getElem? (i := 39) rfl))) (mvT hZ (hw _ (List.mem_of_getElem? (i := 40) rfl))) (notFace_of_selects (args := #[]) (mvT hZ (hw _ (List.mem_of_getElem? (i := 42) rfl)))) (mvT hZ (hw _ (List.mem_of_getElem? (i := 42) rfl))) (mvT hZ (hw _ (List.mem_of_getElem? (i := 41) rfl))) (by decide) (backOf (W := 0) (rm9 l Z a0 hw [] b167 p2_193 T185.heap n0 (Nat.le_trans Z0 K185.1) h201) hZ (hw _ (List.mem_of_getElem? (i := 43) rfl)) (hw _ (List.mem_of_getElem? (i := 23) rfl)) (by decide) (by decide)) q226a q226c (g := (mkF m 299 #[.val (.int x0), .val (.int x1), .val (.int x2), .val (.int x3), .val (.int x4), .val (.int x5), .val (.ref b7), .val (.ref b25), .val (.int v87), .val (.ref b89), .val (.int j147), .val (.int j158), .val (.ref b167), .val (.int r_192), .val (.int j215), .unset] [(.ref b167)])) rfl (by rw [hml]; rfl) (Steps.refl _) (argsL := []) (rest := []) (lenOf pd_6 rfl) rfl (by show 2 * 0 + _ ≤ _; exact Nat.le_of_eq rfl) (hb hby at_299) (fun _ _ => ⟨rfl, rfl, (by decide : 4 + 0 ≤ _), (by decide : 18 + 0 ≤ _)⟩)
    dsimp only [Pt.U, Pt.locs, Pt.cells, Pt.slots] at X226 l226 y226 z226 st226 hQ226
    subst y226 z226
    obtain ⟨r_228, rfl, N226q, f229, e226⟩ := hQ226
    have N226 : Fr n0 L226 := by rw [l226]; exact Fr.app N185 N226q
    refine Go.tr  st226 ?_
    clear st226
    clear X185
    show Go p e below s Q 4 18 (T226.setTop (mkF m 302 #[.val (.int x0), .val (.int x1), .val (.int x2), .val (.int x3), .val (.int x4), .val (.int x5), .val (.ref b7), .val (.ref b25), .val (.int v87), .val (.ref b89), .val (.int j147), .val (.int j158), .val (.ref b167), .val (.int r_192), .val (.int j215), .unset] [(.int r_228)]))
    have f230 := rng32 r_228
    refine Go.st (fun _ k => XS.iload X226.here hx rfl (hb hby at_302) rfl k) ?_
    have c231 : r_228.toInt = j215.toInt := fin_p f229 f224 hF3 hF4 hSk
    refine Go.st (fun _ k => XS.icmpYes X226.here hx rfl (pc0 := 304) (pc' := 309) rfl (hb hby at_304) rfl (teq (eqI rfl rfl c231)).1 (by decide) (by decide) k) ?_
    refine Go.st (fun _ k => XS.aload X226.here hx rfl (hb hby at_309) rfl rfl k) ?_
    refine Go.st (fun _ k => XS.aload X226.here hx rfl (hb hby at_311) rfl rfl k) ?_
    refine Go.st (fun _ k => XS.iconst X226.here hx rfl (hb hby at_313) k) ?_
    refine Go.st (fun _ k => XS.iload X226.here hx rfl (hb hby at_314) rfl k) ?_
    show Go p e below s Q 4 18 (T226.setTop (mkF m 316 #[.val (.int x0), .val (.int x1), .val (.int x2), .val (.int x3), .val (.int x4), .val (.int x5), .val (.ref b7), .val (.ref b25), .val (.int v87), .val (.ref b89), .val (.int j147), .val (.int j158), .val (.ref b167), .val (.int r_192), .val (.int j215), .unset] [(.int v87), (.int (1 : Int32)), (.ref b25), (.ref b167)]))
    refine Go.st (fun _ k => XS.iadd X226.here hx rfl (hb hby at_316) rfl k) ?_
    refine Go.st (fun _ k => XS.iconst X226.here hx rfl (hb hby at_317) k) ?_
    have f233 := rng32 l2_194
    have f234 := rng32 m2_195
    have p235 : 0 ≤ ((1 : Int32) + v87).toInt ∧ ((1 : Int32) + v87).toInt ≤ (5 : Int32).toInt ∧ (5 : Int32).toInt ≤ 6 ∧ 0 ≤ p2_193.toInt := by omega
    obtain ⟨cq232, kq232, q232a, q232b, q232c⟩ := isOf hZ e226 h200
    obtain ⟨_, _, ⟨T232, L232, k232, n232⟩, -, X232, ⟨Lc232, hQ232, l232, y232, z232⟩, st232⟩ := X226.virtualBack hx (y := (⟨"com/example/ballast/ballast/json/Utf8", "check", "([BII)I"⟩ : MethodName)) (z := (⟨"com/example/ballast/ballast/json/Utf8", "check", "([BII)I"⟩ : MethodName)) hown (mvT hZ (hw _ (List.mem_of_getElem? (i := 34) rfl))) (mvT hZ (hw _ (List.mem_of_getElem? (i := 35) rfl))) (notFace_of_selects (args := #[]) (mvT hZ (hw _ (List.mem_of_getElem? (i := 37) rfl)))) (mvT hZ (hw _ (List.mem_of_getElem? (i := 37) rfl))) (mvT hZ (hw _ (List.mem_of_getElem? (i := 36) rfl))) (by decide) (backOf (W := 0) (rm8 l Z a0 hw [] b167 b25 ((1 : Int32) + v87) (5 : Int32) p2_193 l2_194 m2_195 (lst [y0, y1, y2, y3, y4, y5]) T185.heap n0 (Nat.le_trans Z0 K185.1) h200 Gb167 h201 h202 h203 h205 q169 (by_rng hz0 hz1 hz2 hz3 hz4 hz5) p235) hZ (hw _ (List.mem_of_getElem? (i := 38) rfl)) (hw _ (List.mem_of_getElem? (i := 23) rfl)) (by decide) (by decide)) q232a q232c (g := (mkF m 318 #[.val (.int x0), .val (.int x1), .val (.int x2), .val (.int x3), .val (.int x4), .val (.int x5), .val (.ref b7), .val (.ref b25), .val (.int v87), .val (.ref b89), .val (.int j147), .val (.int j158), .val (.ref b167), .val (.int r_192), .val (.int j215), .unset] [(.int (5 : Int32)), (.int ((1 : Int32) + v87)), (.ref b25), (.ref b167)])) rfl (by rw [hml]; rfl) (Steps.refl _) (argsL := [(.ref b25), (.int ((1 : Int32) + v87)), (.int (5 : Int32))]) (rest := []) (lenOf pd_5 rfl) rfl (by show 2 * 0 + _ ≤ _; exact Nat.le_of_eq rfl) (hb hby at_318) (fun _ _ => ⟨rfl, e226, (by decide : 4 + 0 ≤ _), (by decide : 18 + 0 ≤ _)⟩)
    dsimp only [Pt.U, Pt.locs, Pt.cells, Pt.slots] at X232 l232 y232 z232 st232 hQ232
    subst y232 z232
    obtain ⟨r_236, p2_237, l2_238, m2_239, rr_240, rfl, N232q, f241, f242, f243, K232q, h244, h245, h246, h247⟩ := hQ232
    have N232 : Fr n0 L232 := by rw [l232]; exact Fr.app N226 N232q
    have h248 : Vec Z T232.heap b7 .int (4 : Int32) (ints (lst [b0, b1, b2, b3])) := h204.keep K232q (ninS q168 nin0)
    have h249 : Vec Z T232.heap b25 .byte (6 : Int32) (ints (lst [y0, y1, y2, y3, y4, y5])) := h205.keep K232q (ninS q169 nin0)
    have h250 : Vec Z T232.heap b89 .int (5 : Int32) (ints (lst [(0 : Int32), r_109, r_119, r_129, r_139])) := h206.keep K232q (ninS q170 nin0)
    have K232 : Keep h0 T232.heap [] := K185.trans K232q (fun x hx => (show ∀ x ∈ ([b167] : List Addr), x ∈ ([] : List Addr) ∨ h0.size ≤ x from (allS (Or.inr szb167) all0)) x hx)
    refine Go.tr  st232 ?_
    clear st232
    clear h204 h205 h206 h200 h201 h202 h203 X226
    show Go p e below s Q 4 18 (T232.setTop (mkF m 321 #[.val (.int x0), .val (.int x1), .val (.int x2), .val (.int x3), .val (.int x4), .val (.int x5), .val (.ref b7), .val (.ref b25), .val (.int v87), .val (.ref b89), .val (.int j147), .val (.int j158), .val (.ref b167), .val (.int r_192), .val (.int j215), .unset] [(.int r_236)]))
    have f251 := rng32 r_236
    have q2 := f241
    have hG2 : Hid _ := fin2 hSS hBy hkn (by omega) (by omega) hF2.2.1 hF2.2.2.2 q2
    replace f242 : Hid _ := f242
    replace f224 : Hid _ := f224
    refine Go.st (fun _ k => XS.istore X232.here hx rfl (hb hby at_321) rfl (l' := #[.val (.int x0), .val (.int x1), .val (.int x2), .val (.int x3), .val (.int x4), .val (.int x5), .val (.ref b7), .val (.ref b25), .val (.int v87), .val (.ref b89), .val (.int j147), .val (.int j158), .val (.ref b167), .val (.int r_192), .val (.int j215), .val (.int r_236)]) rfl k) ?_
    refine Go.st (fun _ k => XS.iload X232.here hx rfl (hb hby at_323) rfl k) ?_
    by_cases c252 : j147.toInt < 0
    ·
      refine Go.st (fun _ k => XS.ifYes X232.here hx rfl (pc0 := 325) (pc' := 344) rfl (hb hby at_325) rfl ((if0 _ _).trans (tlt (ltI rfl liI_0 c252)).1) (by decide) (by decide) k) ?_
      refine Go.st (fun _ k => XS.iload X232.here hx rfl (hb hby at_344) rfl k) ?_
      refine Go.st (fun _ k => XS.iconst X232.here hx rfl (hb hby at_346) k) ?_
      have c253 : r_236.toInt = (-1) := by have q := fin_m hG2 (by omega) f242 f155 hS4 c252; omega
      refine Go.st (fun _ k => XS.icmpNo X232.here hx rfl (hb hby at_347) rfl (teq (eqI rfl liI_m1 c253)).2 k) ?_
      show Go p e below s Q 4 18 (T232.setTop (mkF m 350 #[.val (.int x0), .val (.int x1), .val (.int x2), .val (.int x3), .val (.int x4), .val (.int x5), .val (.ref b7), .val (.ref b25), .val (.int v87), .val (.ref b89), .val (.int j147), .val (.int j158), .val (.ref b167), .val (.int r_192), .val (.int j215), .val (.int r_236)] []))
      refine Go.st (fun _ k => XS.aload X232.here hx rfl (hb hby at_350) rfl rfl k) ?_
      have f255 := rng32 p2_237
      obtain ⟨cq254, kq254, q254a, q254b, q254c⟩ := isOf hZ rfl h244
      obtain ⟨_, _, ⟨T254, L254, k254, n254⟩, -, X254, ⟨Lc254, hQ254, l254, y254, z254⟩, st254⟩ := X232.virtualBack hx (y := (⟨"com/example/ballast/ballast/json/Utf8", "partial", "()Z"⟩ : MethodName)) (z := (⟨"com/example/ballast/ballast/json/Utf8", "partial", "()Z"⟩ : MethodName)) hown (mvT hZ (hw _ (List.mem_of_getElem? (i := 39) rfl))) (mvT hZ (hw _ (List.mem_of_getElem? (i := 40) rfl))) (notFace_of_selects (args := #[]) (mvT hZ (hw _ (List.mem_of_getElem? (i := 42) rfl)))) (mvT hZ (hw _ (List.mem_of_getElem? (i := 42) rfl))) (mvT hZ (hw _ (List.mem_of_getElem? (i := 41) rfl))) (by decide) (backOf (W := 0) (rm9 l Z a0 hw [] b167 p2_237 T232.heap n0 (Nat.le_trans Z0 K232.1) h245) hZ (hw _ (List.mem_of_getElem? (i := 43) rfl)) (hw _ (List.mem_of_getElem? (i := 23) rfl)) (by decide) (by decide)) q254a q254c (g := (mkF m 352 #[.val (.int x0), .val (.int x1), .val (.int x2), .val (.int x3), .val (.int x4), .val (.int x5), .val (.ref b7), .val (.ref b25), .val (.int v87), .val (.ref b89), .val (.int j147), .val (.int j158), .val (.ref b167), .val (.int r_192), .val (.int j215), .val (.int r_236)] [(.ref b167)])) rfl (by rw [hml]; rfl) (Steps.refl _) (argsL := []) (rest := []) (lenOf pd_6 rfl) rfl (by show 2 * 0 + _ ≤ _; exact Nat.le_of_eq rfl) (hb hby at_352) (fun _ _ => ⟨rfl, rfl, (by decide : 4 + 0 ≤ _), (by decide : 18 + 0 ≤ _)⟩)
      dsimp only [Pt.U, Pt.locs, Pt.cells, Pt.slots] at X254 l254 y254 z254 st254 hQ254
      subst y254 z254
      obtain ⟨r_256, rfl, N254q, f257, e254⟩ := hQ254
      have N254 : Fr n0 L254 := by rw [l254]; exact Fr.app N232 N254q
      refine Go.tr  st254 ?_
      clear st254
      clear X232
      show Go p e below s Q 4 18 (T254.setTop (mkF m 355 #[.val (.int x0), .val (.int x1), .val (.int x2), .val (.int x3), .val (.int x4), .val (.int x5), .val (.ref b7), .val (.ref b25), .val (.int v87), .val (.ref b89), .val (.int j147), .val (.int j158), .val (.ref b167), .val (.int r_192), .val (.int j215), .val (.int r_236)] [(.int r_256)]))
      have f258 := rng32 r_256
      refine Go.st (fun _ k => XS.iload X254.here hx rfl (hb hby at_355) rfl k) ?_
      have c259 : r_256.toInt = j158.toInt := (fun q => fin_p f257 f165 q.2 q.1 hS4) (fin_g hG2 (by omega) f155 hS4 c252)
      refine Go.st (fun _ k => XS.icmpNo X254.here hx rfl (hb hby at_357) rfl (teq (eqI rfl rfl c259)).2 k) ?_
      refine Go.st (fun _ k => XS.iconst X254.here hx rfl (hb hby at_360) k) ?_
      refine Go.st (fun _ k => XS.goto X254.here hx rfl (pc0 := 361) (pc' := 365) rfl (hb hby at_361) (by decide) (by decide) k) ?_
      show Go p e below s Q 4 18 (T254.setTop (mkF m 365 #[.val (.int x0), .val (.int x1), .val (.int x2), .val (.int x3), .val (.int x4), .val (.int x5), .val (.ref b7), .val (.ref b25), .val (.int v87), .val (.ref b89), .val (.int j147), .val (.int j158), .val (.ref b167), .val (.int r_192), .val (.int j215), .val (.int r_236)] [(.int (1 : Int32))]))
      exact Go.retN X254 hx hlk (by simp) Bd.returns (hb hby at_365) (z' := (1 : Int32)) (by decide) (by rw [← hQ, e254]; exact ⟨rfl, N254, K232⟩) (by decide) (by decide)
    ·
      refine Go.st (fun _ k => XS.ifNo X232.here hx rfl (hb hby at_325) rfl ((if0 _ _).trans (flt (nltI rfl liI_0 c252)).1) k) ?_
      refine Go.st (fun _ k => XS.iload X232.here hx rfl (hb hby at_328) rfl k) ?_
      refine Go.st (fun _ k => XS.iload X232.here hx rfl (hb hby at_330) rfl k) ?_
      refine Go.st (fun _ k => XS.iload X232.here hx rfl (hb hby at_332) rfl k) ?_
      show Go p e below s Q 4 18 (T232.setTop (mkF m 334 #[.val (.int x0), .val (.int x1), .val (.int x2), .val (.int x3), .val (.int x4), .val (.int x5), .val (.ref b7), .val (.ref b25), .val (.int v87), .val (.ref b89), .val (.int j147), .val (.int j158), .val (.ref b167), .val (.int r_192), .val (.int j215), .val (.int r_236)] [(.int v87), (.int j147), (.int r_236)]))
      refine Go.st (fun _ k => XS.isub X232.here hx rfl (hb hby at_334) rfl k) ?_
      have f260 := c_isub j147 v87
      have f261 := rng32 (j147 - v87)
      have c262 : r_236.toInt = (j147 - v87).toInt := by have q := fin_e hG2 f242 (ok := _) (k := v87.toInt) (by omega) f155 hS4 c252; omega
      refine Go.st (fun _ k => XS.icmpNo X232.here hx rfl (hb hby at_335) rfl (teq (eqI rfl rfl c262)).2 k) ?_
      refine Go.st (fun _ k => XS.iconst X232.here hx rfl (hb hby at_338) k) ?_
      refine Go.st (fun _ k => XS.goto X232.here hx rfl (pc0 := 339) (pc' := 343) rfl (hb hby at_339) (by decide) (by decide) k) ?_
      show Go p e below s Q 4 18 (T232.setTop (mkF m 343 #[.val (.int x0), .val (.int x1), .val (.int x2), .val (.int x3), .val (.int x4), .val (.int x5), .val (.ref b7), .val (.ref b25), .val (.int v87), .val (.ref b89), .val (.int j147), .val (.int j158), .val (.ref b167), .val (.int r_192), .val (.int j215), .val (.int r_236)] [(.int (1 : Int32))]))
      exact Go.retN X232 hx hlk (by simp) Bd.returns (hb hby at_343) (z' := (1 : Int32)) (by decide) (by rw [← hQ]; exact ⟨rfl, N232, K232⟩) (by decide) (by decide)
  ·
    refine Go.st (fun _ k => XS.ifNo X185.here hx rfl (hb hby at_241) rfl ((if0 _ _).trans (flt (nltI rfl liI_0 c209)).1) k) ?_
    refine Go.st (fun _ k => XS.iload X185.here hx rfl (hb hby at_244) rfl k) ?_
    refine Go.st (fun _ k => XS.iload X185.here hx rfl (hb hby at_246) rfl k) ?_
    by_cases c263 : j147.toInt < v87.toInt
    ·
      refine Go.st (fun _ k => XS.icmpNo X185.here hx rfl (hb hby at_248) rfl (tlt (ltI rfl rfl c263)).2.1 k) ?_
      show Go p e below s Q 4 18 (T185.setTop (mkF m 251 #[.val (.int x0), .val (.int x1), .val (.int x2), .val (.int x3), .val (.int x4), .val (.int x5), .val (.ref b7), .val (.ref b25), .val (.int v87), .val (.ref b89), .val (.int j147), .val (.int j158), .val (.ref b167), .val (.int r_192), .unset, .unset] []))
      refine Go.st (fun _ k => XS.iload X185.here hx rfl (hb hby at_251) rfl k) ?_
      refine Go.st (fun _ k => XS.iload X185.here hx rfl (hb hby at_253) rfl k) ?_
      have c264 : r_192.toInt = j147.toInt := by omega
      refine Go.st (fun _ k => XS.icmpNo X185.here hx rfl (hb hby at_255) rfl (teq (eqI rfl rfl c264)).2 k) ?_
      refine Go.st (fun _ k => XS.iconst X185.here hx rfl (hb hby at_258) k) ?_
      refine Go.st (fun _ k => XS.goto X185.here hx rfl (pc0 := 259) (pc' := 263) rfl (hb hby at_259) (by decide) (by decide) k) ?_
      show Go p e below s Q 4 18 (T185.setTop (mkF m 263 #[.val (.int x0), .val (.int x1), .val (.int x2), .val (.int x3), .val (.int x4), .val (.int x5), .val (.ref b7), .val (.ref b25), .val (.int v87), .val (.ref b89), .val (.int j147), .val (.int j158), .val (.ref b167), .val (.int r_192), .unset, .unset] [(.int (1 : Int32))]))
      exact Go.retN X185 hx hlk (by simp) Bd.returns (hb hby at_263) (z' := (1 : Int32)) (by decide) (by rw [← hQ]; exact ⟨rfl, N185, K185⟩) (by decide) (by decide)
    ·
      refine Go.st (fun _ k => XS.icmpYes X185.here hx rfl (pc0 := 248) (pc' := 264) rfl (hb hby at_248) rfl (flt (nltI rfl rfl c263)).2.1 (by decide) (by decide) k) ?_
      show Go p e below s Q 4 18 (T185.setTop (mkF m 264 #[.val (.int x0), .val (.int x1), .val (.int x2), .val (.int x3), .val (.int x4), .val (.int x5), .val (.ref b7), .val (.ref b25), .val (.int v87), .val (.ref b89), .val (.int j147), .val (.int j158), .val (.ref b167), .val (.int r_192), .unset, .unset] []))
      refine Go.st (fun _ k => XS.iload X185.here hx rfl (hb hby at_264) rfl k) ?_
      refine Go.st (fun _ k => XS.iconst X185.here hx rfl (hb hby at_266) k) ?_
      have f265 := liI_m1
      have c266 : r_192.toInt = (-1) := by omega
      refine Go.st (fun _ k => XS.icmpYes X185.here hx rfl (pc0 := 267) (pc' := 272) rfl (hb hby at_267) rfl (teq (eqI rfl liI_m1 c266)).1 (by decide) (by decide) k) ?_
      show Go p e below s Q 4 18 (T185.setTop (mkF m 272 #[.val (.int x0), .val (.int x1), .val (.int x2), .val (.int x3), .val (.int x4), .val (.int x5), .val (.ref b7), .val (.ref b25), .val (.int v87), .val (.ref b89), .val (.int j147), .val (.int j158), .val (.ref b167), .val (.int r_192), .unset, .unset] []))
      have hF2 := Or.elim hF1 id (fun q => by exfalso; have q1 := q.1; have q2 := q.2.1; have q3 := q.2.2.2; omega)
      have hF3 := hF2.2.2.1
      have hF4 := hF2.2.1
      replace f155 : Hid _ := f155
      replace f165 : Hid _ := f165
      replace f198 : Hid _ := f198
      replace hG1 : Hid _ := hG1
      have hF5 : (v87.toInt.toNat : Int) = v87.toInt := by omega
      rw [hF5] at hF3
      refine Go.st (fun _ k => XS.aload X185.here hx rfl (hb hby at_272) rfl rfl k) ?_
      refine Go.st (fun _ k => XS.iload X185.here hx rfl (hb hby at_274) rfl k) ?_
      have r268 : 0 ≤ v87.toInt := by omega
      have r269 : v87.toInt < (5 : Int32).toInt := by omega
      refine Go.st (Vec.ildI X185 hx hZ rfl h206 (j := v87) r268 r269 (g := (mkF m 276 #[.val (.int x0), .val (.int x1), .val (.int x2), .val (.int x3), .val (.int x4), .val (.int x5), .val (.ref b7), .val (.ref b25), .val (.int v87), .val (.ref b89), .val (.int j147), .val (.int j158), .val (.ref b167), .val (.int r_192), .unset, .unset] [(.int v87), (.ref b89)])) rfl rfl (hb hby at_276)) ?_
      show Go p e below s Q 4 18 (T185.setTop (mkF m 277 #[.val (.int x0), .val (.int x1), .val (.int x2), .val (.int x3), .val (.int x4), .val (.int x5), .val (.ref b7), .val (.ref b25), .val (.int v87), .val (.ref b89), .val (.int j147), .val (.int j158), .val (.ref b167), .val (.int r_192), .unset, .unset] [(.int ((lst [(0 : Int32), r_109, r_119, r_129, r_139]) v87.toInt.toNat))]))
      suffices J271 : ∀ (j270 : Int32), ((0 ≤ (lst [(0 : Int32), r_109, r_119, r_129, r_139] v87.toInt.toNat).toInt ∧ (lst [(0 : Int32), r_109, r_119, r_129, r_139] v87.toInt.toNat).toInt < v87.toInt ∧ j270.toInt = 1) ∨ (¬ (0 ≤ (lst [(0 : Int32), r_109, r_119, r_129, r_139] v87.toInt.toNat).toInt ∧ (lst [(0 : Int32), r_109, r_119, r_129, r_139] v87.toInt.toNat).toInt < v87.toInt) ∧ j270.toInt = 0)) → Go p e below s Q 4 18 (T185.setTop (mkF m 295 #[.val (.int x0), .val (.int x1), .val (.int x2), .val (.int x3), .val (.int x4), .val (.int x5), .val (.ref b7), .val (.ref b25), .val (.int v87), .val (.ref b89), .val (.int j147), .val (.int j158), .val (.ref b167), .val (.int r_192), .unset, .unset] [(.int j270)])) by
        have f273 := rng32 ((lst [(0 : Int32), r_109, r_119, r_129, r_139]) v87.toInt.toNat)
        by_cases c274 : ((lst [(0 : Int32), r_109, r_119, r_129, r_139]) v87.toInt.toNat).toInt < 0
        ·
          refine Go.st (fun _ k => XS.ifYes X185.here hx rfl (pc0 := 277) (pc' := 294) rfl (hb hby at_277) rfl ((if0 _ _).trans (tlt (ltI rfl liI_0 c274)).1) (by decide) (by decide) k) ?_
          refine Go.st (fun _ k => XS.iconst X185.here hx rfl (hb hby at_294) k) ?_
          show Go p e below s Q 4 18 (T185.setTop (mkF m 295 #[.val (.int x0), .val (.int x1), .val (.int x2), .val (.int x3), .val (.int x4), .val (.int x5), .val (.ref b7), .val (.ref b25), .val (.int v87), .val (.ref b89), .val (.int j147), .val (.int j158), .val (.ref b167), .val (.int r_192), .unset, .unset] [(.int (0 : Int32))]))
          exact J271 (0 : Int32) (by omega)
        ·
          refine Go.st (fun _ k => XS.ifNo X185.here hx rfl (hb hby at_277) rfl ((if0 _ _).trans (flt (nltI rfl liI_0 c274)).1) k) ?_
          refine Go.st (fun _ k => XS.aload X185.here hx rfl (hb hby at_280) rfl rfl k) ?_
          refine Go.st (fun _ k => XS.iload X185.here hx rfl (hb hby at_282) rfl k) ?_
          have r276 : 0 ≤ v87.toInt := by omega
          have r277 : v87.toInt < (5 : Int32).toInt := by omega
          refine Go.st (Vec.ildI X185 hx hZ rfl h206 (j := v87) r276 r277 (g := (mkF m 284 #[.val (.int x0), .val (.int x1), .val (.int x2), .val (.int x3), .val (.int x4), .val (.int x5), .val (.ref b7), .val (.ref b25), .val (.int v87), .val (.ref b89), .val (.int j147), .val (.int j158), .val (.ref b167), .val (.int r_192), .unset, .unset] [(.int v87), (.ref b89)])) rfl rfl (hb hby at_284)) ?_
          show Go p e below s Q 4 18 (T185.setTop (mkF m 285 #[.val (.int x0), .val (.int x1), .val (.int x2), .val (.int x3), .val (.int x4), .val (.int x5), .val (.ref b7), .val (.ref b25), .val (.int v87), .val (.ref b89), .val (.int j147), .val (.int j158), .val (.ref b167), .val (.int r_192), .unset, .unset] [(.int ((lst [(0 : Int32), r_109, r_119, r_129, r_139]) v87.toInt.toNat))]))
          refine Go.st (fun _ k => XS.iload X185.here hx rfl (hb hby at_285) rfl k) ?_
          by_cases c278 : ((lst [(0 : Int32), r_109, r_119, r_129, r_139]) v87.toInt.toNat).toInt < v87.toInt
          ·
            refine Go.st (fun _ k => XS.icmpNo X185.here hx rfl (hb hby at_287) rfl (tlt (ltI rfl rfl c278)).2.1 k) ?_
            refine Go.st (fun _ k => XS.iconst X185.here hx rfl (hb hby at_290) k) ?_
            refine Go.st (fun _ k => XS.goto X185.here hx rfl (pc0 := 291) (pc' := 295) rfl (hb hby at_291) (by decide) (by decide) k) ?_
            show Go p e below s Q 4 18 (T185.setTop (mkF m 295 #[.val (.int x0), .val (.int x1), .val (.int x2), .val (.int x3), .val (.int x4), .val (.int x5), .val (.ref b7), .val (.ref b25), .val (.int v87), .val (.ref b89), .val (.int j147), .val (.int j158), .val (.ref b167), .val (.int r_192), .unset, .unset] [(.int (1 : Int32))]))
            exact J271 (1 : Int32) (by omega)
          ·
            refine Go.st (fun _ k => XS.icmpYes X185.here hx rfl (pc0 := 287) (pc' := 294) rfl (hb hby at_287) rfl (flt (nltI rfl rfl c278)).2.1 (by decide) (by decide) k) ?_
            refine Go.st (fun _ k => XS.iconst X185.here hx rfl (hb hby at_294) k) ?_
            show Go p e below s Q 4 18 (T185.setTop (mkF m 295 #[.val (.int x0), .val (.int x1), .val (.int x2), .val (.int x3), .val (.int x4), .val (.int x5), .val (.ref b7), .val (.ref b25), .val (.int v87), .val (.ref b89), .val (.int j147), .val (.int j158), .val (.ref b167), .val (.int r_192), .unset, .unset] [(.int (0 : Int32))]))
            exact J271 (0 : Int32) (by omega)
      intro j270 f279
      have f280 := rng32 j270
      refine Go.st (fun _ k => XS.istore X185.here hx rfl (hb hby at_295) rfl (l' := #[.val (.int x0), .val (.int x1), .val (.int x2), .val (.int x3), .val (.int x4), .val (.int x5), .val (.ref b7), .val (.ref b25), .val (.int v87), .val (.ref b89), .val (.int j147), .val (.int j158), .val (.ref b167), .val (.int r_192), .val (.int j270), .unset]) rfl k) ?_
      refine Go.st (fun _ k => XS.aload X185.here hx rfl (hb hby at_297) rfl rfl k) ?_
      have f282 := rng32 p2_193
      obtain ⟨cq281, kq281, q281a, q281b, q281c⟩ := isOf hZ rfl h200
      obtain ⟨_, _, ⟨T281, L281, k281, n281⟩, -, X281, ⟨Lc281, hQ281, l281, y281, z281⟩, st281⟩ := X185.virtualBack hx (y := (⟨"com/example/ballast/ballast/json/Utf8", "partial", "()Z"⟩ : MethodName)) (z := (⟨"com/example/ballast/ballast/json/Utf8", "partial", "()Z"⟩ : MethodName)) hown (mvT hZ (hw _ (List.mem_of_getElem? (i := 39) rfl))) (mvT hZ (hw _ (List.mem_of_getElem? (i := 40) rfl))) (notFace_of_selects (args := #[]) (mvT hZ (hw _ (List.mem_of_getElem? (i := 42) rfl)))) (mvT hZ (hw _ (List.mem_of_getElem? (i := 42) rfl))) (mvT hZ (hw _ (List.mem_of_getElem? (i := 41) rfl))) (by decide) (backOf (W := 0) (rm9 l Z a0 hw [] b167 p2_193 T185.heap n0 (Nat.le_trans Z0 K185.1) h201) hZ (hw _ (List.mem_of_getElem? (i := 43) rfl)) (hw _ (List.mem_of_getElem? (i := 23) rfl)) (by decide) (by decide)) q281a q281c (g := (mkF m 299 #[.val (.int x0), .val (.int x1), .val (.int x2), .val (.int x3), .val (.int x4), .val (.int x5), .val (.ref b7), .val (.ref b25), .val (.int v87), .val (.ref b89), .val (.int j147), .val (.int j158), .val (.ref b167), .val (.int r_192), .val (.int j270), .unset] [(.ref b167)])) rfl (by rw [hml]; rfl) (Steps.refl _) (argsL := []) (rest := []) (lenOf pd_6 rfl) rfl (by show 2 * 0 + _ ≤ _; exact Nat.le_of_eq rfl) (hb hby at_299) (fun _ _ => ⟨rfl, rfl, (by decide : 4 + 0 ≤ _), (by decide : 18 + 0 ≤ _)⟩)
      dsimp only [Pt.U, Pt.locs, Pt.cells, Pt.slots] at X281 l281 y281 z281 st281 hQ281
      subst y281 z281
      obtain ⟨r_283, rfl, N281q, f284, e281⟩ := hQ281
      have N281 : Fr n0 L281 := by rw [l281]; exact Fr.app N185 N281q
      refine Go.tr  st281 ?_
      clear st281
      clear X185
      show Go p e below s Q 4 18 (T281.setTop (mkF m 302 #[.val (.int x0), .val (.int x1), .val (.int x2), .val (.int x3), .val (.int x4), .val (.int x5), .val (.ref b7), .val (.ref b25), .val (.int v87), .val (.ref b89), .val (.int j147), .val (.int j158), .val (.ref b167), .val (.int r_192), .val (.int j270), .unset] [(.int r_283)]))
      have f285 := rng32 r_283
      refine Go.st (fun _ k => XS.iload X281.here hx rfl (hb hby at_302) rfl k) ?_
      have c286 : r_283.toInt = j270.toInt := fin_p f284 f279 hF3 hF4 hSk
      refine Go.st (fun _ k => XS.icmpYes X281.here hx rfl (pc0 := 304) (pc' := 309) rfl (hb hby at_304) rfl (teq (eqI rfl rfl c286)).1 (by decide) (by decide) k) ?_
      refine Go.st (fun _ k => XS.aload X281.here hx rfl (hb hby at_309) rfl rfl k) ?_
      refine Go.st (fun _ k => XS.aload X281.here hx rfl (hb hby at_311) rfl rfl k) ?_
      refine Go.st (fun _ k => XS.iconst X281.here hx rfl (hb hby at_313) k) ?_
      refine Go.st (fun _ k => XS.iload X281.here hx rfl (hb hby at_314) rfl k) ?_
      show Go p e below s Q 4 18 (T281.setTop (mkF m 316 #[.val (.int x0), .val (.int x1), .val (.int x2), .val (.int x3), .val (.int x4), .val (.int x5), .val (.ref b7), .val (.ref b25), .val (.int v87), .val (.ref b89), .val (.int j147), .val (.int j158), .val (.ref b167), .val (.int r_192), .val (.int j270), .unset] [(.int v87), (.int (1 : Int32)), (.ref b25), (.ref b167)]))
      refine Go.st (fun _ k => XS.iadd X281.here hx rfl (hb hby at_316) rfl k) ?_
      refine Go.st (fun _ k => XS.iconst X281.here hx rfl (hb hby at_317) k) ?_
      have f288 := rng32 l2_194
      have f289 := rng32 m2_195
      have p290 : 0 ≤ ((1 : Int32) + v87).toInt ∧ ((1 : Int32) + v87).toInt ≤ (5 : Int32).toInt ∧ (5 : Int32).toInt ≤ 6 ∧ 0 ≤ p2_193.toInt := by omega
      obtain ⟨cq287, kq287, q287a, q287b, q287c⟩ := isOf hZ e281 h200
      obtain ⟨_, _, ⟨T287, L287, k287, n287⟩, -, X287, ⟨Lc287, hQ287, l287, y287, z287⟩, st287⟩ := X281.virtualBack hx (y := (⟨"com/example/ballast/ballast/json/Utf8", "check", "([BII)I"⟩ : MethodName)) (z := (⟨"com/example/ballast/ballast/json/Utf8", "check", "([BII)I"⟩ : MethodName)) hown (mvT hZ (hw _ (List.mem_of_getElem? (i := 34) rfl))) (mvT hZ (hw _ (List.mem_of_getElem? (i := 35) rfl))) (notFace_of_selects (args := #[]) (mvT hZ (hw _ (List.mem_of_getElem? (i := 37) rfl)))) (mvT hZ (hw _ (List.mem_of_getElem? (i := 37) rfl))) (mvT hZ (hw _ (List.mem_of_getElem? (i := 36) rfl))) (by decide) (backOf (W := 0) (rm8 l Z a0 hw [] b167 b25 ((1 : Int32) + v87) (5 : Int32) p2_193 l2_194 m2_195 (lst [y0, y1, y2, y3, y4, y5]) T185.heap n0 (Nat.le_trans Z0 K185.1) h200 Gb167 h201 h202 h203 h205 q169 (by_rng hz0 hz1 hz2 hz3 hz4 hz5) p290) hZ (hw _ (List.mem_of_getElem? (i := 38) rfl)) (hw _ (List.mem_of_getElem? (i := 23) rfl)) (by decide) (by decide)) q287a q287c (g := (mkF m 318 #[.val (.int x0), .val (.int x1), .val (.int x2), .val (.int x3), .val (.int x4), .val (.int x5), .val (.ref b7), .val (.ref b25), .val (.int v87), .val (.ref b89), .val (.int j147), .val (.int j158), .val (.ref b167), .val (.int r_192), .val (.int j270), .unset] [(.int (5 : Int32)), (.int ((1 : Int32) + v87)), (.ref b25), (.ref b167)])) rfl (by rw [hml]; rfl) (Steps.refl _) (argsL := [(.ref b25), (.int ((1 : Int32) + v87)), (.int (5 : Int32))]) (rest := []) (lenOf pd_5 rfl) rfl (by show 2 * 0 + _ ≤ _; exact Nat.le_of_eq rfl) (hb hby at_318) (fun _ _ => ⟨rfl, e281, (by decide : 4 + 0 ≤ _), (by decide : 18 + 0 ≤ _)⟩)
      dsimp only [Pt.U, Pt.locs, Pt.cells, Pt.slots] at X287 l287 y287 z287 st287 hQ287
      subst y287 z287
      obtain ⟨r_291, p2_292, l2_293, m2_294, rr_295, rfl, N287q, f296, f297, f298, K287q, h299, h300, h301, h302⟩ := hQ287
      have N287 : Fr n0 L287 := by rw [l287]; exact Fr.app N281 N287q
      have h303 : Vec Z T287.heap b7 .int (4 : Int32) (ints (lst [b0, b1, b2, b3])) := h204.keep K287q (ninS q168 nin0)
      have h304 : Vec Z T287.heap b25 .byte (6 : Int32) (ints (lst [y0, y1, y2, y3, y4, y5])) := h205.keep K287q (ninS q169 nin0)
      have h305 : Vec Z T287.heap b89 .int (5 : Int32) (ints (lst [(0 : Int32), r_109, r_119, r_129, r_139])) := h206.keep K287q (ninS q170 nin0)
      have K287 : Keep h0 T287.heap [] := K185.trans K287q (fun x hx => (show ∀ x ∈ ([b167] : List Addr), x ∈ ([] : List Addr) ∨ h0.size ≤ x from (allS (Or.inr szb167) all0)) x hx)
      refine Go.tr  st287 ?_
      clear st287
      clear h204 h205 h206 h200 h201 h202 h203 X281
      show Go p e below s Q 4 18 (T287.setTop (mkF m 321 #[.val (.int x0), .val (.int x1), .val (.int x2), .val (.int x3), .val (.int x4), .val (.int x5), .val (.ref b7), .val (.ref b25), .val (.int v87), .val (.ref b89), .val (.int j147), .val (.int j158), .val (.ref b167), .val (.int r_192), .val (.int j270), .unset] [(.int r_291)]))
      have f306 := rng32 r_291
      have q2 := f296
      have hG2 : Hid _ := fin2 hSS hBy hkn (by omega) (by omega) hF2.2.1 hF2.2.2.2 q2
      replace f297 : Hid _ := f297
      replace f279 : Hid _ := f279
      refine Go.st (fun _ k => XS.istore X287.here hx rfl (hb hby at_321) rfl (l' := #[.val (.int x0), .val (.int x1), .val (.int x2), .val (.int x3), .val (.int x4), .val (.int x5), .val (.ref b7), .val (.ref b25), .val (.int v87), .val (.ref b89), .val (.int j147), .val (.int j158), .val (.ref b167), .val (.int r_192), .val (.int j270), .val (.int r_291)]) rfl k) ?_
      refine Go.st (fun _ k => XS.iload X287.here hx rfl (hb hby at_323) rfl k) ?_
      by_cases c307 : j147.toInt < 0
      ·
        refine Go.st (fun _ k => XS.ifYes X287.here hx rfl (pc0 := 325) (pc' := 344) rfl (hb hby at_325) rfl ((if0 _ _).trans (tlt (ltI rfl liI_0 c307)).1) (by decide) (by decide) k) ?_
        refine Go.st (fun _ k => XS.iload X287.here hx rfl (hb hby at_344) rfl k) ?_
        refine Go.st (fun _ k => XS.iconst X287.here hx rfl (hb hby at_346) k) ?_
        have c308 : r_291.toInt = (-1) := by have q := fin_m hG2 (by omega) f297 f155 hS4 c307; omega
        refine Go.st (fun _ k => XS.icmpNo X287.here hx rfl (hb hby at_347) rfl (teq (eqI rfl liI_m1 c308)).2 k) ?_
        show Go p e below s Q 4 18 (T287.setTop (mkF m 350 #[.val (.int x0), .val (.int x1), .val (.int x2), .val (.int x3), .val (.int x4), .val (.int x5), .val (.ref b7), .val (.ref b25), .val (.int v87), .val (.ref b89), .val (.int j147), .val (.int j158), .val (.ref b167), .val (.int r_192), .val (.int j270), .val (.int r_291)] []))
        refine Go.st (fun _ k => XS.aload X287.here hx rfl (hb hby at_350) rfl rfl k) ?_
        have f310 := rng32 p2_292
        obtain ⟨cq309, kq309, q309a, q309b, q309c⟩ := isOf hZ rfl h299
        obtain ⟨_, _, ⟨T309, L309, k309, n309⟩, -, X309, ⟨Lc309, hQ309, l309, y309, z309⟩, st309⟩ := X287.virtualBack hx (y := (⟨"com/example/ballast/ballast/json/Utf8", "partial", "()Z"⟩ : MethodName)) (z := (⟨"com/example/ballast/ballast/json/Utf8", "partial", "()Z"⟩ : MethodName)) hown (mvT hZ (hw _ (List.mem_of_getElem? (i := 39) rfl))) (mvT hZ (hw _ (List.mem_of_getElem? (i := 40) rfl))) (notFace_of_selects (args := #[]) (mvT hZ (hw _ (List.mem_of_getElem? (i := 42) rfl)))) (mvT hZ (hw _ (List.mem_of_getElem? (i := 42) rfl))) (mvT hZ (hw _ (List.mem_of_getElem? (i := 41) rfl))) (by decide) (backOf (W := 0) (rm9 l Z a0 hw [] b167 p2_292 T287.heap n0 (Nat.le_trans Z0 K287.1) h300) hZ (hw _ (List.mem_of_getElem? (i := 43) rfl)) (hw _ (List.mem_of_getElem? (i := 23) rfl)) (by decide) (by decide)) q309a q309c (g := (mkF m 352 #[.val (.int x0), .val (.int x1), .val (.int x2), .val (.int x3), .val (.int x4), .val (.int x5), .val (.ref b7), .val (.ref b25), .val (.int v87), .val (.ref b89), .val (.int j147), .val (.int j158), .val (.ref b167), .val (.int r_192), .val (.int j270), .val (.int r_291)] [(.ref b167)])) rfl (by rw [hml]; rfl) (Steps.refl _) (argsL := []) (rest := []) (lenOf pd_6 rfl) rfl (by show 2 * 0 + _ ≤ _; exact Nat.le_of_eq rfl) (hb hby at_352) (fun _ _ => ⟨rfl, rfl, (by decide : 4 + 0 ≤ _), (by decide : 18 + 0 ≤ _)⟩)
        dsimp only [Pt.U, Pt.locs, Pt.cells, Pt.slots] at X309 l309 y309 z309 st309 hQ309
        subst y309 z309
        obtain ⟨r_311, rfl, N309q, f312, e309⟩ := hQ309
        have N309 : Fr n0 L309 := by rw [l309]; exact Fr.app N287 N309q
        refine Go.tr  st309 ?_
        clear st309
        clear X287
        show Go p e below s Q 4 18 (T309.setTop (mkF m 355 #[.val (.int x0), .val (.int x1), .val (.int x2), .val (.int x3), .val (.int x4), .val (.int x5), .val (.ref b7), .val (.ref b25), .val (.int v87), .val (.ref b89), .val (.int j147), .val (.int j158), .val (.ref b167), .val (.int r_192), .val (.int j270), .val (.int r_291)] [(.int r_311)]))
        have f313 := rng32 r_311
        refine Go.st (fun _ k => XS.iload X309.here hx rfl (hb hby at_355) rfl k) ?_
        have c314 : r_311.toInt = j158.toInt := (fun q => fin_p f312 f165 q.2 q.1 hS4) (fin_g hG2 (by omega) f155 hS4 c307)
        refine Go.st (fun _ k => XS.icmpNo X309.here hx rfl (hb hby at_357) rfl (teq (eqI rfl rfl c314)).2 k) ?_
        refine Go.st (fun _ k => XS.iconst X309.here hx rfl (hb hby at_360) k) ?_
        refine Go.st (fun _ k => XS.goto X309.here hx rfl (pc0 := 361) (pc' := 365) rfl (hb hby at_361) (by decide) (by decide) k) ?_
        show Go p e below s Q 4 18 (T309.setTop (mkF m 365 #[.val (.int x0), .val (.int x1), .val (.int x2), .val (.int x3), .val (.int x4), .val (.int x5), .val (.ref b7), .val (.ref b25), .val (.int v87), .val (.ref b89), .val (.int j147), .val (.int j158), .val (.ref b167), .val (.int r_192), .val (.int j270), .val (.int r_291)] [(.int (1 : Int32))]))
        exact Go.retN X309 hx hlk (by simp) Bd.returns (hb hby at_365) (z' := (1 : Int32)) (by decide) (by rw [← hQ, e309]; exact ⟨rfl, N309, K287⟩) (by decide) (by decide)
      ·
        refine Go.st (fun _ k => XS.ifNo X287.here hx rfl (hb hby at_325) rfl ((if0 _ _).trans (flt (nltI rfl liI_0 c307)).1) k) ?_
        refine Go.st (fun _ k => XS.iload X287.here hx rfl (hb hby at_328) rfl k) ?_
        refine Go.st (fun _ k => XS.iload X287.here hx rfl (hb hby at_330) rfl k) ?_
        refine Go.st (fun _ k => XS.iload X287.here hx rfl (hb hby at_332) rfl k) ?_
        show Go p e below s Q 4 18 (T287.setTop (mkF m 334 #[.val (.int x0), .val (.int x1), .val (.int x2), .val (.int x3), .val (.int x4), .val (.int x5), .val (.ref b7), .val (.ref b25), .val (.int v87), .val (.ref b89), .val (.int j147), .val (.int j158), .val (.ref b167), .val (.int r_192), .val (.int j270), .val (.int r_291)] [(.int v87), (.int j147), (.int r_291)]))
        refine Go.st (fun _ k => XS.isub X287.here hx rfl (hb hby at_334) rfl k) ?_
        have f315 := c_isub j147 v87
        have f316 := rng32 (j147 - v87)
        have c317 : r_291.toInt = (j147 - v87).toInt := by have q := fin_e hG2 f297 (ok := _) (k := v87.toInt) (by omega) f155 hS4 c307; omega
        refine Go.st (fun _ k => XS.icmpNo X287.here hx rfl (hb hby at_335) rfl (teq (eqI rfl rfl c317)).2 k) ?_
        refine Go.st (fun _ k => XS.iconst X287.here hx rfl (hb hby at_338) k) ?_
        refine Go.st (fun _ k => XS.goto X287.here hx rfl (pc0 := 339) (pc' := 343) rfl (hb hby at_339) (by decide) (by decide) k) ?_
        show Go p e below s Q 4 18 (T287.setTop (mkF m 343 #[.val (.int x0), .val (.int x1), .val (.int x2), .val (.int x3), .val (.int x4), .val (.int x5), .val (.ref b7), .val (.ref b25), .val (.int v87), .val (.ref b89), .val (.int j147), .val (.int j158), .val (.ref b167), .val (.int r_192), .val (.int j270), .val (.int r_291)] [(.int (1 : Int32))]))
        exact Go.retN X287 hx hlk (by simp) Bd.returns (hb hby at_343) (z' := (1 : Int32)) (by decide) (by rw [← hQ]; exact ⟨rfl, N287, K287⟩) (by decide) (by decide)
set_option maxRecDepth 65536 in
set_option maxHeartbeats 40000000 in
theorem comes_1 {Post : Tables → Env → Array Value → State → Outcome → State → Prop} (hpost : ∀ tb e args s v u, (limb_1_1.after args s (.returned v) u = true ∧ limb_1_2.after args s (.returned v) u = true ∧ True) → FrameEnd s (.returned v) u (Jvm.fieldLocs frame_1_writes args s ++ Jvm.arrayLocs frame_1_arrays args s ++ Jvm.staticLocs frame_1_statics s) 16 128 → Post tb e args s (.returned v) u) :
    ArmFor flags0 classFile x code maxLocals ret World_1 tables_1 room_1 Calls_1 rest_1 Pre_1 Post := by
  intro l hfl _ _ p e ha hc hk s m args below hf hA hF happ hP
  obtain ⟨hcalls, hrest, hpre⟩ := hP
  obtain ⟨-, -, -, hnamed, -, -, -, hat⟩ := (Spec.applies_iff hf).mp happ
  obtain ⟨hg, hn⟩ := and_e (Cond.before_iff.mp (show (Jvm.Cond.and given_1 narrow_1).before args s = true from hpre))
  obtain ⟨hcount, g0⟩ := and_e hg
  obtain ⟨a0, g1⟩ := and_e g0
  obtain ⟨a1, g2⟩ := and_e g1
  obtain ⟨a2, g3⟩ := and_e g2
  obtain ⟨a3, g4⟩ := and_e g3
  obtain ⟨a4, g5⟩ := and_e g4
  obtain ⟨w0, w1, w2, w3, w4, w5, rfl⟩ : ∃ w0 w1 w2 w3 w4 w5 : Value, args = #[w0, w1, w2, w3, w4, w5] := by
    have hs : args.size = 6 := by simpa [Cond.value, given_1] using hcount
    obtain ⟨L⟩ := args
    match L, hs with
    | [w0, w1, w2, w3, w4, w5], _ => exact ⟨w0, w1, w2, w3, w4, w5, rfl⟩
  have hw := fun d (hd : d ∈ tables_1) => atoms_spec (ws := Jvm.Cond.code x code maxLocals ret :: tables_1) hat d (List.mem_cons_of_mem _ hd)
  have hfit : Fit s := fun {y c} hc i hi => by
    obtain ⟨ha, rfl⟩ := Array.getElem?_eq_some_iff.mp hc
    have q := List.all_eq_true.mp ((Array.all_eq_true_iff_forall_mem.mp hF) _ (Array.getElem_mem ha)) i (List.mem_range.mpr hi)
    simpa [Array.getElem?_eq_getElem hi] using q
  obtain ⟨i0, ei0⟩ := is_v a0
  obtain rfl : w0 = (.int i0) := Option.some.inj ei0
  obtain ⟨i1, ei1⟩ := is_v a1
  obtain rfl : w1 = (.int i1) := Option.some.inj ei1
  obtain ⟨i2, ei2⟩ := is_v a2
  obtain rfl : w2 = (.int i2) := Option.some.inj ei2
  obtain ⟨i3, ei3⟩ := is_v a3
  obtain rfl : w3 = (.int i3) := Option.some.inj ei3
  obtain ⟨i4, ei4⟩ := is_v a4
  obtain rfl : w4 = (.int i4) := Option.some.inj ei4
  obtain ⟨i5, ei5⟩ := is_v g5
  obtain rfl : w5 = (.int i5) := Option.some.inj ei5
  obtain ⟨n, o, h1, h2, h3, _, L, rfl, ⟨rfl, N, _⟩, hq⟩ := rm0 l s _ hw tables_1 i0 i1 i2 i3 i4 i5 s.heap s.heap.size (Nat.le_refl _)  p e ha hc hk s m _ below hf ((Spec.applies_iff_loose hf).mp happ).1 ⟨rfl, State.Warmed39.refl s, rfl⟩ trivial
  refine ⟨n, _, h1, h2, h3, hpost _ _ _ _ _ _ ⟨Cond.after_iff.mpr rfl, Cond.after_iff.mpr (eq_i res_at (Term.int_eval (1)) rfl), trivial⟩ ⟨hq.1, hq.2.1, (hq.2.2.sift fun y hy => Or.inr (N y hy)).mono (by decide) (by decide)⟩⟩
theorem main_1_1 : Claimed_1_1 := comes_1 fun _ _ _ _ _ _ h hF => ⟨h.1, hF⟩
theorem main_1_2 : Claimed_1_2 := comes_1 fun _ _ _ _ _ _ h hF => ⟨h.2.1, hF⟩
end Jvm.Pilot.@@N@@
namespace Jvm.Pilot.@@N@@
open Jvm Jvm.ClassFile Sem Op Lib Jvm.Free Jvm.Stand Jvm.Pilot.@@N@@.Jvm.D
/-! MADE BY PROGRAM (witnessworld.py) out of the Statement's table words and the real class files: 10 classes; the members and pool entries that the words name. The judged class is class 1, her method 4. -/
namespace start1
open Jvm.ClassFile
def u (s : String) : CpInfo := .utf8 (stringToUtf16 s)
/-- a pool by its gaps: so many unusable entries, then the entry; so many at the end -/
def gap : Nat → List CpInfo → List CpInfo
  | 0, r => r
  | n + 1, r => .unusable :: gap n r
def poolList (es : List (Nat × CpInfo)) (last : Nat) : List CpInfo := es.foldr (fun e r => gap e.1 (e.2 :: r)) (gap last [])
def pool (es : List (Nat × CpInfo)) (last : Nat) : Array CpInfo := ⟨poolList es last⟩
def fileOf (pool : Array CpInfo) (this : Nat) (attrs : Array Attribute := #[]) (ms : Array MethodInfo := #[]) (fl : Nat := 33) (sup : Nat := 0) (ifs : Array Nat := #[]) (fds : Array FieldInfo := #[]) : ClassFile where
  minorVersion := 0
  majorVersion := 65
  constantPool := pool
  accessFlags := fl
  thisClass := this
  superClass := sup
  interfaces := ifs
  fields := fds
  methods := ms
  attributes := attrs
def plain (name : String) (sup : Option ClassId) : Class where
  name := name
  kind := .ordinary
  loader := none
  accessFlags := 33
  super := sup
  interfaces := #[]
  cf := none
  fields := #[]
  methods := #[]
  instanceTypes := #[]
  staticTypes := #[]
  resolved := #[]
  callSites := []
  init := .initialized
  statics := none
  mirror := none

def pool0 : Array CpInfo := pool [(5, u "<init>"), (0, u "()V"), (1, .class_ 10), (1, u "java/lang/Object")] 113

def k0c0 : Code := { maxStack := 0, maxLocals := 1, code := object_method_1_code, exceptionTable := #[], attributes := #[] }
def k0m0 : Method := { name := "<init>", desc := "()V", sig := { parameters := [], returnType := none }, accessFlags := 1, code := some k0c0 }
/-- java/lang/Object -/
def k0 : Class := { plain "java/lang/Object" none with
  accessFlags := 33
  interfaces := #[]
  cf := some (fileOf pool0 8 #[] #[{ accessFlags := 1, nameIndex := 5, descriptorIndex := 6, attributes := #[] }] 33 0 #[] #[])
  fields := #[]
  methods := #[k0m0]
  instanceTypes := #[]
  staticTypes := #[]
  resolved := Array.replicate 124 none
  statics := none }

def pool1 : Array CpInfo := pool [(2, .class_ 4), (0, .nameAndType 5 6), (0, u "java/lang/Object"), (0, u "<init>"), (0, u "()V"), (0, .methodref 8 9), (0, .class_ 10), (0, .nameAndType 11 12), (0, u "com/example/ballast/ballast/json/Utf8CheckPinLaw"), (0, u "len"), (0, u "(I)I"), (0, .integer 65536), (0, .integer 65535), (0, .integer 1114111), (0, .methodref 17 18), (0, .class_ 19), (0, .nameAndType 20 21), (0, u "java/lang/Math"), (0, u "max"), (0, u "(II)I"), (0, .methodref 17 23), (0, .nameAndType 24 21), (0, u "min"), (0, .integer 55296), (0, .integer 57343), (0, .methodref 8 28), (0, .nameAndType 29 30), (0, u "viable"), (0, u "([III)Z"), (0, .integer 2147483647), (0, .methodref 8 33), (0, .nameAndType 34 35), (0, u "step"), (0, u "([III)I"), (0, .class_ 37), (0, u "com/example/ballast/ballast/json/Utf8"), (0, .methodref 36 3), (0, .methodref 36 40), (0, .nameAndType 41 42), (0, u "check"), (0, u "([BII)I"), (0, .methodref 36 44), (0, .nameAndType 45 46), (0, u "partial"), (0, u "()Z"), (5, u "law"), (0, u "(IIIIII)Z")] 4

def k1m0 : Method := { name := "<init>", desc := "()V", sig := { parameters := [], returnType := none }, accessFlags := 2, code := none }
def k1c1 : Code := { maxStack := 2, maxLocals := 1, code := method_2_code, exceptionTable := #[], attributes := #[] }
def k1m1 : Method := { name := "len", desc := "(I)I", sig := { parameters := [.int], returnType := some .int }, accessFlags := 10, code := some k1c1 }
def k1c2 : Code := { maxStack := 3, maxLocals := 12, code := method_3_code, exceptionTable := #[], attributes := #[] }
def k1m2 : Method := { name := "viable", desc := "([III)Z", sig := { parameters := [(.array .int), .int, .int], returnType := some .boolean }, accessFlags := 10, code := some k1c2 }
def k1c3 : Code := { maxStack := 3, maxLocals := 4, code := method_4_code, exceptionTable := #[], attributes := #[] }
def k1m3 : Method := { name := "step", desc := "([III)I", sig := { parameters := [(.array .int), .int, .int], returnType := some .int }, accessFlags := 10, code := some k1c3 }
def k1c4 : Code := { maxStack := 5, maxLocals := 16, code := code, exceptionTable := #[], attributes := #[] }
def k1m4 : Method := { name := "law", desc := "(IIIIII)Z", sig := { parameters := [.int, .int, .int, .int, .int, .int], returnType := some .boolean }, accessFlags := 9, code := some k1c4 }
/-- com/example/ballast/ballast/json/Utf8CheckPinLaw -/
def k1 : Class := { plain "com/example/ballast/ballast/json/Utf8CheckPinLaw" (some 0) with
  accessFlags := 49
  interfaces := #[]
  cf := some (fileOf pool1 8 #[] #[{ accessFlags := 2, nameIndex := 5, descriptorIndex := 6, attributes := #[] }, { accessFlags := 10, nameIndex := 11, descriptorIndex := 12, attributes := #[] }, { accessFlags := 10, nameIndex := 29, descriptorIndex := 30, attributes := #[] }, { accessFlags := 10, nameIndex := 34, descriptorIndex := 35, attributes := #[] }, { accessFlags := 9, nameIndex := 52, descriptorIndex := 53, attributes := #[] }] 49 2 #[] #[])
  fields := #[]
  methods := #[k1m0, k1m1, k1m2, k1m3, k1m4]
  instanceTypes := #[]
  staticTypes := #[]
  resolved := Array.replicate 58 none
  statics := none }

def pool2 : Array CpInfo := pool [(1, .class_ 2), (0, u "java/lang/Math"), (1, .class_ 6), (1, u "java/lang/Object"), (0, u "<init>"), (0, u "()V"), (89, .class_ 100), (1, u "java/lang/Math$RandomNumberGeneratorHolder"), (71, u "negativeZeroFloatBits"), (0, u "J"), (2, u "negativeZeroDoubleBits"), (21, u "max"), (2, u "min"), (43, u "$assertionsDisabled"), (0, u "Z"), (88, u "(II)I"), (2, u "twoToTheDoubleScaleDown"), (0, u "D"), (4, u "twoToTheDoubleScaleUp"), (9, u "E"), (3, u "PI"), (2, u "TAU"), (2, u "DEGREES_TO_RADIANS"), (0, u "RADIANS_TO_DEGREES")] 94

def k2m0 : Method := { name := "<init>", desc := "()V", sig := { parameters := [], returnType := none }, accessFlags := 2, code := none }
def k2c1 : Code := { maxStack := 2, maxLocals := 2, code := jdk_29_method_65_code, exceptionTable := #[], attributes := #[] }
def k2m1 : Method := { name := "max", desc := "(II)I", sig := { parameters := [.int, .int], returnType := some .int }, accessFlags := 9, code := some k2c1 }
def k2c2 : Code := { maxStack := 2, maxLocals := 2, code := jdk_29_method_69_code, exceptionTable := #[], attributes := #[] }
def k2m2 : Method := { name := "min", desc := "(II)I", sig := { parameters := [.int, .int], returnType := some .int }, accessFlags := 9, code := some k2c2 }
/-- java/lang/Math -/
def k2 : Class := { plain "java/lang/Math" (some 0) with
  accessFlags := 49
  interfaces := #[]
  cf := some (fileOf pool2 1 #[.nestMembers #[98]] #[{ accessFlags := 2, nameIndex := 7, descriptorIndex := 8, attributes := #[] }, { accessFlags := 9, nameIndex := 198, descriptorIndex := 335, attributes := #[] }, { accessFlags := 9, nameIndex := 201, descriptorIndex := 335, attributes := #[] }] 49 4 #[] #[{ accessFlags := 25, nameIndex := 354, descriptorIndex := 339, attributes := #[] }, { accessFlags := 25, nameIndex := 358, descriptorIndex := 339, attributes := #[] }, { accessFlags := 25, nameIndex := 361, descriptorIndex := 339, attributes := #[] }, { accessFlags := 26, nameIndex := 364, descriptorIndex := 339, attributes := #[] }, { accessFlags := 26, nameIndex := 365, descriptorIndex := 339, attributes := #[] }, { accessFlags := 26, nameIndex := 172, descriptorIndex := 173, attributes := #[] }, { accessFlags := 26, nameIndex := 176, descriptorIndex := 173, attributes := #[] }, { accessFlags := 8, nameIndex := 344, descriptorIndex := 339, attributes := #[] }, { accessFlags := 8, nameIndex := 338, descriptorIndex := 339, attributes := #[] }, { accessFlags := 4120, nameIndex := 245, descriptorIndex := 246, attributes := #[] }])
  fields := #[{ name := "E", type := .double, accessFlags := 25, slot := 0, constantValue := 0 }, { name := "PI", type := .double, accessFlags := 25, slot := 1, constantValue := 0 }, { name := "TAU", type := .double, accessFlags := 25, slot := 2, constantValue := 0 }, { name := "DEGREES_TO_RADIANS", type := .double, accessFlags := 26, slot := 3, constantValue := 0 }, { name := "RADIANS_TO_DEGREES", type := .double, accessFlags := 26, slot := 4, constantValue := 0 }, { name := "negativeZeroFloatBits", type := .long, accessFlags := 26, slot := 5, constantValue := 0 }, { name := "negativeZeroDoubleBits", type := .long, accessFlags := 26, slot := 6, constantValue := 0 }, { name := "twoToTheDoubleScaleUp", type := .double, accessFlags := 8, slot := 7, constantValue := 0 }, { name := "twoToTheDoubleScaleDown", type := .double, accessFlags := 8, slot := 8, constantValue := 0 }, { name := "$assertionsDisabled", type := .boolean, accessFlags := 4120, slot := 9, constantValue := 0 }]
  methods := #[k2m0, k2m1, k2m2]
  instanceTypes := #[]
  staticTypes := #[.double, .double, .double, .double, .double, .long, .long, .double, .double, .boolean]
  resolved := Array.replicate 460 none
  statics := none }

def pool3 : Array CpInfo := pool [(1, .methodref 2 3), (0, .class_ 4), (0, .nameAndType 5 6), (0, u "java/lang/Object"), (0, u "<init>"), (0, u "()V"), (0, .fieldref 8 9), (0, .class_ 10), (0, .nameAndType 11 12), (0, u "com/example/ballast/ballast/json/Utf8"), (0, u "least"), (0, u "I"), (0, .fieldref 8 14), (0, .nameAndType 15 12), (0, u "most"), (0, .fieldref 8 17), (0, .nameAndType 18 12), (0, u "pending"), (2, u "check"), (0, u "([BII)I"), (3, u "partial"), (0, u "()Z")] 2

def k3c0 : Code := { maxStack := 2, maxLocals := 1, code := prog_20_method_1_code, exceptionTable := #[], attributes := #[] }
def k3m0 : Method := { name := "<init>", desc := "()V", sig := { parameters := [], returnType := none }, accessFlags := 0, code := some k3c0 }
def k3c1 : Code := { maxStack := 3, maxLocals := 6, code := prog_20_method_2_code, exceptionTable := #[], attributes := #[] }
def k3m1 : Method := { name := "check", desc := "([BII)I", sig := { parameters := [(.array .byte), .int, .int], returnType := some .int }, accessFlags := 0, code := some k3c1 }
def k3c2 : Code := { maxStack := 1, maxLocals := 1, code := prog_20_method_3_code, exceptionTable := #[], attributes := #[] }
def k3m2 : Method := { name := "partial", desc := "()Z", sig := { parameters := [], returnType := some .boolean }, accessFlags := 0, code := some k3c2 }
/-- com/example/ballast/ballast/json/Utf8 -/
def k3 : Class := { plain "com/example/ballast/ballast/json/Utf8" (some 0) with
  accessFlags := 48
  interfaces := #[]
  cf := some (fileOf pool3 8 #[] #[{ accessFlags := 0, nameIndex := 5, descriptorIndex := 6, attributes := #[] }, { accessFlags := 0, nameIndex := 21, descriptorIndex := 22, attributes := #[] }, { accessFlags := 0, nameIndex := 26, descriptorIndex := 27, attributes := #[] }] 48 2 #[] #[{ accessFlags := 2, nameIndex := 18, descriptorIndex := 12, attributes := #[] }, { accessFlags := 2, nameIndex := 11, descriptorIndex := 12, attributes := #[] }, { accessFlags := 2, nameIndex := 15, descriptorIndex := 12, attributes := #[] }])
  fields := #[{ name := "pending", type := .int, accessFlags := 2, slot := 0, constantValue := 0 }, { name := "least", type := .int, accessFlags := 2, slot := 1, constantValue := 0 }, { name := "most", type := .int, accessFlags := 2, slot := 2, constantValue := 0 }]
  methods := #[k3m0, k3m1, k3m2]
  instanceTypes := #[.int, .int, .int]
  staticTypes := #[]
  resolved := Array.replicate 30 none
  statics := none }

def pool4 : Array CpInfo := pool [(1, u "java/lang/Cloneable"), (0, .class_ 1), (0, u "java/lang/Object"), (0, .class_ 3)] 3

/-- java/lang/Cloneable -/
def k4 : Class := { plain "java/lang/Cloneable" (some 0) with
  accessFlags := 1537
  interfaces := #[]
  cf := some (fileOf pool4 2 #[] #[] 1537 4 #[] #[])
  fields := #[]
  methods := #[]
  instanceTypes := #[]
  staticTypes := #[]
  resolved := Array.replicate 8 none
  statics := none }

def pool5 : Array CpInfo := pool [(1, u "java/io/Serializable"), (0, .class_ 1), (0, u "java/lang/Object"), (0, .class_ 3)] 3

/-- java/io/Serializable -/
def k5 : Class := { plain "java/io/Serializable" (some 0) with
  accessFlags := 1537
  interfaces := #[]
  cf := some (fileOf pool5 2 #[] #[] 1537 4 #[] #[])
  fields := #[]
  methods := #[]
  instanceTypes := #[]
  staticTypes := #[]
  resolved := Array.replicate 8 none
  statics := none }

/-- the primitive byte -/
def k6 : Class := { plain "byte" none with kind := .primitive 'B', accessFlags := 0x411 }
/-- [B -/
def k7 : Class := { plain "[B" (some 0) with kind := .array 6 .byte, interfaces := #[4, 5], accessFlags := 1041 }

/-- the primitive int -/
def k8 : Class := { plain "int" none with kind := .primitive 'I', accessFlags := 0x411 }
/-- [I -/
def k9 : Class := { plain "[I" (some 0) with kind := .array 8 .int, interfaces := #[4, 5], accessFlags := 1041 }

def heap : Heap := #[]
def classes : Array Class := #[k0, k1, k2, k3, k4, k5, k6, k7, k8, k9]
def interned : List (Array UInt16 × Addr) := []
def slotsUsed : Nat := 0
def theMethod : MethodId := ⟨1, 4⟩
def args0 : Array Value := #[.int 1, .int 2, .int 3, .int 4, .int 5, .int 6]
def aboutOver (below : List Frame) : State where
  vm := { classes := classes, interned := interned.toArray }
  heap := heap
  slotsUsed := slotsUsed
  threads := #[{ frames := .invoking theMethod args0 :: below }]
def below0 : List Frame := [.native { method := ⟨0, 0⟩, args := #[] }]
def about1 : State := aboutOver below0
def p0 : Program := .bare "" "" ""
def e0 : Env := launch0.env 0 0 0
theorem w_frames : about1.frames = Frame.invoking theMethod args0 :: below0 := rfl
set_option maxRecDepth 65536 in
theorem w_args : argsFit about1.vm theMethod args0 = true := by decide +kernel
set_option maxRecDepth 65536 in
theorem w_heap : heapFits about1 = true := by decide +kernel
set_option maxRecDepth 65536 in
theorem w_runnable : about1.curStatus? = some .runnable := by decide +kernel
set_option maxRecDepth 65536 in
theorem w_alone : about1.alone = true := by decide +kernel
set_option maxRecDepth 65536 in
theorem w_named : about1.methodNamed? x = some theMethod := by decide +kernel
set_option maxRecDepth 65536 in
theorem w_hears : about1.hears theMethod below0 = true := by decide +kernel
set_option maxRecDepth 65536 in
theorem w_ripe : about1.ripe theMethod args0 below0 = true := by decide +kernel
theorem w_running : about1.status = .running := rfl
set_option maxRecDepth 65536 in
theorem w_room : about1.hasRoom e0.platform room_1 = true :=
  launch0.hasRoom_least _ room_1 (by decide +kernel) (by decide +kernel) (by decide +kernel) (by decide +kernel) (by decide +kernel) (by decide +kernel)
theorem allAtoms_all (ts : List Jvm.Cond) (a : Array Jvm.Value) (st : Jvm.State) : (allAtoms ts).before a st = ts.all (fun c => c.before a st) := by
  induction ts with
  | nil => rfl
  | cons c t ih =>
    show (Jvm.Cond.and c (allAtoms t)).before a st = _
    rw [Jvm.Cond.before_and, ih, List.all_cons]
def words1 : List Jvm.Cond := Jvm.Cond.code x code maxLocals ret :: tables_1
/-- a 'code' word, met by the world's own term for the bytes: nothing is compared byte by byte -/
theorem code_word {y : MethodName} {bytes : ByteArray} {mx : Nat} {rt : Option FieldType} {a : Array Value} {s : State} {m : MethodId} {meth : Method} {c : Code} (h1 : s.methodNamed? y = some m) (h2 : s.vm.method? m = some meth) (h3 : meth.code = some c) (h4 : c.code = bytes)
    (h5 : (c.maxLocals == mx && c.exceptionTable.isEmpty && decide (c.maxStack ≤ mostOperands) && decide (meth.sig.returnType = rt) && !meth.locks && decide (parseMethodDescriptor y.desc = some meth.sig)) = true) : (Jvm.Cond.code y bytes mx rt).before a s = true := by
  simp only [Bool.and_eq_true, beq_iff_eq, Bool.not_eq_true', decide_eq_true_eq] at h5
  obtain ⟨⟨⟨⟨⟨g1, g2⟩, g3⟩, g4⟩, g5⟩, g6⟩ := h5
  simp [Cond.before, Cond.holds, Cond.value, h1, h2, h3, h4, g1, g2, g3, g4, g5, g6]
def isCode : Jvm.Cond → Bool
  | .code _ _ _ _ => true
  | _ => false
theorem all_split {L : List Jvm.Cond} {P : Jvm.Cond → Bool} (h1 : L.all (fun c => isCode c || P c) = true) (h2 : ∀ c ∈ L.filter isCode, P c = true) : L.all P = true := by
  refine List.all_eq_true.mpr fun c hc => ?_
  have h := List.all_eq_true.mp h1 c hc
  rcases Bool.eq_false_or_eq_true (isCode c) with hi | hi
  · exact h2 c (List.mem_filter.mpr ⟨hc, hi⟩)
  · simpa [hi] using h
set_option maxRecDepth 65536 in
theorem w_c0 : (Jvm.Cond.code x code maxLocals ret).before args0 about1 = true := code_word (m := ⟨1, 4⟩) (meth := k1m4) (c := k1c4) (by decide +kernel) rfl rfl rfl (by decide +kernel)
set_option maxRecDepth 65536 in
theorem w_c1 : (Jvm.Cond.code ({ cls := "com/example/ballast/ballast/json/Utf8CheckPinLaw", name := "step", desc := "([III)I" } : Jvm.MethodName) method_4_code (4 : Nat) (Option.some Jvm.ClassFile.FieldType.int)).before args0 about1 = true := code_word (m := ⟨1, 3⟩) (meth := k1m3) (c := k1c3) (by decide +kernel) rfl rfl rfl (by decide +kernel)
set_option maxRecDepth 65536 in
theorem w_c2 : (Jvm.Cond.code ({ cls := "com/example/ballast/ballast/json/Utf8CheckPinLaw", name := "viable", desc := "([III)Z" } : Jvm.MethodName) method_3_code (12 : Nat) (Option.some Jvm.ClassFile.FieldType.boolean)).before args0 about1 = true := code_word (m := ⟨1, 2⟩) (meth := k1m2) (c := k1c2) (by decide +kernel) rfl rfl rfl (by decide +kernel)
set_option maxRecDepth 65536 in
theorem w_c3 : (Jvm.Cond.code ({ cls := "com/example/ballast/ballast/json/Utf8CheckPinLaw", name := "len", desc := "(I)I" } : Jvm.MethodName) method_2_code (1 : Nat) (Option.some Jvm.ClassFile.FieldType.int)).before args0 about1 = true := code_word (m := ⟨1, 1⟩) (meth := k1m1) (c := k1c1) (by decide +kernel) rfl rfl rfl (by decide +kernel)
set_option maxRecDepth 65536 in
theorem w_c4 : (Jvm.Cond.code ({ cls := "java/lang/Math", name := "max", desc := "(II)I" } : Jvm.MethodName) jdk_29_method_65_code (2 : Nat) (Option.some Jvm.ClassFile.FieldType.int)).before args0 about1 = true := code_word (m := ⟨2, 1⟩) (meth := k2m1) (c := k2c1) (by decide +kernel) rfl rfl rfl (by decide +kernel)
set_option maxRecDepth 65536 in
theorem w_c5 : (Jvm.Cond.code ({ cls := "java/lang/Math", name := "min", desc := "(II)I" } : Jvm.MethodName) jdk_29_method_69_code (2 : Nat) (Option.some Jvm.ClassFile.FieldType.int)).before args0 about1 = true := code_word (m := ⟨2, 2⟩) (meth := k2m2) (c := k2c2) (by decide +kernel) rfl rfl rfl (by decide +kernel)
set_option maxRecDepth 65536 in
theorem w_c6 : (Jvm.Cond.code ({ cls := "com/example/ballast/ballast/json/Utf8", name := "<init>", desc := "()V" } : Jvm.MethodName) prog_20_method_1_code (1 : Nat) (Option.none : Option Jvm.ClassFile.FieldType)).before args0 about1 = true := code_word (m := ⟨3, 0⟩) (meth := k3m0) (c := k3c0) (by decide +kernel) rfl rfl rfl (by decide +kernel)
set_option maxRecDepth 65536 in
theorem w_c7 : (Jvm.Cond.code ({ cls := "java/lang/Object", name := "<init>", desc := "()V" } : Jvm.MethodName) object_method_1_code (1 : Nat) (Option.none : Option Jvm.ClassFile.FieldType)).before args0 about1 = true := code_word (m := ⟨0, 0⟩) (meth := k0m0) (c := k0c0) (by decide +kernel) rfl rfl rfl (by decide +kernel)
set_option maxRecDepth 65536 in
theorem w_c8 : (Jvm.Cond.code ({ cls := "com/example/ballast/ballast/json/Utf8", name := "check", desc := "([BII)I" } : Jvm.MethodName) prog_20_method_2_code (6 : Nat) (Option.some Jvm.ClassFile.FieldType.int)).before args0 about1 = true := code_word (m := ⟨3, 1⟩) (meth := k3m1) (c := k3c1) (by decide +kernel) rfl rfl rfl (by decide +kernel)
set_option maxRecDepth 65536 in
theorem w_c9 : (Jvm.Cond.code ({ cls := "com/example/ballast/ballast/json/Utf8", name := "partial", desc := "()Z" } : Jvm.MethodName) prog_20_method_3_code (1 : Nat) (Option.some Jvm.ClassFile.FieldType.boolean)).before args0 about1 = true := code_word (m := ⟨3, 2⟩) (meth := k3m2) (c := k3c2) (by decide +kernel) rfl rfl rfl (by decide +kernel)
def codes1 : List Jvm.Cond := [Jvm.Cond.code x code maxLocals ret, Jvm.Cond.code ({ cls := "com/example/ballast/ballast/json/Utf8CheckPinLaw", name := "step", desc := "([III)I" } : Jvm.MethodName) method_4_code (4 : Nat) (Option.some Jvm.ClassFile.FieldType.int), Jvm.Cond.code ({ cls := "com/example/ballast/ballast/json/Utf8CheckPinLaw", name := "viable", desc := "([III)Z" } : Jvm.MethodName) method_3_code (12 : Nat) (Option.some Jvm.ClassFile.FieldType.boolean), Jvm.Cond.code ({ cls := "com/example/ballast/ballast/json/Utf8CheckPinLaw", name := "len", desc := "(I)I" } : Jvm.MethodName) method_2_code (1 : Nat) (Option.some Jvm.ClassFile.FieldType.int), Jvm.Cond.code ({ cls := "java/lang/Math", name := "max", desc := "(II)I" } : Jvm.MethodName) jdk_29_method_65_code (2 : Nat) (Option.some Jvm.ClassFile.FieldType.int), Jvm.Cond.code ({ cls := "java/lang/Math", name := "min", desc := "(II)I" } : Jvm.MethodName) jdk_29_method_69_code (2 : Nat) (Option.some Jvm.ClassFile.FieldType.int), Jvm.Cond.code ({ cls := "com/example/ballast/ballast/json/Utf8", name := "<init>", desc := "()V" } : Jvm.MethodName) prog_20_method_1_code (1 : Nat) (Option.none : Option Jvm.ClassFile.FieldType), Jvm.Cond.code ({ cls := "java/lang/Object", name := "<init>", desc := "()V" } : Jvm.MethodName) object_method_1_code (1 : Nat) (Option.none : Option Jvm.ClassFile.FieldType), Jvm.Cond.code ({ cls := "com/example/ballast/ballast/json/Utf8", name := "check", desc := "([BII)I" } : Jvm.MethodName) prog_20_method_2_code (6 : Nat) (Option.some Jvm.ClassFile.FieldType.int), Jvm.Cond.code ({ cls := "com/example/ballast/ballast/json/Utf8", name := "partial", desc := "()Z" } : Jvm.MethodName) prog_20_method_3_code (1 : Nat) (Option.some Jvm.ClassFile.FieldType.boolean)]
set_option maxRecDepth 65536 in
theorem codes_eq : words1.filter isCode = codes1 := rfl
theorem w_codes : ∀ c ∈ words1.filter isCode, c.before args0 about1 = true := by
  rw [codes_eq]
  intro c hc
  simp only [codes1, List.mem_cons, List.not_mem_nil, or_false] at hc
  rcases hc with rfl | rfl | rfl | rfl | rfl | rfl | rfl | rfl | rfl | rfl
  · exact w_c0
  · exact w_c1
  · exact w_c2
  · exact w_c3
  · exact w_c4
  · exact w_c5
  · exact w_c6
  · exact w_c7
  · exact w_c8
  · exact w_c9
set_option maxRecDepth 65536 in
theorem w_t1 : (words1.take 24).all (fun c => isCode c || c.before args0 about1) = true := by decide +kernel
set_option maxRecDepth 65536 in
theorem w_t2 : ((words1.drop 24).take 24).all (fun c => isCode c || c.before args0 about1) = true := by decide +kernel
set_option maxRecDepth 65536 in
theorem w_t3 : ((words1.drop 24).drop 24).all (fun c => isCode c || c.before args0 about1) = true := by decide +kernel
theorem w_tables : (allAtoms (Jvm.Cond.code x code maxLocals ret :: tables_1)).before args0 about1 = true := by
  rw [allAtoms_all]
  show words1.all (fun c => c.before args0 about1) = true
  refine all_split ?_ w_codes
  rw [← List.take_append_drop 24 words1, List.all_append, w_t1, ← List.take_append_drop 24 (words1.drop 24), List.all_append, w_t2, w_t3]
  rfl
set_option maxRecDepth 65536 in
theorem w_case : (Jvm.Cond.and given_1 narrow_1).before args0 about1 = true := by decide +kernel
theorem w_applies : (headSpec (Jvm.Cond.code x code maxLocals ret :: tables_1) room_1).applies x e0.platform about1 = true :=
  (Spec.applies_iff w_frames).mpr ⟨w_running, w_runnable, w_alone, w_named, w_hears, w_ripe, w_room, w_tables⟩
theorem atStart : AtStart classFile x code maxLocals ret World_1 tables_1 room_1 Calls_1 rest_1 Pre_1 launch0 p0 e0 about1 theMethod args0 below0 :=
  ⟨lists_1, trivial, launch0.admits_env _ _ _, launch0.least_env, fairChoices_fair.cas, fairChoices_fair.clock, w_frames, w_args, w_heap, w_applies, trivial, trivial, w_case⟩
end start1
theorem witness_1 : WitnessClaimed_1 := ⟨start1.p0, start1.e0, start1.about1, start1.theMethod, start1.args0, start1.below0, start1.atStart⟩
end Jvm.Pilot.@@N@@
