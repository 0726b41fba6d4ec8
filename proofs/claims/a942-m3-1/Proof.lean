import JvmDerived
import JvmDerived.Pilot.@@N@@Statement
import JvmDerived.Pilot.@@N@@Code
set_option linter.unusedVariables false
set_option linter.unusedSimpArgs false
namespace Jvm.OwnGo
open Jvm Jvm.ClassFile Sem Op Lib Jvm.Free Jvm.Stand Jvm.LawKit Jvm.RoadKit
section Own
variable {p : Program} {l : Launch} {e : Env} {R : Room} {s : State} {m : MethodId} {args : Array Value} {below : List Frame} {meth : Method} {c : Code} {T : State} {locs : List Loc} {cells slots : Nat} {Q : Option Value → Heap → List Loc → Prop} {C N : Nat}
/-- from A on the run comes to its return, and what it returns and leaves is as Q says -/
def Go (p : Program) (e : Env) (below : List Frame) (s : State) (Q : Option Value → Heap → List Loc → Prop) (C N : Nat) (A : State) : Prop :=
  ∃ s₂ o, Steps p.tables e below A s₂ ∧ s₂.status = .running ∧ Ended s₂ below o ∧ ∃ v L, o = .returned v ∧ Q v s₂.heap L ∧ FrameEnd s o s₂ L C N
theorem Go.st {A B : State} (h : ∀ t, Steps p.tables e below B t → Steps p.tables e below A t) (k : Go p e below s Q C N B) : Go p e below s Q C N A := by
  obtain ⟨s₂, o, h1, r⟩ := k
  exact ⟨s₂, o, h _ h1, r⟩
theorem Go.tr {A B : State} (h : Steps p.tables e below A B) (k : Go p e below s Q C N B) : Go p e below s Q C N A := k.st fun _ q => h.trans q
theorem Go.retI (X : Stand p l e R s m args below meth c T locs cells slots) (hx : p.tables.exec = Jvm.exec) (hlk : meth.locks = false) (hret : meth.sig.returnType = some .int) {pc : Nat} {Ls : Array Slot} {z : Int32} {rest : List Value} (hd : decode c.code pc = .ok (.ireturn, 1))
    (q : Q (some (.int z)) T.heap locs) (hc : cells ≤ C) (hn : slots ≤ N) : Go p e below s Q C N (T.setTop (mkF m pc Ls (.int z :: rest))) := by
  obtain ⟨fs, hr, hrun, hended, hW, hsame⟩ := X.leave (v := some (.int z)) (fun h => by rw [hret] at h; cases h) hlk
  exact ⟨_, _, retOut X hx hret rfl (Or.inl ⟨rfl, Or.inl rfl, _, rfl⟩) hd hr, hrun, hended, _, _, rfl, q, ⟨_, rfl⟩, hW, hsame.mono hc hn⟩
theorem Go.retN (X : Stand p l e R s m args below meth c T locs cells slots) (hx : p.tables.exec = Jvm.exec) (hlk : meth.locks = false) {t : FieldType} (ht : t = .boolean ∨ t = .byte ∨ t = .char ∨ t = .short) (hret : meth.sig.returnType = some t) {pc : Nat} {Ls : Array Slot} {z z' : Int32} {rest : List Value} (hd : decode c.code pc = .ok (.ireturn, 1))
    (hz : nar t z = z') (q : Q (some (.int z')) T.heap locs) (hc : cells ≤ C) (hn : slots ≤ N) : Go p e below s Q C N (T.setTop (mkF m pc Ls (.int z :: rest))) := by
  subst hz
  obtain ⟨fs, hr, hrun, hended, hW, hsame⟩ := X.leave (v := some (.int (nar t z))) (fun h => by rw [hret] at h; cases h) hlk
  exact ⟨_, _, Jvm.RoadKit.retN X hx hret ht hd hr, hrun, hended, _, _, rfl, q, ⟨_, rfl⟩, hW, hsame.mono hc hn⟩
theorem Go.retJ (X : Stand p l e R s m args below meth c T locs cells slots) (hx : p.tables.exec = Jvm.exec) (hlk : meth.locks = false) (hret : meth.sig.returnType = some .long) {pc : Nat} {Ls : Array Slot} {z : Int64} {rest : List Value} (hd : decode c.code pc = .ok (.lreturn, 1))
    (q : Q (some (.long z)) T.heap locs) (hc : cells ≤ C) (hn : slots ≤ N) : Go p e below s Q C N (T.setTop (mkF m pc Ls (.long z :: rest))) := by
  obtain ⟨fs, hr, hrun, hended, hW, hsame⟩ := X.leave (v := some (.long z)) (fun h => by rw [hret] at h; cases h) hlk
  exact ⟨_, _, retOut X hx hret rfl (Or.inr (Or.inl ⟨rfl, rfl, _, rfl⟩)) hd hr, hrun, hended, _, _, rfl, q, ⟨_, rfl⟩, hW, hsame.mono hc hn⟩
theorem nar_ref {t : FieldType} {w : Value} (hw : w.isRef = true) : narrow t w = w := by
  cases t <;> cases w <;> first | rfl | (simp [Value.isRef] at hw)
theorem Go.retA (X : Stand p l e R s m args below meth c T locs cells slots) (hx : p.tables.exec = Jvm.exec) (hlk : meth.locks = false) {t : FieldType} (ht : t.isReference = true) (hret : meth.sig.returnType = some t) {pc : Nat} {Ls : Array Slot} {w : Value} {rest : List Value} (hw : w.isRef = true) (hd : decode c.code pc = .ok (.areturn, 1))
    (q : Q (some w) T.heap locs) (hc : cells ≤ C) (hn : slots ≤ N) : Go p e below s Q C N (T.setTop (mkF m pc Ls (w :: rest))) := by
  obtain ⟨fs, hr, hrun, hended, hW, hsame⟩ := X.leave (v := some w) (fun h => by rw [hret] at h; cases h) hlk
  exact ⟨_, _, retOut X hx hret (nar_ref hw) (Or.inr (Or.inr (Or.inr (Or.inr ⟨rfl, ht, hw⟩)))) hd hr, hrun, hended, _, _, rfl, q, ⟨_, rfl⟩, hW, hsame.mono hc hn⟩
theorem Go.retV (X : Stand p l e R s m args below meth c T locs cells slots) (hx : p.tables.exec = Jvm.exec) (hlk : meth.locks = false) (hret : meth.sig.returnType = none) {pc : Nat} {Ls : Array Slot} (hd : decode c.code pc = .ok (.return_, 1))
    (q : Q none T.heap locs) (hc : cells ≤ C) (hn : slots ≤ N) : Go p e below s Q C N (T.setTop (mkF m pc Ls [])) := by
  obtain ⟨fs, hr, hrun, hended, hW, hsame⟩ := X.leave (v := none) (fun _ => rfl) hlk
  exact ⟨_, _, X.returnOut hx hret hd hr, hrun, hended, _, _, rfl, q, ⟨_, rfl⟩, hW, hsame.mono hc hn⟩
theorem up {k n : Nat} (X : Stand p l e R s m args below meth c T locs cells slots) (hc : cells ≤ k) (hn : slots ≤ n) : Stand p l e R s m args below meth c T locs k n := { X with same := X.same.mono hc hn }
end Own
/-- a fact that the arithmetic leaves alone till it is opened -/
def Hid (P : Prop) : Prop := P
section Num
variable {x y : Int32} {u v : Int64} {a b : Int}
theorem ltI (ha : x.toInt = a) (hb : y.toInt = b) (h : a < b) : x < y := by rw [Int32.lt_iff_toInt_lt, ha, hb]; exact h
theorem nltI (ha : x.toInt = a) (hb : y.toInt = b) (h : ¬ a < b) : ¬ x < y := by rw [Int32.lt_iff_toInt_lt, ha, hb]; exact h
theorem eqI (ha : x.toInt = a) (hb : y.toInt = b) (h : a = b) : x = y := Int32.toInt_inj.mp (by rw [ha, hb]; exact h)
theorem neI (ha : x.toInt = a) (hb : y.toInt = b) (h : ¬ a = b) : ¬ x = y := fun q => h (by rw [← ha, ← hb, q])
theorem ltJ (ha : u.toInt = a) (hb : v.toInt = b) (h : a < b) : u < v := by rw [Int64.lt_iff_toInt_lt, ha, hb]; exact h
theorem nltJ (ha : u.toInt = a) (hb : v.toInt = b) (h : ¬ a < b) : ¬ u < v := by rw [Int64.lt_iff_toInt_lt, ha, hb]; exact h
theorem eqJ (ha : u.toInt = a) (hb : v.toInt = b) (h : a = b) : u = v := Int64.toInt_inj.mp (by rw [ha, hb]; exact h)
theorem neJ (ha : u.toInt = a) (hb : v.toInt = b) (h : ¬ a = b) : ¬ u = v := fun q => h (by rw [← ha, ← hb, q])
theorem bool_nar (h : x.toInt = 0 ∨ x.toInt = 1) : nar .boolean x = x := by
  rcases h with h | h
  · rw [Int32.toInt_inj.mp (h.trans (by decide : (0 : Int) = (0 : Int32).toInt))]; decide
  · rw [Int32.toInt_inj.mp (h.trans (by decide : (1 : Int) = (1 : Int32).toInt))]; decide
end Num
section Words
variable {Z : State} {args : Array Value} {t : Term} {C n d : String} {a : Addr}
theorem fld_int {k : Int32} (ht : t.eval args Z none [] Z = some (.ref a)) (h : (Cond.eq (Term.field t C n d) (Term.int k)).value args Z none Z [] = some true) : Fld Z Z.heap a C n d (.int k) := by
  obtain ⟨u, v, e1, e2, k1, k2⟩ := cmp_v (Or.inl h)
  have e3 : v = .int k := Option.some.inj (e2.symm.trans (Term.int_eval k))
  subst e3
  obtain ⟨w, rfl⟩ : ∃ w, u = .int w := k2
  have q := gotT (Cond.eq_ints e1 (Term.int_eval k)) h
  subst q
  exact Fld.start (by rw [← fld_at (args := args) (first := Z) (o := none) (idx := []) ht]; exact e1)
theorem sta_long {k : Int64} (h : (Cond.eq (Term.static C n d) (Term.long k)).value args Z none Z [] = some true) : (Term.static C n d).eval args Z none [] Z = some (.long k) := by
  obtain ⟨u, v, e1, e2, k1, k2⟩ := cmp_v (Or.inl h)
  have e3 : v = .long k := Option.some.inj (e2.symm.trans rfl)
  subst e3
  obtain ⟨w, rfl⟩ : ∃ w, u = .long w := k2
  have q := gotT (eq_L (y := k) e1 rfl) h
  subst q
  exact e1
theorem sta_int {k : Int32} (h : (Cond.eq (Term.static C n d) (Term.int k)).value args Z none Z [] = some true) : (Term.static C n d).eval args Z none [] Z = some (.int k) := by
  obtain ⟨u, v, e1, e2, k1, k2⟩ := cmp_v (Or.inl h)
  have e3 : v = .int k := Option.some.inj (e2.symm.trans rfl)
  subst e3
  obtain ⟨w, rfl⟩ : ∃ w, u = .int w := k2
  have q := gotT (Cond.eq_ints e1 (Term.int_eval k)) h
  subst q
  exact e1
/-- a cell that is no class's statics -/
def Exi (h : Heap) (x : Addr) : Prop := ∃ c : Cell, h[x]? = some c ∧ c.vm.isStatics = false
theorem exi_exa {h : Heap} (F : Exa Z h a C) : Exi h a := by obtain ⟨c, k, h1, -, -, h4, -⟩ := F; exact ⟨c, h1, h4⟩
theorem sta_keep {h h' : Heap} {v : Value} {ws : List Addr} (F : Sta Z h C n d v) (K : Keep h h' ws) (q : ∀ x ∈ ws, Exi h x) : Sta Z h' C n d v := by
  obtain ⟨cf, i, k, f, st, cell, h1, h2, h3, h4, h5, h6, h7⟩ := F
  refine ⟨cf, i, k, f, st, cell, h1, h2, h3, h4, K.2.1 st cell h5 (fun hm => ?_), h6, h7⟩
  obtain ⟨c, e1, e2⟩ := q st hm
  cases h5.symm.trans e1
  rw [h6] at e2; cases e2
theorem self_sel {s : State} {as as' : Array Value} {y z : MethodName} (hs : (Cond.selects C z z).before as s = true) (hc : z.cls = y.cls) (hp : s.PrivateAt y) (hi : (Cond.instanceMethod y).before as' s = true) (hy : y.cls ≠ "java/lang/invoke/MethodHandle" ∧ y.cls ≠ "java/lang/invoke/VarHandle") : (Cond.selects y.cls y y).before as' s = true := by
  obtain ⟨c, r, m, h1, h2, h3, h4, mk, h5, h6⟩ := Cond.selects_spec hs
  exact selects_self_of_private (hc ▸ findClass_of_methodNamed h3) h5 h6 hp hi hy
end Words
end Jvm.OwnGo
namespace Jvm.OwnGo
open Jvm Jvm.ClassFile Sem Op Lib Jvm.Free Jvm.Stand Jvm.LawKit Jvm.RoadKit
section Vecs
variable {p : Program} {l : Launch} {e : Env} {R : Room} {s : State} {m : MethodId} {args : Array Value} {below : List Frame} {meth : Method} {c : Code} {T : State} {locs : List Loc} {cells slots : Nat} {Z : State} {h h' : Heap} {a b : Addr} {ty : FieldType} {n j x : Int32} {y : Int64} {f : Nat → Value} {v : Value} {sl : Nat} {ws : List Addr}
/-- an array at a, of length n, whose i-th place holds f i -/
def Vec (Z : State) (h : Heap) (a : Addr) (ty : FieldType) (n : Int32) (f : Nat → Value) : Prop := ∃ c : Cell, Arr Z h a c ty ∧ c.slots.size = n.toInt.toNat ∧ 0 ≤ n.toInt ∧ ∀ i : Nat, (i : Int) < n.toInt → c.slots[i]? = some (f i)
def ints (f : Nat → Int32) : Nat → Value := fun i => .int (f i)
def longs (f : Nat → Int64) : Nat → Value := fun i => .long (f i)
def updF {α : Type} (f : Nat → α) (k : Nat) (v : α) : Nat → α := fun i => if i = k then v else f i
theorem upd_same {α : Type} (f : Nat → α) (k : Nat) (v : α) : updF f k v k = v := if_pos rfl
theorem upd_ne {α : Type} (f : Nat → α) {k i : Nat} (v : α) (q : i ≠ k) : updF f k v i = f i := if_neg q
def lst {α : Type} [Inhabited α] (l : List α) : Nat → α := fun i => l.getD i default
theorem upd_lst {α : Type} [Inhabited α] (l : List α) (k : Nat) (v : α) (hk : k < l.length) : updF (lst l) k v = lst (l.set k v) := by
  funext i
  simp only [updF, lst, List.getD_eq_getElem?_getD, List.getElem?_set]
  by_cases q : i = k
  · subst q; simp [hk]
  · simp [q, Ne.symm q]
theorem upd_ints (f : Nat → Int32) (k : Nat) (v : Int32) : updF (ints f) k (.int v) = ints (updF f k v) := by
  funext i; simp only [updF, ints]; split <;> rfl
theorem upd_longs (f : Nat → Int64) (k : Nat) (v : Int64) : updF (longs f) k (.long v) = longs (updF f k v) := by
  funext i; simp only [updF, longs]; split <;> rfl
theorem Vec.lt (F : Vec Z h a ty n f) : a < h.size := by obtain ⟨c, A, -⟩ := F; exact A.lt
theorem Vec.ext (E : Ext h h') (F : Vec Z h a ty n f) : Vec Z h' a ty n f := by obtain ⟨c, A, r⟩ := F; exact ⟨c, A.ext E, r⟩
theorem Vec.other (W : Wr h h' b sl v) (F : Vec Z h a ty n f) (q : a ≠ b) : Vec Z h' a ty n f := by obtain ⟨c, A, r⟩ := F; exact ⟨c, A.other W q, r⟩
theorem Vec.keep (F : Vec Z h a ty n f) (K : Keep h h' ws) (q : a ∉ ws) : Vec Z h' a ty n f := by obtain ⟨c, A, r⟩ := F; exact ⟨c, ⟨K.2.1 a c A.1 q, A.2⟩, r⟩
theorem exi_vec (F : Vec Z h a ty n f) : Exi h a := by obtain ⟨c, A, -⟩ := F; exact ⟨c, A.1, A.plain⟩
theorem nat_cl (j : Int32) : j.toNatClampNeg = j.toInt.toNat := rfl
theorem not_neg (q : 0 ≤ j.toInt) : ¬ j < 0 := by
  have z : (0 : Int32).toInt = 0 := by decide
  rw [Int32.lt_iff_toInt_lt, z]; omega
theorem of_neg (q : ¬ j < 0) : 0 ≤ j.toInt := by
  have z : (0 : Int32).toInt = 0 := by decide
  rw [Int32.lt_iff_toInt_lt, z] at q; omega
theorem inb {k : Nat} (q : k = n.toInt.toNat) (h1 : 0 ≤ j.toInt) (h2 : j.toInt < n.toInt) : ¬ (j < 0 ∨ k ≤ j.toNatClampNeg) := by
  rintro (w | w)
  · exact not_neg h1 w
  · rw [nat_cl, q] at w; omega
theorem Vec.new {k : ClassId} (A : Arr Z h a (newA k ty n) ty) (q : 0 ≤ n.toInt) : Vec Z h a ty n (fun _ => defaultValue ty) := by
  refine ⟨_, A, sz_new _ _ _, q, fun i hi => ?_⟩
  have hi' : i < n.toNatClampNeg := by rw [nat_cl]; omega
  simp [newA, hi']
theorem Vec.of {f' : Nat → Value} (F : Vec Z h a ty n f) (q : ∀ i : Nat, (i : Int) < n.toInt → f i = f' i) : Vec Z h a ty n f' := by
  obtain ⟨c, A, h1, h2, h3⟩ := F
  exact ⟨c, A, h1, h2, fun i hi => by rw [← q i hi]; exact h3 i hi⟩
theorem Vec.of_eq {f' : Nat → Value} (F : Vec Z h a ty n f) (q : f = f') : Vec Z h a ty n f' := q ▸ F
theorem rep_z : ∀ (k i : Nat), (List.replicate k (0 : Int32)).getD i default = 0
  | 0, _ => rfl
  | _ + 1, 0 => rfl
  | k + 1, i + 1 => rep_z k i
theorem rep_zL : ∀ (k i : Nat), (List.replicate k (0 : Int64)).getD i default = 0
  | 0, _ => rfl
  | _ + 1, 0 => rfl
  | k + 1, i + 1 => rep_zL k i
theorem Vec.zerosI (k : Nat) (F : Vec Z h a ty n (fun _ => .int 0)) : Vec Z h a ty n (ints (lst (List.replicate k (0 : Int32)))) := F.of fun i _ => congrArg Value.int (rep_z k i).symm
theorem Vec.zerosJ (k : Nat) (F : Vec Z h a ty n (fun _ => .long 0)) : Vec Z h a ty n (longs (lst (List.replicate k (0 : Int64)))) := F.of fun i _ => congrArg Value.long (rep_zL k i).symm
theorem Vec.set {k : Nat} (F : Vec Z h a ty n f) (W : Wr h h' a k v) : Vec Z h' a ty n (updF f k v) := by
  obtain ⟨c, A, h1, h2, h3⟩ := F
  refine ⟨_, A.same W, by rw [sz_set]; exact h1, h2, fun i hi => ?_⟩
  by_cases q : i = k
  · subst q
    have hi' : i < c.slots.size := by rw [h1]; omega
    simp [Cell.setSlot, updF, hi']
  · rw [upd_ne f v q, ← h3 i hi]
    exact Array.getElem?_setIfInBounds_ne (Ne.symm q)
theorem Vec.len (X : Stand p l e R s m args below meth c T locs cells slots) (hx : p.tables.exec = Jvm.exec) (hZ : Z.Warmed39 s.vm) (eT : T.heap = h) (F : Vec Z h a ty n f) {g : JFrame} (hg : g.method = m) {rest : List Value} (hs : g.stack = .ref a :: rest) (hd : decode c.code g.pc = .ok (.arraylength, 1)) :
    ∀ t, Steps p.tables e below (T.setTop { g with pc := g.pc + 1, stack := .int n :: rest }) t → Steps p.tables e below (T.setTop g) t := by
  obtain ⟨cl, A, h1, h2, h3⟩ := F
  intro t k
  refine X.arraylength hx (by rw [eT]; exact A.1) (State.isArrayOf_alike hZ.alike A.2.1) hg hs hd _ ?_
  rw [len_of h1 (not_neg h2)]
  exact k
theorem Vec.ildI {f : Nat → Int32} (X : Stand p l e R s m args below meth c T locs cells slots) (hx : p.tables.exec = Jvm.exec) (hZ : Z.Warmed39 s.vm) (eT : T.heap = h) (F : Vec Z h a .int n (ints f)) (h1 : 0 ≤ j.toInt) (h2 : j.toInt < n.toInt) {g : JFrame} (hg : g.method = m) {rest : List Value} (hs : g.stack = .int j :: .ref a :: rest) (hd : decode c.code g.pc = .ok (.iaload, 1)) :
    ∀ t, Steps p.tables e below (T.setTop { g with pc := g.pc + 1, stack := .int (f j.toInt.toNat) :: rest }) t → Steps p.tables e below (T.setTop g) t := by
  obtain ⟨cl, A, q1, q2, q3⟩ := F
  exact X.iaload hx (j := j) (v := .int (f j.toInt.toNat)) (by rw [eT]; exact A.1) (State.isArrayOf_alike hZ.alike A.2.1) A.2.2 (inb q1 h1 h2) (q3 j.toInt.toNat (by omega)) hg hs hd
theorem Vec.ildB {f : Nat → Int32} (X : Stand p l e R s m args below meth c T locs cells slots) (hx : p.tables.exec = Jvm.exec) (hZ : Z.Warmed39 s.vm) (eT : T.heap = h) (F : Vec Z h a .byte n (ints f)) (h1 : 0 ≤ j.toInt) (h2 : j.toInt < n.toInt) {g : JFrame} (hg : g.method = m) {rest : List Value} (hs : g.stack = .int j :: .ref a :: rest) (hd : decode c.code g.pc = .ok (.baload, 1)) :
    ∀ t, Steps p.tables e below (T.setTop { g with pc := g.pc + 1, stack := .int (f j.toInt.toNat) :: rest }) t → Steps p.tables e below (T.setTop g) t := by
  obtain ⟨cl, A, q1, q2, q3⟩ := F
  exact X.baloadBytes hx (j := j) (v := .int (f j.toInt.toNat)) (by rw [eT]; exact A.1) (State.isArrayOf_alike hZ.alike A.2.1) A.2.2 (inb q1 h1 h2) (q3 j.toInt.toNat (by omega)) hg hs hd
theorem Vec.ildJ {f : Nat → Int64} (X : Stand p l e R s m args below meth c T locs cells slots) (hx : p.tables.exec = Jvm.exec) (hZ : Z.Warmed39 s.vm) (eT : T.heap = h) (F : Vec Z h a .long n (longs f)) (h1 : 0 ≤ j.toInt) (h2 : j.toInt < n.toInt) {g : JFrame} (hg : g.method = m) {rest : List Value} (hs : g.stack = .int j :: .ref a :: rest) (hd : decode c.code g.pc = .ok (.laload, 1)) :
    ∀ t, Steps p.tables e below (T.setTop { g with pc := g.pc + 1, stack := .long (f j.toInt.toNat) :: rest }) t → Steps p.tables e below (T.setTop g) t := by
  obtain ⟨cl, A, q1, q2, q3⟩ := F
  exact X.laload hx (j := j) (v := .long (f j.toInt.toNat)) (by rw [eT]; exact A.1) (State.isArrayOf_alike hZ.alike A.2.1) A.2.2 (inb q1 h1 h2) (q3 j.toInt.toNat (by omega)) hg hs hd
theorem Vec.istI {f : Nat → Int32} (X : Stand p l e R s m args below meth c T locs cells slots) (hx : p.tables.exec = Jvm.exec) (hZ : Z.Warmed39 s.vm) (eT : T.heap = h) (F : Vec Z h a .int n (ints f)) (h1 : 0 ≤ j.toInt) (h2 : j.toInt < n.toInt) {g : JFrame} (hg : g.method = m) {rest : List Value} (hs : g.stack = .int x :: .int j :: .ref a :: rest) (hd : decode c.code g.pc = .ok (.iastore, 1)) :
    ∃ T' h', Stand p l e R s m args below meth c T' (locs ++ [⟨a, j.toInt.toNat⟩]) cells slots ∧ T'.heap = h' ∧ Wr h h' a j.toInt.toNat (.int x) ∧ Vec Z h' a .int n (ints (updF f j.toInt.toNat x)) ∧ ∀ t, Steps p.tables e below (T'.setTop { g with pc := g.pc + 1, stack := rest }) t → Steps p.tables e below (T.setTop g) t := by
  obtain ⟨cl, A, q1, q2, q3⟩ := id F
  obtain ⟨T', h', X', e', W', st'⟩ := stI X hx hZ eT A (inb q1 h1 h2) hg hs hd
  exact ⟨T', h', X', e', W', upd_ints f _ x ▸ F.set W', st'⟩
theorem Vec.istB {f : Nat → Int32} (X : Stand p l e R s m args below meth c T locs cells slots) (hx : p.tables.exec = Jvm.exec) (hZ : Z.Warmed39 s.vm) (eT : T.heap = h) (F : Vec Z h a .byte n (ints f)) (h1 : 0 ≤ j.toInt) (h2 : j.toInt < n.toInt) {g : JFrame} (hg : g.method = m) {rest : List Value} (hs : g.stack = .int x :: .int j :: .ref a :: rest) (hd : decode c.code g.pc = .ok (.bastore, 1)) :
    ∃ T' h', Stand p l e R s m args below meth c T' (locs ++ [⟨a, j.toInt.toNat⟩]) cells slots ∧ T'.heap = h' ∧ Wr h h' a j.toInt.toNat (.int x.toInt8.toInt32) ∧ Vec Z h' a .byte n (ints (updF f j.toInt.toNat x.toInt8.toInt32)) ∧ ∀ t, Steps p.tables e below (T'.setTop { g with pc := g.pc + 1, stack := rest }) t → Steps p.tables e below (T.setTop g) t := by
  obtain ⟨cl, A, q1, q2, q3⟩ := id F
  obtain ⟨T', h', X', e', W', st'⟩ := stB X hx hZ eT A (inb q1 h1 h2) hg hs hd
  exact ⟨T', h', X', e', W', upd_ints f _ x.toInt8.toInt32 ▸ F.set W', st'⟩
theorem Vec.istJ {f : Nat → Int64} (X : Stand p l e R s m args below meth c T locs cells slots) (hx : p.tables.exec = Jvm.exec) (hZ : Z.Warmed39 s.vm) (eT : T.heap = h) (F : Vec Z h a .long n (longs f)) (h1 : 0 ≤ j.toInt) (h2 : j.toInt < n.toInt) {g : JFrame} (hg : g.method = m) {rest : List Value} (hs : g.stack = .long y :: .int j :: .ref a :: rest) (hd : decode c.code g.pc = .ok (.lastore, 1)) :
    ∃ T' h', Stand p l e R s m args below meth c T' (locs ++ [⟨a, j.toInt.toNat⟩]) cells slots ∧ T'.heap = h' ∧ Wr h h' a j.toInt.toNat (.long y) ∧ Vec Z h' a .long n (longs (updF f j.toInt.toNat y)) ∧ ∀ t, Steps p.tables e below (T'.setTop { g with pc := g.pc + 1, stack := rest }) t → Steps p.tables e below (T.setTop g) t := by
  obtain ⟨cl, A, q1, q2, q3⟩ := id F
  obtain ⟨T', h', X', e', W', st'⟩ := stJ X hx hZ eT A (inb q1 h1 h2) hg hs hd
  exact ⟨T', h', X', e', W', upd_longs f _ y ▸ F.set W', st'⟩
end Vecs
end Jvm.OwnGo
namespace Jvm.OwnGo
open Jvm Jvm.ClassFile Sem Op Lib Jvm.Free Jvm.Stand Jvm.LawKit Jvm.RoadKit
section Wide
variable {p : Program} {l : Launch} {e : Env} {R : Room} {s : State} {m : MethodId} {args : Array Value} {below : List Frame} {meth : Method} {c : Code} {T : State} {locs : List Loc} {cells slots : Nat} {Q : Option Value → Heap → List Loc → Prop} {C N k0 : Nat} {vm0 : Vm}
/-- as Go, for a road that may intern a constant -/
def GoW (p : Program) (e : Env) (below : List Frame) (s : State) (Q : Option Value → Heap → List Loc → Prop) (C N : Nat) (A : State) : Prop :=
  ∃ s₂ o, Steps p.tables e below A s₂ ∧ s₂.status = .running ∧ Ended s₂ below o ∧ ∃ v L, o = .returned v ∧ Q v s₂.heap L ∧ ReturnedEndW s o s₂ L C N
theorem GoW.st {A B : State} (h : ∀ t, Steps p.tables e below B t → Steps p.tables e below A t) (k : GoW p e below s Q C N B) : GoW p e below s Q C N A := by
  obtain ⟨s₂, o, h1, r⟩ := k
  exact ⟨s₂, o, h _ h1, r⟩
theorem GoW.tr {A B : State} (h : Steps p.tables e below A B) (k : GoW p e below s Q C N B) : GoW p e below s Q C N A := k.st fun _ q => h.trans q
theorem GoW.retN (hS : s.Since vm0 k0) (X : Stand p l e R (s.setVm vm0) m args below meth c T locs cells slots) (hk : k0 ≤ T.heap.size) (hx : p.tables.exec = Jvm.exec) (hlk : meth.locks = false) {t : FieldType} (ht : t = .boolean ∨ t = .byte ∨ t = .char ∨ t = .short) (hret : meth.sig.returnType = some t) {pc : Nat} {Ls : Array Slot} {z z' : Int32} {rest : List Value} (hd : decode c.code pc = .ok (.ireturn, 1))
    (hz : nar t z = z') (q : Q (some (.int z')) T.heap locs) (hc : cells ≤ C) (hn : slots ≤ N) : GoW p e below s Q C N (T.setTop (mkF m pc Ls (.int z :: rest))) := by
  subst hz
  obtain ⟨fs, hr, hrun, hended, w1, w2, w3, w4⟩ := X.leaveW hS hk (v := some (.int (nar t z))) (fun h => by rw [hret] at h; cases h) hlk
  exact ⟨_, _, Jvm.RoadKit.retN X hx hret ht hd hr, hrun, hended, _, _, rfl, q, w1, w2, w3, w4.mono hc hn⟩
theorem since0 (s : State) : s.Since s.vm 0 := (State.WarmedH.refl s).since 0
end Wide
section StrStart
variable {Z : State} {args : Array Value} {t : Term} {a : Addr} {h : Heap} {n : Int32}
theorem eq_int_ev {k : Int32} (h : (Cond.eq t (.int k)).value args Z none Z [] = some true) : t.eval args Z none [] Z = some (.int k) := by
  obtain ⟨u, v, e1, e2, k1, k2⟩ := cmp_v (Or.inl h)
  have e3 : v = .int k := Option.some.inj (e2.symm.trans (Term.int_eval k))
  subst e3
  obtain ⟨w, rfl⟩ : ∃ w, u = .int w := k2
  have q := gotT (Cond.eq_ints e1 (Term.int_eval k)) h
  subst q
  exact e1
theorem not_eq_ev {k z : Int32} (e : t.eval args Z none [] Z = some (.int z)) (h : (Cond.not (Cond.eq t (.int k))).value args Z none Z [] = some true) : ¬ z = k := fun q => by
  have h1 := not_v h
  rw [Cond.eq_ints e (Term.int_eval k)] at h1
  simp [q] at h1
theorem vec_start (hf : Fit Z) (ev : t.eval args Z none [] Z = some (.ref a)) (ha : (Cond.arrayOf t .byte).value args Z none Z [] = some true) (hl : (Cond.eq (.length t) (.int n)).value args Z none Z [] = some true) (hn : 0 ≤ n.toInt) :
    ∃ F : Nat → Int32, Vec Z Z.heap a .byte n (ints F) ∧ ∀ j k : Int32, (Cond.eq (.elem t (.int j)) (.int k)).value args Z none Z [] = some true → 0 ≤ j.toInt → F j.toInt.toNat = k := by
  obtain ⟨cl, A⟩ := Arr.start ev ha
  have hA := A.fin (Vm.Alike.refl _)
  have hle := eq_int_ev hl
  obtain ⟨a', c', q1, q2, q3⟩ := Term.length_spec hle
  cases ev.symm.trans q1
  cases hA.symm.trans q2
  have h31 : cl.slots.size < 2 ^ 31 := Jvm.Free.SBG.length_lt ev hA hle
  have q4 : n = cl.slots.size.toInt32 := Value.int.inj q3
  have q5 : n.toInt = cl.slots.size := by rw [q4]; exact len_toInt h31
  have hsz : cl.slots.size = n.toInt.toNat := by omega
  have hi : ∀ i : Nat, (i : Int) < n.toInt → ∃ x : Int32, cl.slots[i]? = some (.int x) := fun i hi => by
    have hlt : i < cl.slots.size := by omega
    obtain ⟨v, e1, e2⟩ := elem_fit hf A (j := i.toInt32) (idx_in hlt h31)
    obtain ⟨x, rfl⟩ := fit_I e2 (Or.inr (Or.inr (Or.inl rfl)))
    have q6 : i.toInt32.toNatClampNeg = i := by rw [nat_cl, len_toInt (by omega)]; omega
    exact ⟨x, by rw [q6] at e1; exact e1⟩
  refine ⟨fun i => match cl.slots[i]? with | some (.int x) => x | _ => 0, ⟨cl, A, hsz, hn, fun i h => ?_⟩, fun j k hj h1 => ?_⟩
  · obtain ⟨x, e⟩ := hi i h
    simp only [ints, e]
  · have e := eq_int_ev hj
    rw [elem_f ev (Term.int_eval j) hA (not_neg h1), nat_cl] at e
    simp only [e]
theorem vec_arv {b : Addr} {k : ClassId} {z : Int32} {L : List Int32} {d : Value} (F : Arv Z h b k .byte z (L.map Value.int) d) (hl : z.toInt.toNat = L.length) : Vec Z h b .byte z (ints (lst L)) := by
  obtain ⟨cl, A, -, q2, q3, q4, -⟩ := F
  refine ⟨cl, A, q2, of_neg q3, fun i hi => ?_⟩
  have hz := of_neg q3
  have hlt : i < cl.slots.size := by rw [q2, nat_cl]; omega
  have hL : i < L.length := by omega
  rw [q4 i hlt]
  simp [ints, lst, hL]
theorem vec_ne {v w : Addr} {f g : Nat → Int32} {k : Int32} (V1 : Vec Z h v .byte n (ints f)) (V2 : Vec Z h w .byte k (ints g)) (h1 : 0 < n.toInt) (h2 : 0 < k.toInt) (q : (f 0).toInt ≠ (g 0).toInt) : v ≠ w := by
  rintro rfl
  obtain ⟨c1, A1, -, -, r1⟩ := V1
  obtain ⟨c2, A2, -, -, r2⟩ := V2
  cases A1.1.symm.trans A2.1
  have e := (r1 0 (by omega)).symm.trans (r2 0 (by omega))
  exact q (congrArg Int32.toInt (Value.int.inj (Option.some.inj e)))
theorem str_ne {x y v w : Addr} {f g : Nat → Int32} {k : Int32} (F1 : Fld Z h x "java/lang/String" "value" "[B" (.ref v)) (F2 : Fld Z h y "java/lang/String" "value" "[B" (.ref w)) (V1 : Vec Z h v .byte n (ints f)) (V2 : Vec Z h w .byte k (ints g)) (h1 : 0 < n.toInt) (h2 : 0 < k.toInt) (q : (f 0).toInt ≠ (g 0).toInt) : x ≠ y :=
  Fld.ne F1 F2 fun e => vec_ne V1 V2 h1 h2 q (Value.ref.inj e)
end StrStart
section Chars
variable {p : Program} {l : Launch} {e : Env} {R : Room} {s : State} {m : MethodId} {args : Array Value} {below : List Frame} {meth : Method} {c : Code} {T : State} {locs : List Loc} {cells slots : Nat} {Z : State} {h : Heap} {a : Addr} {n j x : Int32}
theorem Vec.ildC {f : Nat → Int32} (X : Stand p l e R s m args below meth c T locs cells slots) (hx : p.tables.exec = Jvm.exec) (hZ : Z.Warmed39 s.vm) (eT : T.heap = h) (F : Vec Z h a .char n (ints f)) (h1 : 0 ≤ j.toInt) (h2 : j.toInt < n.toInt) {g : JFrame} (hg : g.method = m) {rest : List Value} (hs : g.stack = .int j :: .ref a :: rest) (hd : decode c.code g.pc = .ok (.caload, 1)) :
    ∀ t, Steps p.tables e below (T.setTop { g with pc := g.pc + 1, stack := .int (f j.toInt.toNat) :: rest }) t → Steps p.tables e below (T.setTop g) t := by
  obtain ⟨cl, A, q1, q2, q3⟩ := F
  exact X.caload hx (j := j) (v := .int (f j.toInt.toNat)) (by rw [eT]; exact A.1) (State.isArrayOf_alike hZ.alike A.2.1) A.2.2 (inb q1 h1 h2) (q3 j.toInt.toNat (by omega)) hg hs hd
theorem Vec.istC {f : Nat → Int32} (X : Stand p l e R s m args below meth c T locs cells slots) (hx : p.tables.exec = Jvm.exec) (hZ : Z.Warmed39 s.vm) (eT : T.heap = h) (F : Vec Z h a .char n (ints f)) (h1 : 0 ≤ j.toInt) (h2 : j.toInt < n.toInt) {g : JFrame} (hg : g.method = m) {rest : List Value} (hs : g.stack = .int x :: .int j :: .ref a :: rest) (hd : decode c.code g.pc = .ok (.castore, 1)) :
    ∃ T' h', Stand p l e R s m args below meth c T' (locs ++ [⟨a, j.toInt.toNat⟩]) cells slots ∧ T'.heap = h' ∧ Wr h h' a j.toInt.toNat (.int (x.toUInt32.toUInt16.toUInt32.toInt32)) ∧ Vec Z h' a .char n (ints (updF f j.toInt.toNat (x.toUInt32.toUInt16.toUInt32.toInt32))) ∧ ∀ t, Steps p.tables e below (T'.setTop { g with pc := g.pc + 1, stack := rest }) t → Steps p.tables e below (T.setTop g) t := by
  obtain ⟨cl, A, q1, q2, q3⟩ := id F
  obtain ⟨T', h', X', e', W', st'⟩ := stC X hx hZ eT A (inb q1 h1 h2) hg hs hd
  exact ⟨T', h', X', e', W', upd_ints f _ (x.toUInt32.toUInt16.toUInt32.toInt32) ▸ F.set W', st'⟩
end Chars
end Jvm.OwnGo
namespace Jvm.Pilot.@@N@@
open Jvm Jvm.ClassFile Sem Op Lib Jvm.Free Jvm.Stand Jvm.LawKit Jvm.RoadKit Bundle Jvm.OwnGo Jvm.Pilot.@@N@@.Jvm.D
theorem pn_0 : plainName "com/example/graf/graf/routes/MatchIsLogoutPinLaw" = true := by first | (simp [plainName, overriddenIn]; done) | decide +kernel
theorem liI_0 : (0 : Int32).toInt = 0 := by decide
theorem d1_0 : decode method_2_code 0 = .ok (.iload_n 0, 1) := by decide +kernel
theorem d1_1 : decode method_2_code 1 = .ok (.ifCond .ne 7, 3) := by decide +kernel
theorem d1_4 : decode method_2_code 4 = .ok (.getstatic 7, 3) := by decide +kernel
theorem d1_7 : decode method_2_code 7 = .ok (.areturn, 1) := by decide +kernel
theorem ef_rmk0 (m : MethodId)  : entryFrame m #[(.int (0 : Int32))] 1 = mkF m 0 #[.val (.int (0 : Int32))] [] := by first | (simp [entryFrame, mkF, argsToLocals, Value.category]; done) | rfl
def Qk0 (Z : State)  (ak : Addr) (h0 : Heap) (n0 : Nat) (vv : Option Value) (h : Heap) (LL : List Loc) : Prop := vv = some (.ref ak) ∧ Fr n0 LL ∧ h = h0
set_option maxRecDepth 65536 in
set_option maxHeartbeats 40000000 in
theorem rmk0 (l : Launch) (Z : State) (a0 : Array Value) (hw : ∀ d ∈ tables_1, d.before a0 Z = true) (ws : List Jvm.Cond)  (ak : Addr) (h0 : Heap) (n0 : Nat) (Z0 : n0 ≤ h0.size) (hS : Sta Z h0 "com/example/graf/graf/routes/RouteKind" "GUARDED" "Lcom/example/graf/graf/routes/RouteKind;" (.ref ak)) :
    MetFree l (⟨"com/example/graf/graf/routes/MatchIsLogoutPinLaw", "kindOf", "(I)Lcom/example/graf/graf/routes/RouteKind;"⟩ : MethodName) (head1 (Jvm.Cond.code (⟨"com/example/graf/graf/routes/MatchIsLogoutPinLaw", "kindOf", "(I)Lcom/example/graf/graf/routes/RouteKind;"⟩ : MethodName) method_2_code 1 (some (.object "com/example/graf/graf/routes/RouteKind")) :: ws) ({ frames := 0, cells := 0, slots := 0, locals := 0 } : Room)) (fun aa UU => aa = #[(.int (0 : Int32))] ∧ Z.Warmed39 UU.vm ∧ UU.heap = h0) (fun _ _ _ _ _ => True) (fun _ UU oo UU' => ∃ vv LL, oo = .returned vv ∧ Qk0 Z ak h0 n0 vv UU'.heap LL ∧ FrameEnd UU oo UU' LL 0 0) := by
  refine MetFree.of_bodySF (plainFor_of_name pn_0) hisR ?_
  intro p e s m args below meth c s₁ Bd hml0 hP hK
  obtain ⟨rfl, hZ, hh⟩ := hP
  have hx := Bd.exec
  have hby := Bd.bytes
  have hlk : meth.locks = false := BodyLoose.notSynchronized Bd
  have hml : c.maxLocals = 1 := hml0
  have hown : s.vm.findClass "com/example/graf/graf/routes/MatchIsLogoutPinLaw" = some m.cls := findClass_of_methodNamed Bd.named
  have hnm := (name_of_methodNamed Bd.named Bd.method).1
  have X0 : Stand p l e ({ frames := 0, cells := 0, slots := 0, locals := 0 } : Room) s m #[(.int (0 : Int32))] below meth c s₁ [] 0 0 := Stand.of_body Bd
  have e0 : s₁.heap = h0 := by rw [← hh, Bd.state]; rfl
  have N0 := Fr.nil n0
  have K0 : Keep h0 h0 [] := Keep.refl h0 _
  refine (?_ : Go p e below s (Qk0 Z ak h0 n0) 0 0 (s₁.setTop (entryFrame m #[(.int (0 : Int32))] 1)))
  rw [ef_rmk0]
  generalize hQ : Qk0 Z ak h0 n0 = Q
  show Go p e below s Q 0 0 (s₁.setTop (mkF m 0 #[.val (.int (0 : Int32))] []))
  have f1 := liI_0
  refine Go.st (fun _ k => XS.iloadN X0.here hx rfl (hb hby d1_0) rfl k) ?_
  refine Go.st (fun _ k => XS.ifNo X0.here hx rfl (hb hby d1_1) rfl ((if0 _ _).trans (teq (eqI liI_0 liI_0 (by decide))).2) k) ?_
  obtain ⟨T2, X2, e2, st2⟩ := getS2 X0 hx hZ hown (host := "") (Or.inl (hw _ (List.mem_of_getElem? (i := 4) rfl))) Via.refl e0 hS (g := (mkF m 4 #[.val (.int (0 : Int32))] [])) rfl (hb hby d1_4)
  refine Go.st st2 ?_
  show Go p e below s Q 0 0 (T2.setTop (mkF m 7 #[.val (.int (0 : Int32))] [(.ref ak)]))
  exact Go.retA X2 hx hlk rfl Bd.returns rfl (hb hby d1_7) (by rw [← hQ, e2]; exact ⟨rfl, N0, rfl⟩) (by decide) (by decide)
theorem liI_1 : (1 : Int32).toInt = 1 := by decide
theorem d1_8 : decode method_2_code 8 = .ok (.iload_n 0, 1) := by decide +kernel
theorem d1_9 : decode method_2_code 9 = .ok (.iconst 1, 1) := by decide +kernel
theorem d1_10 : decode method_2_code 10 = .ok (.if_icmp .ne 7, 3) := by decide +kernel
theorem d1_13 : decode method_2_code 13 = .ok (.getstatic 13, 3) := by decide +kernel
theorem d1_16 : decode method_2_code 16 = .ok (.areturn, 1) := by decide +kernel
theorem ef_rmk1 (m : MethodId)  : entryFrame m #[(.int (1 : Int32))] 1 = mkF m 0 #[.val (.int (1 : Int32))] [] := by first | (simp [entryFrame, mkF, argsToLocals, Value.category]; done) | rfl
def Qk1 (Z : State)  (ak : Addr) (h0 : Heap) (n0 : Nat) (vv : Option Value) (h : Heap) (LL : List Loc) : Prop := vv = some (.ref ak) ∧ Fr n0 LL ∧ h = h0
set_option maxRecDepth 65536 in
set_option maxHeartbeats 40000000 in
theorem rmk1 (l : Launch) (Z : State) (a0 : Array Value) (hw : ∀ d ∈ tables_1, d.before a0 Z = true) (ws : List Jvm.Cond)  (ak : Addr) (h0 : Heap) (n0 : Nat) (Z0 : n0 ≤ h0.size) (hS : Sta Z h0 "com/example/graf/graf/routes/RouteKind" "PUBLIC" "Lcom/example/graf/graf/routes/RouteKind;" (.ref ak)) :
    MetFree l (⟨"com/example/graf/graf/routes/MatchIsLogoutPinLaw", "kindOf", "(I)Lcom/example/graf/graf/routes/RouteKind;"⟩ : MethodName) (head1 (Jvm.Cond.code (⟨"com/example/graf/graf/routes/MatchIsLogoutPinLaw", "kindOf", "(I)Lcom/example/graf/graf/routes/RouteKind;"⟩ : MethodName) method_2_code 1 (some (.object "com/example/graf/graf/routes/RouteKind")) :: ws) ({ frames := 0, cells := 0, slots := 0, locals := 0 } : Room)) (fun aa UU => aa = #[(.int (1 : Int32))] ∧ Z.Warmed39 UU.vm ∧ UU.heap = h0) (fun _ _ _ _ _ => True) (fun _ UU oo UU' => ∃ vv LL, oo = .returned vv ∧ Qk1 Z ak h0 n0 vv UU'.heap LL ∧ FrameEnd UU oo UU' LL 0 0) := by
  refine MetFree.of_bodySF (plainFor_of_name pn_0) hisR ?_
  intro p e s m args below meth c s₁ Bd hml0 hP hK
  obtain ⟨rfl, hZ, hh⟩ := hP
  have hx := Bd.exec
  have hby := Bd.bytes
  have hlk : meth.locks = false := BodyLoose.notSynchronized Bd
  have hml : c.maxLocals = 1 := hml0
  have hown : s.vm.findClass "com/example/graf/graf/routes/MatchIsLogoutPinLaw" = some m.cls := findClass_of_methodNamed Bd.named
  have hnm := (name_of_methodNamed Bd.named Bd.method).1
  have X0 : Stand p l e ({ frames := 0, cells := 0, slots := 0, locals := 0 } : Room) s m #[(.int (1 : Int32))] below meth c s₁ [] 0 0 := Stand.of_body Bd
  have e0 : s₁.heap = h0 := by rw [← hh, Bd.state]; rfl
  have N0 := Fr.nil n0
  have K0 : Keep h0 h0 [] := Keep.refl h0 _
  refine (?_ : Go p e below s (Qk1 Z ak h0 n0) 0 0 (s₁.setTop (entryFrame m #[(.int (1 : Int32))] 1)))
  rw [ef_rmk1]
  generalize hQ : Qk1 Z ak h0 n0 = Q
  show Go p e below s Q 0 0 (s₁.setTop (mkF m 0 #[.val (.int (1 : Int32))] []))
  have f1 := liI_1
  refine Go.st (fun _ k => XS.iloadN X0.here hx rfl (hb hby d1_0) rfl k) ?_
  refine Go.st (fun _ k => XS.ifYes X0.here hx rfl (pc0 := 1) (pc' := 8) rfl (hb hby d1_1) rfl ((if0 _ _).trans (feq (neI liI_1 liI_0 (by decide))).2) (by decide) (by decide) k) ?_
  refine Go.st (fun _ k => XS.iloadN X0.here hx rfl (hb hby d1_8) rfl k) ?_
  refine Go.st (fun _ k => XS.iconst X0.here hx rfl (hb hby d1_9) k) ?_
  refine Go.st (fun _ k => XS.icmpNo X0.here hx rfl (hb hby d1_10) rfl (teq (eqI liI_1 liI_1 (by decide))).2 k) ?_
  obtain ⟨T2, X2, e2, st2⟩ := getS2 X0 hx hZ hown (host := "") (Or.inl (hw _ (List.mem_of_getElem? (i := 59) rfl))) Via.refl e0 hS (g := (mkF m 13 #[.val (.int (1 : Int32))] [])) rfl (hb hby d1_13)
  refine Go.st st2 ?_
  show Go p e below s Q 0 0 (T2.setTop (mkF m 16 #[.val (.int (1 : Int32))] [(.ref ak)]))
  exact Go.retA X2 hx hlk rfl Bd.returns rfl (hb hby d1_16) (by rw [← hQ, e2]; exact ⟨rfl, N0, rfl⟩) (by decide) (by decide)
theorem liI_2 : (2 : Int32).toInt = 2 := by decide
theorem d1_17 : decode method_2_code 17 = .ok (.iload_n 0, 1) := by decide +kernel
theorem d1_18 : decode method_2_code 18 = .ok (.iconst 2, 1) := by decide +kernel
theorem d1_19 : decode method_2_code 19 = .ok (.if_icmp .ne 7, 3) := by decide +kernel
theorem d1_22 : decode method_2_code 22 = .ok (.getstatic 16, 3) := by decide +kernel
theorem d1_25 : decode method_2_code 25 = .ok (.areturn, 1) := by decide +kernel
theorem ef_rmk2 (m : MethodId)  : entryFrame m #[(.int (2 : Int32))] 1 = mkF m 0 #[.val (.int (2 : Int32))] [] := by first | (simp [entryFrame, mkF, argsToLocals, Value.category]; done) | rfl
def Qk2 (Z : State)  (ak : Addr) (h0 : Heap) (n0 : Nat) (vv : Option Value) (h : Heap) (LL : List Loc) : Prop := vv = some (.ref ak) ∧ Fr n0 LL ∧ h = h0
set_option maxRecDepth 65536 in
set_option maxHeartbeats 40000000 in
theorem rmk2 (l : Launch) (Z : State) (a0 : Array Value) (hw : ∀ d ∈ tables_1, d.before a0 Z = true) (ws : List Jvm.Cond)  (ak : Addr) (h0 : Heap) (n0 : Nat) (Z0 : n0 ≤ h0.size) (hS : Sta Z h0 "com/example/graf/graf/routes/RouteKind" "LOGOUT" "Lcom/example/graf/graf/routes/RouteKind;" (.ref ak)) :
    MetFree l (⟨"com/example/graf/graf/routes/MatchIsLogoutPinLaw", "kindOf", "(I)Lcom/example/graf/graf/routes/RouteKind;"⟩ : MethodName) (head1 (Jvm.Cond.code (⟨"com/example/graf/graf/routes/MatchIsLogoutPinLaw", "kindOf", "(I)Lcom/example/graf/graf/routes/RouteKind;"⟩ : MethodName) method_2_code 1 (some (.object "com/example/graf/graf/routes/RouteKind")) :: ws) ({ frames := 0, cells := 0, slots := 0, locals := 0 } : Room)) (fun aa UU => aa = #[(.int (2 : Int32))] ∧ Z.Warmed39 UU.vm ∧ UU.heap = h0) (fun _ _ _ _ _ => True) (fun _ UU oo UU' => ∃ vv LL, oo = .returned vv ∧ Qk2 Z ak h0 n0 vv UU'.heap LL ∧ FrameEnd UU oo UU' LL 0 0) := by
  refine MetFree.of_bodySF (plainFor_of_name pn_0) hisR ?_
  intro p e s m args below meth c s₁ Bd hml0 hP hK
  obtain ⟨rfl, hZ, hh⟩ := hP
  have hx := Bd.exec
  have hby := Bd.bytes
  have hlk : meth.locks = false := BodyLoose.notSynchronized Bd
  have hml : c.maxLocals = 1 := hml0
  have hown : s.vm.findClass "com/example/graf/graf/routes/MatchIsLogoutPinLaw" = some m.cls := findClass_of_methodNamed Bd.named
  have hnm := (name_of_methodNamed Bd.named Bd.method).1
  have X0 : Stand p l e ({ frames := 0, cells := 0, slots := 0, locals := 0 } : Room) s m #[(.int (2 : Int32))] below meth c s₁ [] 0 0 := Stand.of_body Bd
  have e0 : s₁.heap = h0 := by rw [← hh, Bd.state]; rfl
  have N0 := Fr.nil n0
  have K0 : Keep h0 h0 [] := Keep.refl h0 _
  refine (?_ : Go p e below s (Qk2 Z ak h0 n0) 0 0 (s₁.setTop (entryFrame m #[(.int (2 : Int32))] 1)))
  rw [ef_rmk2]
  generalize hQ : Qk2 Z ak h0 n0 = Q
  show Go p e below s Q 0 0 (s₁.setTop (mkF m 0 #[.val (.int (2 : Int32))] []))
  have f1 := liI_2
  refine Go.st (fun _ k => XS.iloadN X0.here hx rfl (hb hby d1_0) rfl k) ?_
  refine Go.st (fun _ k => XS.ifYes X0.here hx rfl (pc0 := 1) (pc' := 8) rfl (hb hby d1_1) rfl ((if0 _ _).trans (feq (neI liI_2 liI_0 (by decide))).2) (by decide) (by decide) k) ?_
  refine Go.st (fun _ k => XS.iloadN X0.here hx rfl (hb hby d1_8) rfl k) ?_
  refine Go.st (fun _ k => XS.iconst X0.here hx rfl (hb hby d1_9) k) ?_
  refine Go.st (fun _ k => XS.icmpYes X0.here hx rfl (pc0 := 10) (pc' := 17) rfl (hb hby d1_10) rfl (feq (neI liI_2 liI_1 (by decide))).2 (by decide) (by decide) k) ?_
  refine Go.st (fun _ k => XS.iloadN X0.here hx rfl (hb hby d1_17) rfl k) ?_
  show Go p e below s Q 0 0 (s₁.setTop (mkF m 18 #[.val (.int (2 : Int32))] [(.int (2 : Int32))]))
  refine Go.st (fun _ k => XS.iconst X0.here hx rfl (hb hby d1_18) k) ?_
  refine Go.st (fun _ k => XS.icmpNo X0.here hx rfl (hb hby d1_19) rfl (teq (eqI liI_2 liI_2 (by decide))).2 k) ?_
  obtain ⟨T2, X2, e2, st2⟩ := getS2 X0 hx hZ hown (host := "") (Or.inl (hw _ (List.mem_of_getElem? (i := 58) rfl))) Via.refl e0 hS (g := (mkF m 22 #[.val (.int (2 : Int32))] [])) rfl (hb hby d1_22)
  refine Go.st st2 ?_
  show Go p e below s Q 0 0 (T2.setTop (mkF m 25 #[.val (.int (2 : Int32))] [(.ref ak)]))
  exact Go.retA X2 hx hlk rfl Bd.returns rfl (hb hby d1_25) (by rw [← hQ, e2]; exact ⟨rfl, N0, rfl⟩) (by decide) (by decide)
theorem liI_3 : (3 : Int32).toInt = 3 := by decide
theorem d1_26 : decode method_2_code 26 = .ok (.aconst_null, 1) := by decide +kernel
theorem d1_27 : decode method_2_code 27 = .ok (.areturn, 1) := by decide +kernel
theorem ef_rmk3 (m : MethodId)  : entryFrame m #[(.int (3 : Int32))] 1 = mkF m 0 #[.val (.int (3 : Int32))] [] := by first | (simp [entryFrame, mkF, argsToLocals, Value.category]; done) | rfl
def Qk3 (Z : State)  (h0 : Heap) (n0 : Nat) (vv : Option Value) (h : Heap) (LL : List Loc) : Prop := vv = some .null ∧ Fr n0 LL ∧ h = h0
set_option maxRecDepth 65536 in
set_option maxHeartbeats 40000000 in
theorem rmk3 (l : Launch) (Z : State) (a0 : Array Value) (hw : ∀ d ∈ tables_1, d.before a0 Z = true) (ws : List Jvm.Cond)  (h0 : Heap) (n0 : Nat) (Z0 : n0 ≤ h0.size) :
    MetFree l (⟨"com/example/graf/graf/routes/MatchIsLogoutPinLaw", "kindOf", "(I)Lcom/example/graf/graf/routes/RouteKind;"⟩ : MethodName) (head1 (Jvm.Cond.code (⟨"com/example/graf/graf/routes/MatchIsLogoutPinLaw", "kindOf", "(I)Lcom/example/graf/graf/routes/RouteKind;"⟩ : MethodName) method_2_code 1 (some (.object "com/example/graf/graf/routes/RouteKind")) :: ws) ({ frames := 0, cells := 0, slots := 0, locals := 0 } : Room)) (fun aa UU => aa = #[(.int (3 : Int32))] ∧ Z.Warmed39 UU.vm ∧ UU.heap = h0) (fun _ _ _ _ _ => True) (fun _ UU oo UU' => ∃ vv LL, oo = .returned vv ∧ Qk3 Z  h0 n0 vv UU'.heap LL ∧ FrameEnd UU oo UU' LL 0 0) := by
  refine MetFree.of_bodySF (plainFor_of_name pn_0) hisR ?_
  intro p e s m args below meth c s₁ Bd hml0 hP hK
  obtain ⟨rfl, hZ, hh⟩ := hP
  have hx := Bd.exec
  have hby := Bd.bytes
  have hlk : meth.locks = false := BodyLoose.notSynchronized Bd
  have hml : c.maxLocals = 1 := hml0
  have hown : s.vm.findClass "com/example/graf/graf/routes/MatchIsLogoutPinLaw" = some m.cls := findClass_of_methodNamed Bd.named
  have hnm := (name_of_methodNamed Bd.named Bd.method).1
  have X0 : Stand p l e ({ frames := 0, cells := 0, slots := 0, locals := 0 } : Room) s m #[(.int (3 : Int32))] below meth c s₁ [] 0 0 := Stand.of_body Bd
  have e0 : s₁.heap = h0 := by rw [← hh, Bd.state]; rfl
  have N0 := Fr.nil n0
  have K0 : Keep h0 h0 [] := Keep.refl h0 _
  refine (?_ : Go p e below s (Qk3 Z  h0 n0) 0 0 (s₁.setTop (entryFrame m #[(.int (3 : Int32))] 1)))
  rw [ef_rmk3]
  generalize hQ : Qk3 Z  h0 n0 = Q
  show Go p e below s Q 0 0 (s₁.setTop (mkF m 0 #[.val (.int (3 : Int32))] []))
  have f1 := liI_3
  refine Go.st (fun _ k => XS.iloadN X0.here hx rfl (hb hby d1_0) rfl k) ?_
  refine Go.st (fun _ k => XS.ifYes X0.here hx rfl (pc0 := 1) (pc' := 8) rfl (hb hby d1_1) rfl ((if0 _ _).trans (feq (neI liI_3 liI_0 (by decide))).2) (by decide) (by decide) k) ?_
  refine Go.st (fun _ k => XS.iloadN X0.here hx rfl (hb hby d1_8) rfl k) ?_
  refine Go.st (fun _ k => XS.iconst X0.here hx rfl (hb hby d1_9) k) ?_
  refine Go.st (fun _ k => XS.icmpYes X0.here hx rfl (pc0 := 10) (pc' := 17) rfl (hb hby d1_10) rfl (feq (neI liI_3 liI_1 (by decide))).2 (by decide) (by decide) k) ?_
  refine Go.st (fun _ k => XS.iloadN X0.here hx rfl (hb hby d1_17) rfl k) ?_
  show Go p e below s Q 0 0 (s₁.setTop (mkF m 18 #[.val (.int (3 : Int32))] [(.int (3 : Int32))]))
  refine Go.st (fun _ k => XS.iconst X0.here hx rfl (hb hby d1_18) k) ?_
  refine Go.st (fun _ k => XS.icmpYes X0.here hx rfl (pc0 := 19) (pc' := 26) rfl (hb hby d1_19) rfl (feq (neI liI_3 liI_2 (by decide))).2 (by decide) (by decide) k) ?_
  refine Go.st (fun _ k => XS.aconstNull X0.here hx rfl (hb hby d1_26) k) ?_
  show Go p e below s Q 0 0 (s₁.setTop (mkF m 27 #[.val (.int (3 : Int32))] [.null]))
  exact Go.retA X0 hx hlk rfl Bd.returns rfl (hb hby d1_27) (by rw [← hQ, e0]; exact ⟨rfl, N0, rfl⟩) (by decide) (by decide)
theorem pn_1 : plainName "java/lang/StringUTF16" = true := by first | (simp [plainName, overriddenIn]; done) | decide +kernel
theorem d6_0 : decode jdk_52_method_21_code 0 = .ok (.iconst 0, 1) := by decide +kernel
theorem d6_1 : decode jdk_52_method_21_code 1 = .ok (.istore 5, 2) := by decide +kernel
theorem d6_3 : decode jdk_52_method_21_code 3 = .ok (.iload 5, 2) := by decide +kernel
theorem d6_5 : decode jdk_52_method_21_code 5 = .ok (.iload 4, 2) := by decide +kernel
theorem d6_7 : decode jdk_52_method_21_code 7 = .ok (.if_icmp .ge 37, 3) := by decide +kernel
theorem d6_10 : decode jdk_52_method_21_code 10 = .ok (.aload_n 0, 1) := by decide +kernel
theorem d6_11 : decode jdk_52_method_21_code 11 = .ok (.iload_n 1, 1) := by decide +kernel
theorem d6_12 : decode jdk_52_method_21_code 12 = .ok (.caload, 1) := by decide +kernel
theorem d6_13 : decode jdk_52_method_21_code 13 = .ok (.istore 6, 2) := by decide +kernel
theorem d6_15 : decode jdk_52_method_21_code 15 = .ok (.iload 6, 2) := by decide +kernel
theorem d6_17 : decode jdk_52_method_21_code 17 = .ok (.sipush 255, 3) := by decide +kernel
theorem d6_20 : decode jdk_52_method_21_code 20 = .ok (.if_icmp .le 6, 3) := by decide +kernel
theorem liI_255 : (255 : Int32).toInt = 255 := by decide
theorem d6_26 : decode jdk_52_method_21_code 26 = .ok (.aload_n 2, 1) := by decide +kernel
theorem d6_27 : decode jdk_52_method_21_code 27 = .ok (.iload_n 3, 1) := by decide +kernel
theorem d6_28 : decode jdk_52_method_21_code 28 = .ok (.iload 6, 2) := by decide +kernel
theorem d6_30 : decode jdk_52_method_21_code 30 = .ok (.i2b, 1) := by decide +kernel
theorem d6_31 : decode jdk_52_method_21_code 31 = .ok (.bastore, 1) := by decide +kernel
theorem d6_32 : decode jdk_52_method_21_code 32 = .ok (.iinc 1 1, 3) := by decide +kernel
theorem d6_35 : decode jdk_52_method_21_code 35 = .ok (.iinc 3 1, 3) := by decide +kernel
theorem d6_38 : decode jdk_52_method_21_code 38 = .ok (.iinc 5 1, 3) := by decide +kernel
theorem d6_41 : decode jdk_52_method_21_code 41 = .ok (.goto (-38), 3) := by decide +kernel
theorem d6_44 : decode jdk_52_method_21_code 44 = .ok (.iload 4, 2) := by decide +kernel
theorem d6_46 : decode jdk_52_method_21_code 46 = .ok (.ireturn, 1) := by decide +kernel
theorem ef_rm6 (m : MethodId) (cs : Addr) (bs : Addr) : entryFrame m #[(.ref cs), (.int (0 : Int32)), (.ref bs), (.int (0 : Int32)), (.int (2 : Int32))] 7 = mkF m 0 #[.val (.ref cs), .val (.int (0 : Int32)), .val (.ref bs), .val (.int (0 : Int32)), .val (.int (2 : Int32)), .unset, .unset] [] := by first | (simp [entryFrame, mkF, argsToLocals, Value.category]; done) | rfl
def Q6 (Z : State) (cs : Addr) (bs : Addr) (fc : Nat → Int32) (fb : Nat → Int32) (h0 : Heap) (n0 : Nat) (vv : Option Value) (h : Heap) (LL : List Loc) : Prop := ∃ (gb : Nat → Int32), vv = some (.int (2 : Int32)) ∧ Fr n0 LL ∧ Keep h0 h [bs] ∧ (Vec Z h bs .byte (2 : Int32) (ints gb))
set_option maxRecDepth 65536 in
set_option maxHeartbeats 40000000 in
theorem rm6 (l : Launch) (Z : State) (a0 : Array Value) (hw : ∀ d ∈ tables_1, d.before a0 Z = true) (ws : List Jvm.Cond) (cs : Addr) (bs : Addr) (fc : Nat → Int32) (fb : Nat → Int32) (h0 : Heap) (n0 : Nat) (Z0 : n0 ≤ h0.size) (hC : Vec Z h0 cs .char (2 : Int32) (ints fc)) (rC : ∀ j : Nat, 0 ≤ (fc j).toInt ∧ (fc j).toInt ≤ 255) (hB : Vec Z h0 bs .byte (2 : Int32) (ints fb)) (hne : cs ≠ bs) (hG : n0 ≤ bs) :
    MetFree l (⟨"java/lang/StringUTF16", "compress", "([CI[BII)I"⟩ : MethodName) (head1 (Jvm.Cond.code (⟨"java/lang/StringUTF16", "compress", "([CI[BII)I"⟩ : MethodName) jdk_52_method_21_code 7 (some .int) :: ws) ({ frames := 0, cells := 0, slots := 0, locals := 0 } : Room)) (fun aa UU => aa = #[(.ref cs), (.int (0 : Int32)), (.ref bs), (.int (0 : Int32)), (.int (2 : Int32))] ∧ Z.Warmed39 UU.vm ∧ UU.heap = h0) (fun _ _ _ _ _ => True) (fun _ UU oo UU' => ∃ vv LL, oo = .returned vv ∧ Q6 Z cs bs fc fb h0 n0 vv UU'.heap LL ∧ FrameEnd UU oo UU' LL 0 0) := by
  refine MetFree.of_bodySF (plainFor_of_name pn_1) hisR ?_
  intro p e s m args below meth c s₁ Bd hml0 hP hK
  obtain ⟨rfl, hZ, hh⟩ := hP
  have hx := Bd.exec
  have hby := Bd.bytes
  have hlk : meth.locks = false := BodyLoose.notSynchronized Bd
  have hml : c.maxLocals = 7 := hml0
  have hown : s.vm.findClass "java/lang/StringUTF16" = some m.cls := findClass_of_methodNamed Bd.named
  have hnm := (name_of_methodNamed Bd.named Bd.method).1
  have X0 : Stand p l e ({ frames := 0, cells := 0, slots := 0, locals := 0 } : Room) s m #[(.ref cs), (.int (0 : Int32)), (.ref bs), (.int (0 : Int32)), (.int (2 : Int32))] below meth c s₁ [] 0 0 := Stand.of_body Bd
  have e0 : s₁.heap = h0 := by rw [← hh, Bd.state]; rfl
  have N0 := Fr.nil n0
  have K0 : Keep h0 h0 [bs] := Keep.refl h0 _
  refine (?_ : Go p e below s (Q6 Z cs bs fc fb h0 n0) 0 0 (s₁.setTop (entryFrame m #[(.ref cs), (.int (0 : Int32)), (.ref bs), (.int (0 : Int32)), (.int (2 : Int32))] 7)))
  rw [ef_rm6]
  generalize hQ : Q6 Z cs bs fc fb h0 n0 = Q
  show Go p e below s Q 0 0 (s₁.setTop (mkF m 0 #[.val (.ref cs), .val (.int (0 : Int32)), .val (.ref bs), .val (.int (0 : Int32)), .val (.int (2 : Int32)), .unset, .unset] []))
  have f1 := liI_0
  have f2 := liI_2
  refine Go.st (fun _ k => XS.iconst X0.here hx rfl (hb hby d6_0) k) ?_
  refine Go.st (fun _ k => XS.istore X0.here hx rfl (hb hby d6_1) rfl (l' := #[.val (.ref cs), .val (.int (0 : Int32)), .val (.ref bs), .val (.int (0 : Int32)), .val (.int (2 : Int32)), .val (.int (0 : Int32)), .unset]) rfl k) ?_
  refine Go.st (fun _ k => XS.iload X0.here hx rfl (hb hby d6_3) rfl k) ?_
  refine Go.st (fun _ k => XS.iload X0.here hx rfl (hb hby d6_5) rfl k) ?_
  refine Go.st (fun _ k => XS.icmpNo X0.here hx rfl (hb hby d6_7) rfl (tlt (ltI liI_0 liI_2 (by decide))).2.1 k) ?_
  refine Go.st (fun _ k => XS.aloadN X0.here hx rfl (hb hby d6_10) rfl rfl k) ?_
  show Go p e below s Q 0 0 (s₁.setTop (mkF m 11 #[.val (.ref cs), .val (.int (0 : Int32)), .val (.ref bs), .val (.int (0 : Int32)), .val (.int (2 : Int32)), .val (.int (0 : Int32)), .unset] [(.ref cs)]))
  refine Go.st (fun _ k => XS.iloadN X0.here hx rfl (hb hby d6_11) rfl k) ?_
  refine Go.st (Vec.ildC X0 hx hZ e0 hC (j := (0 : Int32)) (by decide) (by decide) (g := (mkF m 12 #[.val (.ref cs), .val (.int (0 : Int32)), .val (.ref bs), .val (.int (0 : Int32)), .val (.int (2 : Int32)), .val (.int (0 : Int32)), .unset] [(.int (0 : Int32)), (.ref cs)])) rfl rfl (hb hby d6_12)) ?_
  show Go p e below s Q 0 0 (s₁.setTop (mkF m 13 #[.val (.ref cs), .val (.int (0 : Int32)), .val (.ref bs), .val (.int (0 : Int32)), .val (.int (2 : Int32)), .val (.int (0 : Int32)), .unset] [(.int (fc 0))]))
  refine Go.st (fun _ k => XS.istore X0.here hx rfl (hb hby d6_13) rfl (l' := #[.val (.ref cs), .val (.int (0 : Int32)), .val (.ref bs), .val (.int (0 : Int32)), .val (.int (2 : Int32)), .val (.int (0 : Int32)), .val (.int (fc 0))]) rfl k) ?_
  show Go p e below s Q 0 0 (s₁.setTop (mkF m 15 #[.val (.ref cs), .val (.int (0 : Int32)), .val (.ref bs), .val (.int (0 : Int32)), .val (.int (2 : Int32)), .val (.int (0 : Int32)), .val (.int (fc 0))] []))
  have f4 := rng32 (fc 0)
  generalize hv_v5 : (fc 0) = v5 at f4 ⊢
  have rC0' : 0 ≤ v5.toInt ∧ v5.toInt ≤ 255 := by have q := rC 0; rw [hv_v5] at q; exact q
  refine Go.st (fun _ k => XS.iload X0.here hx rfl (hb hby d6_15) rfl k) ?_
  refine Go.st (fun _ k => XS.sipush X0.here hx rfl (hb hby d6_17) k) ?_
  have f6 := liI_255
  have c7 : ¬ (255 < v5.toInt) := by omega
  refine Go.st (fun _ k => XS.icmpYes X0.here hx rfl (pc0 := 20) (pc' := 26) rfl (hb hby d6_20) rfl (flt (nltI liI_255 rfl c7)).2.2.2 (by decide) (by decide) k) ?_
  refine Go.st (fun _ k => XS.aloadN X0.here hx rfl (hb hby d6_26) rfl rfl k) ?_
  refine Go.st (fun _ k => XS.iloadN X0.here hx rfl (hb hby d6_27) rfl k) ?_
  refine Go.st (fun _ k => XS.iload X0.here hx rfl (hb hby d6_28) rfl k) ?_
  show Go p e below s Q 0 0 (s₁.setTop (mkF m 30 #[.val (.ref cs), .val (.int (0 : Int32)), .val (.ref bs), .val (.int (0 : Int32)), .val (.int (2 : Int32)), .val (.int (0 : Int32)), .val (.int v5)] [(.int v5), (.int (0 : Int32)), (.ref bs)]))
  refine Go.st (fun _ k => XS.i2b X0.here hx rfl (hb hby d6_30) rfl k) ?_
  obtain ⟨T8, h8, X8, e8, W8, V8, st8⟩ := Vec.istB X0 hx hZ e0 hB (j := (0 : Int32)) (by decide) (by decide) (g := (mkF m 31 #[.val (.ref cs), .val (.int (0 : Int32)), .val (.ref bs), .val (.int (0 : Int32)), .val (.int (2 : Int32)), .val (.int (0 : Int32)), .val (.int v5)] [(.int (v5.toInt8.toInt32)), (.int (0 : Int32)), (.ref bs)])) rfl rfl (hb hby d6_31)
  have h9 : Vec Z h8 cs .char (2 : Int32) (ints fc) := hC.other W8 hne
  have h10 : Vec Z h8 bs .byte (2 : Int32) (ints (updF fb 0 ((v5.toInt8.toInt32).toInt8.toInt32))) := V8
  have K8 : Keep h0 h8 [bs] := K0.wr W8 (Or.inl (List.mem_of_getElem? (i := 0) rfl))
  have N8 := Fr.snoc X8 N0 hG
  refine Go.st st8 ?_
  show Go p e below s Q 0 0 (T8.setTop (mkF m 32 #[.val (.ref cs), .val (.int (0 : Int32)), .val (.ref bs), .val (.int (0 : Int32)), .val (.int (2 : Int32)), .val (.int (0 : Int32)), .val (.int v5)] []))
  refine Go.st (fun _ k => XS.iinc X8.here hx rfl (hb hby d6_32) rfl (l' := #[.val (.ref cs), .val (.int (1 : Int32)), .val (.ref bs), .val (.int (0 : Int32)), .val (.int (2 : Int32)), .val (.int (0 : Int32)), .val (.int v5)]) rfl k) ?_
  refine Go.st (fun _ k => XS.iinc X8.here hx rfl (hb hby d6_35) rfl (l' := #[.val (.ref cs), .val (.int (1 : Int32)), .val (.ref bs), .val (.int (1 : Int32)), .val (.int (2 : Int32)), .val (.int (0 : Int32)), .val (.int v5)]) rfl k) ?_
  refine Go.st (fun _ k => XS.iinc X8.here hx rfl (hb hby d6_38) rfl (l' := #[.val (.ref cs), .val (.int (1 : Int32)), .val (.ref bs), .val (.int (1 : Int32)), .val (.int (2 : Int32)), .val (.int (1 : Int32)), .val (.int v5)]) rfl k) ?_
  refine Go.st (fun _ k => XS.goto X8.here hx rfl (pc0 := 41) (pc' := 3) rfl (hb hby d6_41) (by decide) (by decide) k) ?_
  refine Go.st (fun _ k => XS.iload X8.here hx rfl (hb hby d6_3) rfl k) ?_
  refine Go.st (fun _ k => XS.iload X8.here hx rfl (hb hby d6_5) rfl k) ?_
  show Go p e below s Q 0 0 (T8.setTop (mkF m 7 #[.val (.ref cs), .val (.int (1 : Int32)), .val (.ref bs), .val (.int (1 : Int32)), .val (.int (2 : Int32)), .val (.int (1 : Int32)), .val (.int v5)] [(.int (2 : Int32)), (.int (1 : Int32))]))
  refine Go.st (fun _ k => XS.icmpNo X8.here hx rfl (hb hby d6_7) rfl (tlt (ltI liI_1 liI_2 (by decide))).2.1 k) ?_
  refine Go.st (fun _ k => XS.aloadN X8.here hx rfl (hb hby d6_10) rfl rfl k) ?_
  refine Go.st (fun _ k => XS.iloadN X8.here hx rfl (hb hby d6_11) rfl k) ?_
  refine Go.st (Vec.ildC X8 hx hZ e8 h9 (j := (1 : Int32)) (by decide) (by decide) (g := (mkF m 12 #[.val (.ref cs), .val (.int (1 : Int32)), .val (.ref bs), .val (.int (1 : Int32)), .val (.int (2 : Int32)), .val (.int (1 : Int32)), .val (.int v5)] [(.int (1 : Int32)), (.ref cs)])) rfl rfl (hb hby d6_12)) ?_
  show Go p e below s Q 0 0 (T8.setTop (mkF m 13 #[.val (.ref cs), .val (.int (1 : Int32)), .val (.ref bs), .val (.int (1 : Int32)), .val (.int (2 : Int32)), .val (.int (1 : Int32)), .val (.int v5)] [(.int (fc 1))]))
  refine Go.st (fun _ k => XS.istore X8.here hx rfl (hb hby d6_13) rfl (l' := #[.val (.ref cs), .val (.int (1 : Int32)), .val (.ref bs), .val (.int (1 : Int32)), .val (.int (2 : Int32)), .val (.int (1 : Int32)), .val (.int (fc 1))]) rfl k) ?_
  show Go p e below s Q 0 0 (T8.setTop (mkF m 15 #[.val (.ref cs), .val (.int (1 : Int32)), .val (.ref bs), .val (.int (1 : Int32)), .val (.int (2 : Int32)), .val (.int (1 : Int32)), .val (.int (fc 1))] []))
  have f12 := rng32 (fc 1)
  generalize hv_v13 : (fc 1) = v13 at f12 ⊢
  have rC1' : 0 ≤ v13.toInt ∧ v13.toInt ≤ 255 := by have q := rC 1; rw [hv_v13] at q; exact q
  refine Go.st (fun _ k => XS.iload X8.here hx rfl (hb hby d6_15) rfl k) ?_
  refine Go.st (fun _ k => XS.sipush X8.here hx rfl (hb hby d6_17) k) ?_
  have c14 : ¬ (255 < v13.toInt) := by omega
  refine Go.st (fun _ k => XS.icmpYes X8.here hx rfl (pc0 := 20) (pc' := 26) rfl (hb hby d6_20) rfl (flt (nltI liI_255 rfl c14)).2.2.2 (by decide) (by decide) k) ?_
  refine Go.st (fun _ k => XS.aloadN X8.here hx rfl (hb hby d6_26) rfl rfl k) ?_
  refine Go.st (fun _ k => XS.iloadN X8.here hx rfl (hb hby d6_27) rfl k) ?_
  refine Go.st (fun _ k => XS.iload X8.here hx rfl (hb hby d6_28) rfl k) ?_
  show Go p e below s Q 0 0 (T8.setTop (mkF m 30 #[.val (.ref cs), .val (.int (1 : Int32)), .val (.ref bs), .val (.int (1 : Int32)), .val (.int (2 : Int32)), .val (.int (1 : Int32)), .val (.int v13)] [(.int v13), (.int (1 : Int32)), (.ref bs)]))
  refine Go.st (fun _ k => XS.i2b X8.here hx rfl (hb hby d6_30) rfl k) ?_
  obtain ⟨T15, h15, X15, e15, W15, V15, st15⟩ := Vec.istB X8 hx hZ e8 h10 (j := (1 : Int32)) (by decide) (by decide) (g := (mkF m 31 #[.val (.ref cs), .val (.int (1 : Int32)), .val (.ref bs), .val (.int (1 : Int32)), .val (.int (2 : Int32)), .val (.int (1 : Int32)), .val (.int v13)] [(.int (v13.toInt8.toInt32)), (.int (1 : Int32)), (.ref bs)])) rfl rfl (hb hby d6_31)
  have h16 : Vec Z h15 cs .char (2 : Int32) (ints fc) := h9.other W15 hne
  have h17 : Vec Z h15 bs .byte (2 : Int32) (ints (updF (updF fb 0 ((v5.toInt8.toInt32).toInt8.toInt32)) 1 ((v13.toInt8.toInt32).toInt8.toInt32))) := V15
  have K15 : Keep h0 h15 [bs] := K8.wr W15 (Or.inl (List.mem_of_getElem? (i := 0) rfl))
  have N15 := Fr.snoc X15 N8 hG
  refine Go.st st15 ?_
  show Go p e below s Q 0 0 (T15.setTop (mkF m 32 #[.val (.ref cs), .val (.int (1 : Int32)), .val (.ref bs), .val (.int (1 : Int32)), .val (.int (2 : Int32)), .val (.int (1 : Int32)), .val (.int v13)] []))
  refine Go.st (fun _ k => XS.iinc X15.here hx rfl (hb hby d6_32) rfl (l' := #[.val (.ref cs), .val (.int (2 : Int32)), .val (.ref bs), .val (.int (1 : Int32)), .val (.int (2 : Int32)), .val (.int (1 : Int32)), .val (.int v13)]) rfl k) ?_
  refine Go.st (fun _ k => XS.iinc X15.here hx rfl (hb hby d6_35) rfl (l' := #[.val (.ref cs), .val (.int (2 : Int32)), .val (.ref bs), .val (.int (2 : Int32)), .val (.int (2 : Int32)), .val (.int (1 : Int32)), .val (.int v13)]) rfl k) ?_
  refine Go.st (fun _ k => XS.iinc X15.here hx rfl (hb hby d6_38) rfl (l' := #[.val (.ref cs), .val (.int (2 : Int32)), .val (.ref bs), .val (.int (2 : Int32)), .val (.int (2 : Int32)), .val (.int (2 : Int32)), .val (.int v13)]) rfl k) ?_
  refine Go.st (fun _ k => XS.goto X15.here hx rfl (pc0 := 41) (pc' := 3) rfl (hb hby d6_41) (by decide) (by decide) k) ?_
  refine Go.st (fun _ k => XS.iload X15.here hx rfl (hb hby d6_3) rfl k) ?_
  refine Go.st (fun _ k => XS.iload X15.here hx rfl (hb hby d6_5) rfl k) ?_
  show Go p e below s Q 0 0 (T15.setTop (mkF m 7 #[.val (.ref cs), .val (.int (2 : Int32)), .val (.ref bs), .val (.int (2 : Int32)), .val (.int (2 : Int32)), .val (.int (2 : Int32)), .val (.int v13)] [(.int (2 : Int32)), (.int (2 : Int32))]))
  refine Go.st (fun _ k => XS.icmpYes X15.here hx rfl (pc0 := 7) (pc' := 44) rfl (hb hby d6_7) rfl (flt (nltI liI_2 liI_2 (by decide))).2.1 (by decide) (by decide) k) ?_
  refine Go.st (fun _ k => XS.iload X15.here hx rfl (hb hby d6_44) rfl k) ?_
  show Go p e below s Q 0 0 (T15.setTop (mkF m 46 #[.val (.ref cs), .val (.int (2 : Int32)), .val (.ref bs), .val (.int (2 : Int32)), .val (.int (2 : Int32)), .val (.int (2 : Int32)), .val (.int v13)] [(.int (2 : Int32))]))
  exact Go.retI X15 hx hlk Bd.returns (hb hby d6_46) (by rw [← hQ, e15]; exact ⟨(updF (updF fb 0 ((v5.toInt8.toInt32).toInt8.toInt32)) 1 ((v13.toInt8.toInt32).toInt8.toInt32)), rfl, N15, K15, h17⟩) (by decide) (by decide)
theorem d5_0 : decode jdk_52_method_16_code 0 = .ok (.iload_n 2, 1) := by decide +kernel
theorem d5_1 : decode jdk_52_method_16_code 1 = .ok (.newarray .byte, 2) := by decide +kernel
theorem d5_3 : decode jdk_52_method_16_code 3 = .ok (.astore_n 3, 1) := by decide +kernel
theorem d5_4 : decode jdk_52_method_16_code 4 = .ok (.aload_n 0, 1) := by decide +kernel
theorem d5_5 : decode jdk_52_method_16_code 5 = .ok (.iload_n 1, 1) := by decide +kernel
theorem d5_6 : decode jdk_52_method_16_code 6 = .ok (.aload_n 3, 1) := by decide +kernel
theorem d5_7 : decode jdk_52_method_16_code 7 = .ok (.iconst 0, 1) := by decide +kernel
theorem d5_8 : decode jdk_52_method_16_code 8 = .ok (.iload_n 2, 1) := by decide +kernel
theorem pd_0 : parseMethodDescriptor "([CI[BII)I" = some ⟨[(.array .char), .int, (.array .byte), .int, .int], some .int⟩ := by decide +kernel
theorem d5_9 : decode jdk_52_method_16_code 9 = .ok (.invokestatic 115, 3) := by decide +kernel
theorem d5_12 : decode jdk_52_method_16_code 12 = .ok (.istore 4, 2) := by decide +kernel
theorem d5_14 : decode jdk_52_method_16_code 14 = .ok (.iload 4, 2) := by decide +kernel
theorem d5_16 : decode jdk_52_method_16_code 16 = .ok (.iload_n 2, 1) := by decide +kernel
theorem d5_17 : decode jdk_52_method_16_code 17 = .ok (.if_icmp .eq 40, 3) := by decide +kernel
theorem d5_57 : decode jdk_52_method_16_code 57 = .ok (.aload_n 3, 1) := by decide +kernel
theorem d5_58 : decode jdk_52_method_16_code 58 = .ok (.areturn, 1) := by decide +kernel
theorem ef_rm5 (m : MethodId) (cs : Addr) : entryFrame m #[(.ref cs), (.int (0 : Int32)), (.int (2 : Int32))] 6 = mkF m 0 #[.val (.ref cs), .val (.int (0 : Int32)), .val (.int (2 : Int32)), .unset, .unset, .unset] [] := by first | (simp [entryFrame, mkF, argsToLocals, Value.category]; done) | rfl
def Q5 (Z : State) (cs : Addr) (fc : Nat → Int32) (h0 : Heap) (n0 : Nat) (vv : Option Value) (h : Heap) (LL : List Loc) : Prop := ∃ (bb : Addr) (gb : Nat → Int32), vv = some (.ref bb) ∧ Fr n0 LL ∧ Keep h0 h [] ∧ (Vec Z h bb .byte (2 : Int32) (ints gb)) ∧ (n0 ≤ bb) ∧ (h0.size ≤ bb)
set_option maxRecDepth 65536 in
set_option maxHeartbeats 40000000 in
theorem rm5 (l : Launch) (Z : State) (a0 : Array Value) (hw : ∀ d ∈ tables_1, d.before a0 Z = true) (ws : List Jvm.Cond) (cs : Addr) (fc : Nat → Int32) (h0 : Heap) (n0 : Nat) (Z0 : n0 ≤ h0.size) (hC : Vec Z h0 cs .char (2 : Int32) (ints fc)) (rC : ∀ j : Nat, 0 ≤ (fc j).toInt ∧ (fc j).toInt ≤ 255) :
    MetFree l (⟨"java/lang/StringUTF16", "compress", "([CII)[B"⟩ : MethodName) (head1 (Jvm.Cond.code (⟨"java/lang/StringUTF16", "compress", "([CII)[B"⟩ : MethodName) jdk_52_method_16_code 6 (some (.array .byte)) :: ws) ({ frames := 1, cells := 1, slots := 2, locals := 18 } : Room)) (fun aa UU => aa = #[(.ref cs), (.int (0 : Int32)), (.int (2 : Int32))] ∧ Z.Warmed39 UU.vm ∧ UU.heap = h0) (fun _ _ _ _ _ => True) (fun _ UU oo UU' => ∃ vv LL, oo = .returned vv ∧ Q5 Z cs fc h0 n0 vv UU'.heap LL ∧ FrameEnd UU oo UU' LL 1 2) := by
  refine MetFree.of_bodySF (plainFor_of_name pn_1) hisR ?_
  intro p e s m args below meth c s₁ Bd hml0 hP hK
  obtain ⟨rfl, hZ, hh⟩ := hP
  have hx := Bd.exec
  have hby := Bd.bytes
  have hlk : meth.locks = false := BodyLoose.notSynchronized Bd
  have hml : c.maxLocals = 6 := hml0
  have hown : s.vm.findClass "java/lang/StringUTF16" = some m.cls := findClass_of_methodNamed Bd.named
  have hnm := (name_of_methodNamed Bd.named Bd.method).1
  have X0 : Stand p l e ({ frames := 1, cells := 1, slots := 2, locals := 18 } : Room) s m #[(.ref cs), (.int (0 : Int32)), (.int (2 : Int32))] below meth c s₁ [] 0 0 := Stand.of_body Bd
  have e0 : s₁.heap = h0 := by rw [← hh, Bd.state]; rfl
  have N0 := Fr.nil n0
  have K0 : Keep h0 h0 [] := Keep.refl h0 _
  refine (?_ : Go p e below s (Q5 Z cs fc h0 n0) 1 2 (s₁.setTop (entryFrame m #[(.ref cs), (.int (0 : Int32)), (.int (2 : Int32))] 6)))
  rw [ef_rm5]
  generalize hQ : Q5 Z cs fc h0 n0 = Q
  show Go p e below s Q 1 2 (s₁.setTop (mkF m 0 #[.val (.ref cs), .val (.int (0 : Int32)), .val (.int (2 : Int32)), .unset, .unset, .unset] []))
  have f1 := liI_0
  have f2 := liI_2
  refine Go.st (fun _ k => XS.iloadN X0.here hx rfl (hb hby d5_0) rfl k) ?_
  have r4 : 0 ≤ (2 : Int32).toInt := by decide
  have r5 : (2 : Int32).toNatClampNeg ≤ 2 := by decide
  obtain ⟨T3, h3, k3, X3, e3, E3, A3, st3⟩ := newP X0 hx hZ (hw _ (List.mem_of_getElem? (i := 26) rfl)) e0 (g := (mkF m 1 #[.val (.ref cs), .val (.int (0 : Int32)), .val (.int (2 : Int32)), .unset, .unset, .unset] [(.int (2 : Int32))])) rfl (hb hby d5_1) rfl (not_neg r4) (cap := 2) r5 (by decide) (by decide) (by decide)
  obtain ⟨b3, g3⟩ : ∃ z, z = h0.size := ⟨_, rfl⟩
  rw [← g3] at A3 st3
  have q6 : cs ≠ b3 := Nat.ne_of_lt (Nat.lt_of_lt_of_le hC.lt (Nat.le_of_eq g3.symm))
  have h7 : Vec Z h3 cs .char (2 : Int32) (ints fc) := hC.ext E3
  have Gb3 : n0 ≤ b3 := Nat.le_trans (Nat.le_trans Z0 K0.1) (Nat.le_of_eq g3.symm)
  have szb3 : h0.size ≤ b3 := Nat.le_trans K0.1 (Nat.le_of_eq g3.symm)
  have K3 : Keep h0 h3 [] := K0.ext E3
  have h8 : Vec Z h3 b3 .byte (2 : Int32) (ints (lst [(0 : Int32), (0 : Int32)])) := Vec.zerosI 2 (Vec.new A3 r4)
  refine Go.st st3 ?_
  show Go p e below s Q 1 2 (T3.setTop (mkF m 3 #[.val (.ref cs), .val (.int (0 : Int32)), .val (.int (2 : Int32)), .unset, .unset, .unset] [(.ref b3)]))
  refine Go.st (fun _ k => XS.astoreN X3.here hx rfl (hb hby d5_3) rfl rfl (l' := #[.val (.ref cs), .val (.int (0 : Int32)), .val (.int (2 : Int32)), .val (.ref b3), .unset, .unset]) rfl k) ?_
  refine Go.st (fun _ k => XS.aloadN X3.here hx rfl (hb hby d5_4) rfl rfl k) ?_
  refine Go.st (fun _ k => XS.iloadN X3.here hx rfl (hb hby d5_5) rfl k) ?_
  refine Go.st (fun _ k => XS.aloadN X3.here hx rfl (hb hby d5_6) rfl rfl k) ?_
  refine Go.st (fun _ k => XS.iconst X3.here hx rfl (hb hby d5_7) k) ?_
  refine Go.st (fun _ k => XS.iloadN X3.here hx rfl (hb hby d5_8) rfl k) ?_
  show Go p e below s Q 1 2 (T3.setTop (mkF m 9 #[.val (.ref cs), .val (.int (0 : Int32)), .val (.int (2 : Int32)), .val (.ref b3), .unset, .unset] [(.int (2 : Int32)), (.int (0 : Int32)), (.ref b3), (.int (0 : Int32)), (.ref cs)]))
  have p10 : ∀ j : Nat, 0 ≤ (fc j).toInt ∧ (fc j).toInt ≤ 255 := by exact rC
  obtain ⟨_, _, ⟨T9, L9, k9, n9⟩, -, X9, ⟨Lc9, hQ9, l9, y9, z9⟩, st9⟩ := Jvm.LawKit.callS X3 hx (y := (⟨"java/lang/StringUTF16", "compress", "([CI[BII)I"⟩ : MethodName)) hown (mvT hZ (hw _ (List.mem_of_getElem? (i := 27) rfl))) (mvT hZ (hw _ (List.mem_of_getElem? (i := 28) rfl))) (mvT hZ (hw _ (List.mem_of_getElem? (i := 24) rfl))) (mvT hZ (hw _ (List.mem_of_getElem? (i := 29) rfl))) (by decide) (backOf (W := 0) (rm6 l Z a0 hw [] cs b3 fc (lst [(0 : Int32), (0 : Int32)]) h3 n0 (Nat.le_trans Z0 K3.1) h7 p10 h8 q6 Gb3) hZ (hw _ (List.mem_of_getElem? (i := 29) rfl)) (hw _ (List.mem_of_getElem? (i := 24) rfl)) (by decide) (by decide)) (g := (mkF m 9 #[.val (.ref cs), .val (.int (0 : Int32)), .val (.int (2 : Int32)), .val (.ref b3), .unset, .unset] [(.int (2 : Int32)), (.int (0 : Int32)), (.ref b3), (.int (0 : Int32)), (.ref cs)])) rfl (by rw [hml]; rfl) (argsL := [(.ref cs), (.int (0 : Int32)), (.ref b3), (.int (0 : Int32)), (.int (2 : Int32))]) (rest := []) (lenOf pd_0 rfl) rfl (by show 2 * 0 + _ ≤ _; exact Nat.le_of_eq rfl) (hb hby d5_9) (fun _ _ => ⟨rfl, e3, (by decide : 1 + 0 ≤ _), (by decide : 2 + 0 ≤ _)⟩)
  dsimp only [Pt.U, Pt.locs, Pt.cells, Pt.slots] at X9 l9 y9 z9 st9 hQ9
  subst l9 y9 z9
  obtain ⟨gb_11, rfl, N9q, K9q, h12⟩ := hQ9
  have N9 := Fr.app N0 N9q
  have h13 : Vec Z T9.heap cs .char (2 : Int32) (ints fc) := h7.keep K9q (ninS q6 nin0)
  have K9 : Keep h0 T9.heap [] := K3.trans K9q (fun x hx => (show ∀ x ∈ ([b3] : List Addr), x ∈ ([] : List Addr) ∨ h0.size ≤ x from (allS (Or.inr szb3) all0)) x hx)
  refine Go.st st9 ?_
  show Go p e below s Q 1 2 (T9.setTop (mkF m 12 #[.val (.ref cs), .val (.int (0 : Int32)), .val (.int (2 : Int32)), .val (.ref b3), .unset, .unset] [(.int (2 : Int32))]))
  refine Go.st (fun _ k => XS.istore X9.here hx rfl (hb hby d5_12) rfl (l' := #[.val (.ref cs), .val (.int (0 : Int32)), .val (.int (2 : Int32)), .val (.ref b3), .val (.int (2 : Int32)), .unset]) rfl k) ?_
  refine Go.st (fun _ k => XS.iload X9.here hx rfl (hb hby d5_14) rfl k) ?_
  refine Go.st (fun _ k => XS.iloadN X9.here hx rfl (hb hby d5_16) rfl k) ?_
  refine Go.st (fun _ k => XS.icmpYes X9.here hx rfl (pc0 := 17) (pc' := 57) rfl (hb hby d5_17) rfl (teq (eqI liI_2 liI_2 (by decide))).1 (by decide) (by decide) k) ?_
  refine Go.st (fun _ k => XS.aloadN X9.here hx rfl (hb hby d5_57) rfl rfl k) ?_
  show Go p e below s Q 1 2 (T9.setTop (mkF m 58 #[.val (.ref cs), .val (.int (0 : Int32)), .val (.int (2 : Int32)), .val (.ref b3), .val (.int (2 : Int32)), .unset] [(.ref b3)]))
  exact Go.retA X9 hx hlk rfl Bd.returns rfl (hb hby d5_58) (by rw [← hQ]; exact ⟨b3, gb_11, rfl, N9, K9, h12, Gb3, (by omega)⟩) (by decide) (by decide)
theorem d7_0 : decode jdk_52_method_15_code 0 = .ok (.iload_n 1, 1) := by decide +kernel
theorem d7_1 : decode jdk_52_method_15_code 1 = .ok (.aload_n 0, 1) := by decide +kernel
theorem d7_2 : decode jdk_52_method_15_code 2 = .ok (.arraylength, 1) := by decide +kernel
theorem d7_3 : decode jdk_52_method_15_code 3 = .ok (.isub, 1) := by decide +kernel
theorem d7_4 : decode jdk_52_method_15_code 4 = .ok (.bipush 31, 2) := by decide +kernel
theorem d7_6 : decode jdk_52_method_15_code 6 = .ok (.iushr, 1) := by decide +kernel
theorem d7_7 : decode jdk_52_method_15_code 7 = .ok (.i2b, 1) := by decide +kernel
theorem d7_8 : decode jdk_52_method_15_code 8 = .ok (.ireturn, 1) := by decide +kernel
theorem ef_rm7 (m : MethodId) (bb : Addr) : entryFrame m #[(.ref bb), (.int (2 : Int32))] 2 = mkF m 0 #[.val (.ref bb), .val (.int (2 : Int32))] [] := by first | (simp [entryFrame, mkF, argsToLocals, Value.category]; done) | rfl
def Q7 (Z : State) (bb : Addr) (gb : Nat → Int32) (h0 : Heap) (n0 : Nat) (vv : Option Value) (h : Heap) (LL : List Loc) : Prop := vv = some (.int (0 : Int32)) ∧ Fr n0 LL ∧ h = h0
set_option maxRecDepth 65536 in
set_option maxHeartbeats 40000000 in
theorem rm7 (l : Launch) (Z : State) (a0 : Array Value) (hw : ∀ d ∈ tables_1, d.before a0 Z = true) (ws : List Jvm.Cond) (bb : Addr) (gb : Nat → Int32) (h0 : Heap) (n0 : Nat) (Z0 : n0 ≤ h0.size) (hB : Vec Z h0 bb .byte (2 : Int32) (ints gb)) :
    MetFree l (⟨"java/lang/StringUTF16", "coderFromArrayLen", "([BI)B"⟩ : MethodName) (head1 (Jvm.Cond.code (⟨"java/lang/StringUTF16", "coderFromArrayLen", "([BI)B"⟩ : MethodName) jdk_52_method_15_code 2 (some .byte) :: ws) ({ frames := 0, cells := 0, slots := 0, locals := 0 } : Room)) (fun aa UU => aa = #[(.ref bb), (.int (2 : Int32))] ∧ Z.Warmed39 UU.vm ∧ UU.heap = h0) (fun _ _ _ _ _ => True) (fun _ UU oo UU' => ∃ vv LL, oo = .returned vv ∧ Q7 Z bb gb h0 n0 vv UU'.heap LL ∧ FrameEnd UU oo UU' LL 0 0) := by
  refine MetFree.of_bodySF (plainFor_of_name pn_1) hisR ?_
  intro p e s m args below meth c s₁ Bd hml0 hP hK
  obtain ⟨rfl, hZ, hh⟩ := hP
  have hx := Bd.exec
  have hby := Bd.bytes
  have hlk : meth.locks = false := BodyLoose.notSynchronized Bd
  have hml : c.maxLocals = 2 := hml0
  have hown : s.vm.findClass "java/lang/StringUTF16" = some m.cls := findClass_of_methodNamed Bd.named
  have hnm := (name_of_methodNamed Bd.named Bd.method).1
  have X0 : Stand p l e ({ frames := 0, cells := 0, slots := 0, locals := 0 } : Room) s m #[(.ref bb), (.int (2 : Int32))] below meth c s₁ [] 0 0 := Stand.of_body Bd
  have e0 : s₁.heap = h0 := by rw [← hh, Bd.state]; rfl
  have N0 := Fr.nil n0
  have K0 : Keep h0 h0 [] := Keep.refl h0 _
  refine (?_ : Go p e below s (Q7 Z bb gb h0 n0) 0 0 (s₁.setTop (entryFrame m #[(.ref bb), (.int (2 : Int32))] 2)))
  rw [ef_rm7]
  generalize hQ : Q7 Z bb gb h0 n0 = Q
  show Go p e below s Q 0 0 (s₁.setTop (mkF m 0 #[.val (.ref bb), .val (.int (2 : Int32))] []))
  have f1 := liI_2
  refine Go.st (fun _ k => XS.iloadN X0.here hx rfl (hb hby d7_0) rfl k) ?_
  refine Go.st (fun _ k => XS.aloadN X0.here hx rfl (hb hby d7_1) rfl rfl k) ?_
  refine Go.st (Vec.len X0 hx hZ e0 hB (g := (mkF m 2 #[.val (.ref bb), .val (.int (2 : Int32))] [(.ref bb), (.int (2 : Int32))])) rfl rfl (hb hby d7_2)) ?_
  show Go p e below s Q 0 0 (s₁.setTop (mkF m 3 #[.val (.ref bb), .val (.int (2 : Int32))] [(.int (2 : Int32)), (.int (2 : Int32))]))
  refine Go.st (fun _ k => XS.isub X0.here hx rfl (hb hby d7_3) rfl k) ?_
  refine Go.st (fun _ k => XS.bipush X0.here hx rfl (hb hby d7_4) k) ?_
  refine Go.st (fun _ k => XS.iushr X0.here hx rfl (hb hby d7_6) rfl k) ?_
  refine Go.st (fun _ k => XS.i2b X0.here hx rfl (hb hby d7_7) rfl k) ?_
  show Go p e below s Q 0 0 (s₁.setTop (mkF m 8 #[.val (.ref bb), .val (.int (2 : Int32))] [(.int (0 : Int32))]))
  have f3 := liI_0
  exact Go.retN X0 hx hlk (by simp) Bd.returns (hb hby d7_8) (z' := (0 : Int32)) (by decide) (by rw [← hQ, e0]; exact ⟨rfl, N0, rfl⟩) (by decide) (by decide)
theorem pn_2 : plainName "java/lang/String" = true := by first | (simp [plainName, overriddenIn]; done) | decide +kernel
theorem d3_0 : decode jdk_42_method_149_code 0 = .ok (.aload_n 0, 1) := by decide +kernel
theorem d3_1 : decode jdk_42_method_149_code 1 = .ok (.invokespecial 1, 3) := by decide +kernel
theorem d3_4 : decode jdk_42_method_149_code 4 = .ok (.iload_n 3, 1) := by decide +kernel
theorem d3_5 : decode jdk_42_method_149_code 5 = .ok (.ifCond .ne 22, 3) := by decide +kernel
theorem d3_27 : decode jdk_42_method_149_code 27 = .ok (.getstatic 38, 3) := by decide +kernel
theorem d3_30 : decode jdk_42_method_149_code 30 = .ok (.ifCond .eq 28, 3) := by decide +kernel
theorem d3_33 : decode jdk_42_method_149_code 33 = .ok (.aload_n 1, 1) := by decide +kernel
theorem d3_34 : decode jdk_42_method_149_code 34 = .ok (.iload_n 2, 1) := by decide +kernel
theorem d3_35 : decode jdk_42_method_149_code 35 = .ok (.iload_n 3, 1) := by decide +kernel
theorem pd_1 : parseMethodDescriptor "([CII)[B" = some ⟨[(.array .char), .int, .int], some (.array .byte)⟩ := by decide +kernel
theorem d3_36 : decode jdk_42_method_149_code 36 = .ok (.invokestatic 177, 3) := by decide +kernel
theorem d3_39 : decode jdk_42_method_149_code 39 = .ok (.astore 5, 2) := by decide +kernel
theorem d3_41 : decode jdk_42_method_149_code 41 = .ok (.aload_n 0, 1) := by decide +kernel
theorem d3_42 : decode jdk_42_method_149_code 42 = .ok (.aload 5, 2) := by decide +kernel
theorem d3_44 : decode jdk_42_method_149_code 44 = .ok (.iload_n 3, 1) := by decide +kernel
theorem pd_2 : parseMethodDescriptor "([BI)B" = some ⟨[(.array .byte), .int], some .byte⟩ := by decide +kernel
theorem d3_45 : decode jdk_42_method_149_code 45 = .ok (.invokestatic 47, 3) := by decide +kernel
theorem d3_48 : decode jdk_42_method_149_code 48 = .ok (.putfield 15, 3) := by decide +kernel
theorem sn_0 {Z : State} {a0 : Array Value} (hw : ∀ d ∈ tables_1, d.before a0 Z = true) : Jvm.RoadKit.slotOf Z "java/lang/String" "value" "[B" ≠ Jvm.RoadKit.slotOf Z "java/lang/String" "coder" "B" := slot_ne (Or.inr (hw _ (List.mem_of_getElem? (i := 36) rfl))) (Or.inr (hw _ (List.mem_of_getElem? (i := 34) rfl))) (by decide) (t := (.array .byte)) (t' := .byte) (by decide) (by decide)
theorem d3_51 : decode jdk_42_method_149_code 51 = .ok (.aload_n 0, 1) := by decide +kernel
theorem d3_52 : decode jdk_42_method_149_code 52 = .ok (.aload 5, 2) := by decide +kernel
theorem d3_54 : decode jdk_42_method_149_code 54 = .ok (.putfield 9, 3) := by decide +kernel
theorem sn_1 {Z : State} {a0 : Array Value} (hw : ∀ d ∈ tables_1, d.before a0 Z = true) : Jvm.RoadKit.slotOf Z "java/lang/String" "coder" "B" ≠ Jvm.RoadKit.slotOf Z "java/lang/String" "value" "[B" := slot_ne (Or.inr (hw _ (List.mem_of_getElem? (i := 34) rfl))) (Or.inr (hw _ (List.mem_of_getElem? (i := 36) rfl))) (by decide) (t := .byte) (t' := (.array .byte)) (by decide) (by decide)
theorem d3_57 : decode jdk_42_method_149_code 57 = .ok (.return_, 1) := by decide +kernel
theorem ef_rm3 (m : MethodId) (so : Addr) (cs : Addr) : entryFrame m #[(.ref so), (.ref cs), (.int (0 : Int32)), (.int (2 : Int32)), .null] 6 = mkF m 0 #[.val (.ref so), .val (.ref cs), .val (.int (0 : Int32)), .val (.int (2 : Int32)), .val .null, .unset] [] := by first | (simp [entryFrame, mkF, argsToLocals, Value.category]; done) | rfl
def Q3 (Z : State) (so : Addr) (cs : Addr) (fc : Nat → Int32) (zc : Int32) (h0 : Heap) (n0 : Nat) (vv : Option Value) (h : Heap) (LL : List Loc) : Prop := vv = none ∧ Fr n0 LL ∧ Keep h0 h [so]
set_option maxRecDepth 65536 in
set_option maxHeartbeats 40000000 in
theorem rm3 (l : Launch) (Z : State) (a0 : Array Value) (hw : ∀ d ∈ tables_1, d.before a0 Z = true) (ws : List Jvm.Cond) (so : Addr) (cs : Addr) (fc : Nat → Int32) (zc : Int32) (h0 : Heap) (n0 : Nat) (Z0 : n0 ≤ h0.size) (F1 : Fld Z h0 so "java/lang/String" "value" "[B" .null) (F2 : Fld Z h0 so "java/lang/String" "coder" "B" (.int (0 : Int32))) (E1 : Exa Z h0 so "java/lang/String") (G1 : n0 ≤ so) (hC : Vec Z h0 cs .char (2 : Int32) (ints fc)) (rC : ∀ j : Nat, 0 ≤ (fc j).toInt ∧ (fc j).toInt ≤ 255) (hne : cs ≠ so) (S_CS : Sta Z h0 "java/lang/String" "COMPACT_STRINGS" "Z" (.int zc)) (P_CS : ¬ zc.toInt = 0) :
    MetFree l (⟨"java/lang/String", "<init>", "([CIILjava/lang/Void;)V"⟩ : MethodName) (head1 (Jvm.Cond.code (⟨"java/lang/String", "<init>", "([CIILjava/lang/Void;)V"⟩ : MethodName) jdk_42_method_149_code 6 none :: ws) ({ frames := 2, cells := 1, slots := 2, locals := 35 } : Room)) (fun aa UU => aa = #[(.ref so), (.ref cs), (.int (0 : Int32)), (.int (2 : Int32)), .null] ∧ Z.Warmed39 UU.vm ∧ UU.heap = h0) (fun _ _ _ _ _ => True) (fun _ UU oo UU' => ∃ vv LL, oo = .returned vv ∧ Q3 Z so cs fc zc h0 n0 vv UU'.heap LL ∧ FrameEnd UU oo UU' LL 1 2) := by
  refine MetFree.of_bodySF (plainFor_of_name pn_2) hisR ?_
  intro p e s m args below meth c s₁ Bd hml0 hP hK
  obtain ⟨rfl, hZ, hh⟩ := hP
  have hx := Bd.exec
  have hby := Bd.bytes
  have hlk : meth.locks = false := BodyLoose.notSynchronized Bd
  have hml : c.maxLocals = 6 := hml0
  have hown : s.vm.findClass "java/lang/String" = some m.cls := findClass_of_methodNamed Bd.named
  have hnm := (name_of_methodNamed Bd.named Bd.method).1
  have X0 : Stand p l e ({ frames := 2, cells := 1, slots := 2, locals := 35 } : Room) s m #[(.ref so), (.ref cs), (.int (0 : Int32)), (.int (2 : Int32)), .null] below meth c s₁ [] 0 0 := Stand.of_body Bd
  have e0 : s₁.heap = h0 := by rw [← hh, Bd.state]; rfl
  have N0 := Fr.nil n0
  have K0 : Keep h0 h0 [so] := Keep.refl h0 _
  refine (?_ : Go p e below s (Q3 Z so cs fc zc h0 n0) 1 2 (s₁.setTop (entryFrame m #[(.ref so), (.ref cs), (.int (0 : Int32)), (.int (2 : Int32)), .null] 6)))
  rw [ef_rm3]
  generalize hQ : Q3 Z so cs fc zc h0 n0 = Q
  show Go p e below s Q 1 2 (s₁.setTop (mkF m 0 #[.val (.ref so), .val (.ref cs), .val (.int (0 : Int32)), .val (.int (2 : Int32)), .val .null, .unset] []))
  have f1 := liI_0
  have f2 := liI_2
  refine Go.st (fun _ k => XS.aloadN X0.here hx rfl (hb hby d3_0) rfl rfl k) ?_
  obtain ⟨T3, X3, e3, st3⟩ := initO X0 hx hZ hown (hw _ (List.mem_of_getElem? (i := 18) rfl)) (hw _ (List.mem_of_getElem? (i := 19) rfl)) (hw _ (List.mem_of_getElem? (i := 20) rfl)) e0 (g := (mkF m 1 #[.val (.ref so), .val (.ref cs), .val (.int (0 : Int32)), .val (.int (2 : Int32)), .val .null, .unset] [(.ref so)])) rfl (by rw [hml]; rfl) rfl (hb hby d3_1) (by decide) (W := 0) (by show 2 * 0 + _ ≤ _; exact Nat.le_of_eq rfl) (by decide)
  refine Go.st st3 ?_
  show Go p e below s Q 1 2 (T3.setTop (mkF m 4 #[.val (.ref so), .val (.ref cs), .val (.int (0 : Int32)), .val (.int (2 : Int32)), .val .null, .unset] []))
  refine Go.st (fun _ k => XS.iloadN X3.here hx rfl (hb hby d3_4) rfl k) ?_
  refine Go.st (fun _ k => XS.ifYes X3.here hx rfl (pc0 := 5) (pc' := 27) rfl (hb hby d3_5) rfl ((if0 _ _).trans (feq (neI liI_2 liI_0 (by decide))).2) (by decide) (by decide) k) ?_
  obtain ⟨T4, X4, e4, st4⟩ := getS2 X3 hx hZ hown (host := "") (Or.inl (hw _ (List.mem_of_getElem? (i := 21) rfl))) Via.refl e3 S_CS (g := (mkF m 27 #[.val (.ref so), .val (.ref cs), .val (.int (0 : Int32)), .val (.int (2 : Int32)), .val .null, .unset] [])) rfl (hb hby d3_27)
  refine Go.st st4 ?_
  show Go p e below s Q 1 2 (T4.setTop (mkF m 30 #[.val (.ref so), .val (.ref cs), .val (.int (0 : Int32)), .val (.int (2 : Int32)), .val .null, .unset] [(.int zc)]))
  have f5 := rng32 zc
  have c6 : ¬ (zc.toInt = 0) := by omega
  refine Go.st (fun _ k => XS.ifNo X4.here hx rfl (hb hby d3_30) rfl ((if0 _ _).trans (feq (neI rfl liI_0 c6)).1) k) ?_
  refine Go.st (fun _ k => XS.aloadN X4.here hx rfl (hb hby d3_33) rfl rfl k) ?_
  refine Go.st (fun _ k => XS.iloadN X4.here hx rfl (hb hby d3_34) rfl k) ?_
  refine Go.st (fun _ k => XS.iloadN X4.here hx rfl (hb hby d3_35) rfl k) ?_
  have p8 : ∀ j : Nat, 0 ≤ (fc j).toInt ∧ (fc j).toInt ≤ 255 := by exact rC
  obtain ⟨_, _, ⟨T7, L7, k7, n7⟩, -, X7, ⟨Lc7, hQ7, l7, y7, z7⟩, st7⟩ := Jvm.LawKit.callS X4 hx (y := (⟨"java/lang/StringUTF16", "compress", "([CII)[B"⟩ : MethodName)) hown (mvT hZ (hw _ (List.mem_of_getElem? (i := 22) rfl))) (mvT hZ (hw _ (List.mem_of_getElem? (i := 23) rfl))) (mvT hZ (hw _ (List.mem_of_getElem? (i := 24) rfl))) (mvT hZ (hw _ (List.mem_of_getElem? (i := 25) rfl))) (by decide) (backOf (W := 0) (rm5 l Z a0 hw [] cs fc h0 n0 (Nat.le_trans Z0 K0.1) hC p8) hZ (hw _ (List.mem_of_getElem? (i := 25) rfl)) (hw _ (List.mem_of_getElem? (i := 24) rfl)) (by decide) (by decide)) (g := (mkF m 36 #[.val (.ref so), .val (.ref cs), .val (.int (0 : Int32)), .val (.int (2 : Int32)), .val .null, .unset] [(.int (2 : Int32)), (.int (0 : Int32)), (.ref cs)])) rfl (by rw [hml]; rfl) (argsL := [(.ref cs), (.int (0 : Int32)), (.int (2 : Int32))]) (rest := []) (lenOf pd_1 rfl) rfl (by show 2 * 0 + _ ≤ _; exact Nat.le_of_eq rfl) (hb hby d3_36) (fun _ _ => ⟨rfl, e4, (by decide : 0 + 1 ≤ _), (by decide : 0 + 2 ≤ _)⟩)
  dsimp only [Pt.U, Pt.locs, Pt.cells, Pt.slots] at X7 l7 y7 z7 st7 hQ7
  subst l7 y7 z7
  obtain ⟨bb_9, gb_10, rfl, N7q, K7q, h11, h12, h13⟩ := hQ7
  have N7 := Fr.app N0 N7q
  have h14 : Fld Z T7.heap so "java/lang/String" "value" "[B" .null := F1.keep K7q nin0
  have h15 : Fld Z T7.heap so "java/lang/String" "coder" "B" (.int (0 : Int32)) := F2.keep K7q nin0
  have h16 : Exa Z T7.heap so "java/lang/String" := E1.keep K7q
  have h17 : Vec Z T7.heap cs .char (2 : Int32) (ints fc) := hC.keep K7q nin0
  have h18 : Sta Z T7.heap "java/lang/String" "COMPACT_STRINGS" "Z" (.int zc) := Jvm.OwnGo.sta_keep S_CS K7q (fun x hx => nomatch hx)
  have K7 : Keep h0 T7.heap [so] := K0.trans K7q (fun x hx => (show ∀ x ∈ ([] : List Addr), x ∈ ([so] : List Addr) ∨ h0.size ≤ x from all0) x hx)
  have q19 : so ≠ bb_9 := Nat.ne_of_lt (Nat.lt_of_lt_of_le F1.lt h13)
  have q20 : cs ≠ bb_9 := Nat.ne_of_lt (Nat.lt_of_lt_of_le hC.lt h13)
  have szbb_9 : h0.size ≤ bb_9 := Nat.le_trans K0.1 h13
  refine Go.st st7 ?_
  show Go p e below s Q 1 2 (T7.setTop (mkF m 39 #[.val (.ref so), .val (.ref cs), .val (.int (0 : Int32)), .val (.int (2 : Int32)), .val .null, .unset] [(.ref bb_9)]))
  refine Go.st (fun _ k => XS.astore X7.here hx rfl (hb hby d3_39) rfl rfl (l' := #[.val (.ref so), .val (.ref cs), .val (.int (0 : Int32)), .val (.int (2 : Int32)), .val .null, .val (.ref bb_9)]) rfl k) ?_
  refine Go.st (fun _ k => XS.aloadN X7.here hx rfl (hb hby d3_41) rfl rfl k) ?_
  refine Go.st (fun _ k => XS.aload X7.here hx rfl (hb hby d3_42) rfl rfl k) ?_
  refine Go.st (fun _ k => XS.iloadN X7.here hx rfl (hb hby d3_44) rfl k) ?_
  obtain ⟨_, _, ⟨T21, L21, k21, n21⟩, -, X21, ⟨Lc21, hQ21, l21, y21, z21⟩, st21⟩ := Jvm.LawKit.callS X7 hx (y := (⟨"java/lang/StringUTF16", "coderFromArrayLen", "([BI)B"⟩ : MethodName)) hown (mvT hZ (hw _ (List.mem_of_getElem? (i := 30) rfl))) (mvT hZ (hw _ (List.mem_of_getElem? (i := 31) rfl))) (mvT hZ (hw _ (List.mem_of_getElem? (i := 24) rfl))) (mvT hZ (hw _ (List.mem_of_getElem? (i := 32) rfl))) (by decide) (backOf (W := 1) (rm7 l Z a0 hw [] bb_9 gb_10 T7.heap n0 (Nat.le_trans Z0 K7.1) h11) hZ (hw _ (List.mem_of_getElem? (i := 32) rfl)) (hw _ (List.mem_of_getElem? (i := 24) rfl)) (by decide) (by decide)) (g := (mkF m 45 #[.val (.ref so), .val (.ref cs), .val (.int (0 : Int32)), .val (.int (2 : Int32)), .val .null, .val (.ref bb_9)] [(.int (2 : Int32)), (.ref bb_9), (.ref so)])) rfl (by rw [hml]; rfl) (argsL := [(.ref bb_9), (.int (2 : Int32))]) (rest := [(.ref so)]) (lenOf pd_2 rfl) rfl (by show 2 * 0 + _ ≤ _; exact Nat.le_of_eq rfl) (hb hby d3_45) (fun _ _ => ⟨rfl, rfl, (by decide : 1 + 0 ≤ _), (by decide : 2 + 0 ≤ _)⟩)
  dsimp only [Pt.U, Pt.locs, Pt.cells, Pt.slots] at X21 l21 y21 z21 st21 hQ21
  subst l21 y21 z21
  obtain ⟨rfl, N21q, e21⟩ := hQ21
  have N21 := Fr.app N7 N21q
  refine Go.st st21 ?_
  show Go p e below s Q 1 2 (T21.setTop (mkF m 48 #[.val (.ref so), .val (.ref cs), .val (.int (0 : Int32)), .val (.int (2 : Int32)), .val .null, .val (.ref bb_9)] [(.int (0 : Int32)), (.ref so)]))
  obtain ⟨T22, h22, X22, e22, W22, st22⟩ := putFN X21 hx hZ hown (hw _ (List.mem_of_getElem? (i := 33) rfl)) Via.refl e21 h15 h16 (Or.inr ⟨(hw _ (List.mem_of_getElem? (i := 34) rfl)), rfl, hnm⟩) (hw _ (List.mem_of_getElem? (i := 9) rfl)) (ty := .byte) (v' := (.int (0 : Int32))) (by decide) (by decide) rfl (g := (mkF m 48 #[.val (.ref so), .val (.ref cs), .val (.int (0 : Int32)), .val (.int (2 : Int32)), .val .null, .val (.ref bb_9)] [(.int (0 : Int32)), (.ref so)])) rfl rfl (hb hby d3_48)
  have h23 : Fld Z h22 so "java/lang/String" "value" "[B" .null := h14.other W22 (Or.inr (sn_0 hw))
  have h24 : Fld Z h22 so "java/lang/String" "coder" "B" (.int (0 : Int32)) := h15.same W22
  have h25 : Exa Z h22 so "java/lang/String" := h16.wr W22
  have h26 : Vec Z h22 cs .char (2 : Int32) (ints fc) := h17.other W22 hne
  have h27 : Sta Z h22 "java/lang/String" "COMPACT_STRINGS" "Z" (.int zc) := h18.wr W22
  have h28 : Vec Z h22 bb_9 .byte (2 : Int32) (ints gb_10) := h11.other W22 (Ne.symm q19)
  have K22 : Keep h0 h22 [so] := K7.wr W22 (Or.inl (List.mem_of_getElem? (i := 0) rfl))
  have N22 := Fr.snoc X22 N21 G1
  refine Go.st st22 ?_
  show Go p e below s Q 1 2 (T22.setTop (mkF m 51 #[.val (.ref so), .val (.ref cs), .val (.int (0 : Int32)), .val (.int (2 : Int32)), .val .null, .val (.ref bb_9)] []))
  refine Go.st (fun _ k => XS.aloadN X22.here hx rfl (hb hby d3_51) rfl rfl k) ?_
  refine Go.st (fun _ k => XS.aload X22.here hx rfl (hb hby d3_52) rfl rfl k) ?_
  obtain ⟨T29, h29, X29, e29, W29, st29⟩ := putF X22 hx hZ hown (host := "") (Or.inl (hw _ (List.mem_of_getElem? (i := 35) rfl))) Via.refl e22 h23 h25 (Or.inr ⟨(hw _ (List.mem_of_getElem? (i := 36) rfl)), rfl, hnm⟩) (hw _ (List.mem_of_getElem? (i := 9) rfl)) (ty := (.array .byte)) (by decide) rfl rfl (g := (mkF m 54 #[.val (.ref so), .val (.ref cs), .val (.int (0 : Int32)), .val (.int (2 : Int32)), .val .null, .val (.ref bb_9)] [(.ref bb_9), (.ref so)])) rfl rfl (hb hby d3_54)
  have h30 : Fld Z h29 so "java/lang/String" "value" "[B" (.ref bb_9) := h23.same W29
  have h31 : Fld Z h29 so "java/lang/String" "coder" "B" (.int (0 : Int32)) := h24.other W29 (Or.inr (sn_1 hw))
  have h32 : Exa Z h29 so "java/lang/String" := h25.wr W29
  have h33 : Vec Z h29 cs .char (2 : Int32) (ints fc) := h26.other W29 hne
  have h34 : Sta Z h29 "java/lang/String" "COMPACT_STRINGS" "Z" (.int zc) := h27.wr W29
  have h35 : Vec Z h29 bb_9 .byte (2 : Int32) (ints gb_10) := h28.other W29 (Ne.symm q19)
  have K29 : Keep h0 h29 [so] := K22.wr W29 (Or.inl (List.mem_of_getElem? (i := 0) rfl))
  have N29 := Fr.snoc X29 N22 G1
  refine Go.st st29 ?_
  show Go p e below s Q 1 2 (T29.setTop (mkF m 57 #[.val (.ref so), .val (.ref cs), .val (.int (0 : Int32)), .val (.int (2 : Int32)), .val .null, .val (.ref bb_9)] []))
  exact Go.retV X29 hx hlk Bd.returns (hb hby d3_57) (by rw [← hQ, e29]; exact ⟨rfl, N29, K29⟩) (by decide) (by decide)
theorem d2_0 : decode jdk_42_method_3_code 0 = .ok (.aload_n 0, 1) := by decide +kernel
theorem d2_1 : decode jdk_42_method_3_code 1 = .ok (.aload_n 1, 1) := by decide +kernel
theorem d2_2 : decode jdk_42_method_3_code 2 = .ok (.iconst 0, 1) := by decide +kernel
theorem d2_3 : decode jdk_42_method_3_code 3 = .ok (.aload_n 1, 1) := by decide +kernel
theorem d2_4 : decode jdk_42_method_3_code 4 = .ok (.arraylength, 1) := by decide +kernel
theorem d2_5 : decode jdk_42_method_3_code 5 = .ok (.aconst_null, 1) := by decide +kernel
theorem pd_3 : parseMethodDescriptor "([CIILjava/lang/Void;)V" = some ⟨[(.array .char), .int, .int, (.object "java/lang/Void")], none⟩ := by decide +kernel
theorem d2_6 : decode jdk_42_method_3_code 6 = .ok (.invokespecial 27, 3) := by decide +kernel
theorem d2_9 : decode jdk_42_method_3_code 9 = .ok (.return_, 1) := by decide +kernel
theorem ef_rm2 (m : MethodId) (so : Addr) (cs : Addr) : entryFrame m #[(.ref so), (.ref cs)] 2 = mkF m 0 #[.val (.ref so), .val (.ref cs)] [] := by first | (simp [entryFrame, mkF, argsToLocals, Value.category]; done) | rfl
def Q2 (Z : State) (so : Addr) (cs : Addr) (fc : Nat → Int32) (zc : Int32) (h0 : Heap) (n0 : Nat) (vv : Option Value) (h : Heap) (LL : List Loc) : Prop := vv = none ∧ Fr n0 LL ∧ Keep h0 h [so]
set_option maxRecDepth 65536 in
set_option maxHeartbeats 40000000 in
theorem rm2 (l : Launch) (Z : State) (a0 : Array Value) (hw : ∀ d ∈ tables_1, d.before a0 Z = true) (ws : List Jvm.Cond) (so : Addr) (cs : Addr) (fc : Nat → Int32) (zc : Int32) (h0 : Heap) (n0 : Nat) (Z0 : n0 ≤ h0.size) (F1 : Fld Z h0 so "java/lang/String" "value" "[B" .null) (F2 : Fld Z h0 so "java/lang/String" "coder" "B" (.int (0 : Int32))) (E1 : Exa Z h0 so "java/lang/String") (G1 : n0 ≤ so) (hC : Vec Z h0 cs .char (2 : Int32) (ints fc)) (rC : ∀ j : Nat, 0 ≤ (fc j).toInt ∧ (fc j).toInt ≤ 255) (hne : cs ≠ so) (S_CS : Sta Z h0 "java/lang/String" "COMPACT_STRINGS" "Z" (.int zc)) (P_CS : ¬ zc.toInt = 0) :
    MetFree l (⟨"java/lang/String", "<init>", "([C)V"⟩ : MethodName) (head1 (Jvm.Cond.code (⟨"java/lang/String", "<init>", "([C)V"⟩ : MethodName) jdk_42_method_3_code 2 none :: ws) ({ frames := 3, cells := 1, slots := 2, locals := 52 } : Room)) (fun aa UU => aa = #[(.ref so), (.ref cs)] ∧ Z.Warmed39 UU.vm ∧ UU.heap = h0) (fun _ _ _ _ _ => True) (fun _ UU oo UU' => ∃ vv LL, oo = .returned vv ∧ Q2 Z so cs fc zc h0 n0 vv UU'.heap LL ∧ FrameEnd UU oo UU' LL 1 2) := by
  refine MetFree.of_bodySF (plainFor_of_name pn_2) hisR ?_
  intro p e s m args below meth c s₁ Bd hml0 hP hK
  obtain ⟨rfl, hZ, hh⟩ := hP
  have hx := Bd.exec
  have hby := Bd.bytes
  have hlk : meth.locks = false := BodyLoose.notSynchronized Bd
  have hml : c.maxLocals = 2 := hml0
  have hown : s.vm.findClass "java/lang/String" = some m.cls := findClass_of_methodNamed Bd.named
  have hnm := (name_of_methodNamed Bd.named Bd.method).1
  have X0 : Stand p l e ({ frames := 3, cells := 1, slots := 2, locals := 52 } : Room) s m #[(.ref so), (.ref cs)] below meth c s₁ [] 0 0 := Stand.of_body Bd
  have e0 : s₁.heap = h0 := by rw [← hh, Bd.state]; rfl
  have N0 := Fr.nil n0
  have K0 : Keep h0 h0 [so] := Keep.refl h0 _
  refine (?_ : Go p e below s (Q2 Z so cs fc zc h0 n0) 1 2 (s₁.setTop (entryFrame m #[(.ref so), (.ref cs)] 2)))
  rw [ef_rm2]
  generalize hQ : Q2 Z so cs fc zc h0 n0 = Q
  show Go p e below s Q 1 2 (s₁.setTop (mkF m 0 #[.val (.ref so), .val (.ref cs)] []))
  refine Go.st (fun _ k => XS.aloadN X0.here hx rfl (hb hby d2_0) rfl rfl k) ?_
  refine Go.st (fun _ k => XS.aloadN X0.here hx rfl (hb hby d2_1) rfl rfl k) ?_
  refine Go.st (fun _ k => XS.iconst X0.here hx rfl (hb hby d2_2) k) ?_
  refine Go.st (fun _ k => XS.aloadN X0.here hx rfl (hb hby d2_3) rfl rfl k) ?_
  refine Go.st (Vec.len X0 hx hZ e0 hC (g := (mkF m 4 #[.val (.ref so), .val (.ref cs)] [(.ref cs), (.int (0 : Int32)), (.ref cs), (.ref so)])) rfl rfl (hb hby d2_4)) ?_
  show Go p e below s Q 1 2 (s₁.setTop (mkF m 5 #[.val (.ref so), .val (.ref cs)] [(.int (2 : Int32)), (.int (0 : Int32)), (.ref cs), (.ref so)]))
  refine Go.st (fun _ k => XS.aconstNull X0.here hx rfl (hb hby d2_5) k) ?_
  have f3 := rng32 zc
  have f4 := liI_0
  have f5 := liI_2
  have p6 : ∀ j : Nat, 0 ≤ (fc j).toInt ∧ (fc j).toInt ≤ 255 := by first | exact rC | omega
  have p7 : ¬ zc.toInt = 0 := by first | exact rC | omega
  obtain ⟨_, _, ⟨T2, L2, k2, n2⟩, -, X2, ⟨Lc2, hQ2, l2, y2, z2⟩, st2⟩ := X0.specialBack hx (y := (⟨"java/lang/String", "<init>", "([CIILjava/lang/Void;)V"⟩ : MethodName)) rfl hown (mvT hZ (hw _ (List.mem_of_getElem? (i := 14) rfl))) (mvT hZ (hw _ (List.mem_of_getElem? (i := 15) rfl))) (mvT hZ (hw _ (List.mem_of_getElem? (i := 17) rfl))) (by decide) (backOf (W := 0) (rm3 l Z a0 hw [] so cs fc zc h0 n0 (Nat.le_trans Z0 K0.1) F1 F2 E1 G1 hC p6 hne S_CS p7) hZ (hw _ (List.mem_of_getElem? (i := 17) rfl)) (hw _ (List.mem_of_getElem? (i := 10) rfl)) (by decide) (by decide)) (g := (mkF m 6 #[.val (.ref so), .val (.ref cs)] [.null, (.int (2 : Int32)), (.int (0 : Int32)), (.ref cs), (.ref so)])) rfl (by rw [hml]; rfl) (Steps.refl _) (a := so) (argsL := [(.ref cs), (.int (0 : Int32)), (.int (2 : Int32)), .null]) (rest := []) (lenOf pd_3 rfl) rfl (by show 2 * 0 + _ ≤ _; exact Nat.le_of_eq rfl) (hb hby d2_6) (fun _ _ => ⟨rfl, e0, (by decide : 0 + 1 ≤ _), (by decide : 0 + 2 ≤ _)⟩)
  dsimp only [Pt.U, Pt.locs, Pt.cells, Pt.slots] at X2 l2 y2 z2 st2 hQ2
  subst l2 y2 z2
  obtain ⟨rfl, N2q, K2q⟩ := hQ2
  have N2 := Fr.app N0 N2q
  have h8 : Exa Z T2.heap so "java/lang/String" := E1.keep K2q
  have h9 : Vec Z T2.heap cs .char (2 : Int32) (ints fc) := hC.keep K2q (ninS hne nin0)
  have h10 : Sta Z T2.heap "java/lang/String" "COMPACT_STRINGS" "Z" (.int zc) := Jvm.OwnGo.sta_keep S_CS K2q (fun x hx => (allS (P := fun x => Exi h0 x) (exi_exa E1) all0) x hx)
  have K2 : Keep h0 T2.heap [so] := K0.trans K2q (fun x hx => (show ∀ x ∈ ([so] : List Addr), x ∈ ([so] : List Addr) ∨ h0.size ≤ x from (allS (Or.inl (List.mem_of_getElem? (i := 0) rfl)) all0)) x hx)
  refine Go.tr  st2 ?_
  show Go p e below s Q 1 2 (T2.setTop (mkF m 9 #[.val (.ref so), .val (.ref cs)] []))
  exact Go.retV X2 hx hlk Bd.returns (hb hby d2_9) (by rw [← hQ]; exact ⟨rfl, N2, K2⟩) (by decide) (by decide)
theorem pn_3 : plainName "com/example/graf/graf/routes/Match" = true := by first | (simp [plainName, overriddenIn]; done) | decide +kernel
theorem d8_0 : decode prog_19_method_1_code 0 = .ok (.aload_n 0, 1) := by decide +kernel
theorem d8_1 : decode prog_19_method_1_code 1 = .ok (.invokespecial 1, 3) := by decide +kernel
theorem d8_4 : decode prog_19_method_1_code 4 = .ok (.aload_n 0, 1) := by decide +kernel
theorem d8_5 : decode prog_19_method_1_code 5 = .ok (.aload_n 1, 1) := by decide +kernel
theorem d8_6 : decode prog_19_method_1_code 6 = .ok (.putfield 7, 3) := by decide +kernel
theorem sn_2 {Z : State} {a0 : Array Value} (hw : ∀ d ∈ tables_1, d.before a0 Z = true) : Jvm.RoadKit.slotOf Z "com/example/graf/graf/routes/Match" "kind" "Lcom/example/graf/graf/routes/RouteKind;" ≠ Jvm.RoadKit.slotOf Z "com/example/graf/graf/routes/Match" "node" "Ljava/lang/String;" := slot_ne (Or.inr (hw _ (List.mem_of_getElem? (i := 47) rfl))) (Or.inr (hw _ (List.mem_of_getElem? (i := 45) rfl))) (by decide) (t := (.object "com/example/graf/graf/routes/RouteKind")) (t' := (.object "java/lang/String")) (by decide) (by decide)
theorem d8_9 : decode prog_19_method_1_code 9 = .ok (.aload_n 0, 1) := by decide +kernel
theorem d8_10 : decode prog_19_method_1_code 10 = .ok (.aload_n 2, 1) := by decide +kernel
theorem d8_11 : decode prog_19_method_1_code 11 = .ok (.putfield 13, 3) := by decide +kernel
theorem sn_3 {Z : State} {a0 : Array Value} (hw : ∀ d ∈ tables_1, d.before a0 Z = true) : Jvm.RoadKit.slotOf Z "com/example/graf/graf/routes/Match" "node" "Ljava/lang/String;" ≠ Jvm.RoadKit.slotOf Z "com/example/graf/graf/routes/Match" "kind" "Lcom/example/graf/graf/routes/RouteKind;" := slot_ne (Or.inr (hw _ (List.mem_of_getElem? (i := 45) rfl))) (Or.inr (hw _ (List.mem_of_getElem? (i := 47) rfl))) (by decide) (t := (.object "java/lang/String")) (t' := (.object "com/example/graf/graf/routes/RouteKind")) (by decide) (by decide)
theorem d8_14 : decode prog_19_method_1_code 14 = .ok (.return_, 1) := by decide +kernel
theorem ef_rmm00 (m : MethodId) (mo : Addr) : entryFrame m #[(.ref mo), .null, .null] 3 = mkF m 0 #[.val (.ref mo), .val .null, .val .null] [] := by first | (simp [entryFrame, mkF, argsToLocals, Value.category]; done) | rfl
def Qm00 (Z : State) (mo : Addr) (h0 : Heap) (n0 : Nat) (vv : Option Value) (h : Heap) (LL : List Loc) : Prop := vv = none ∧ Fr n0 LL ∧ Keep h0 h [mo] ∧ (Fld Z h mo "com/example/graf/graf/routes/Match" "kind" "Lcom/example/graf/graf/routes/RouteKind;" .null) ∧ (Exa Z h mo "com/example/graf/graf/routes/Match")
set_option maxRecDepth 65536 in
set_option maxHeartbeats 40000000 in
theorem rmm00 (l : Launch) (Z : State) (a0 : Array Value) (hw : ∀ d ∈ tables_1, d.before a0 Z = true) (ws : List Jvm.Cond) (mo : Addr) (h0 : Heap) (n0 : Nat) (Z0 : n0 ≤ h0.size) (F1 : Fld Z h0 mo "com/example/graf/graf/routes/Match" "node" "Ljava/lang/String;" .null) (F2 : Fld Z h0 mo "com/example/graf/graf/routes/Match" "kind" "Lcom/example/graf/graf/routes/RouteKind;" .null) (E1 : Exa Z h0 mo "com/example/graf/graf/routes/Match") (G1 : n0 ≤ mo) :
    MetFree l (⟨"com/example/graf/graf/routes/Match", "<init>", "(Ljava/lang/String;Lcom/example/graf/graf/routes/RouteKind;)V"⟩ : MethodName) (head1 (Jvm.Cond.code (⟨"com/example/graf/graf/routes/Match", "<init>", "(Ljava/lang/String;Lcom/example/graf/graf/routes/RouteKind;)V"⟩ : MethodName) prog_19_method_1_code 3 none :: ws) ({ frames := 1, cells := 0, slots := 0, locals := 12 } : Room)) (fun aa UU => aa = #[(.ref mo), .null, .null] ∧ Z.Warmed39 UU.vm ∧ UU.heap = h0) (fun _ _ _ _ _ => True) (fun _ UU oo UU' => ∃ vv LL, oo = .returned vv ∧ Qm00 Z mo h0 n0 vv UU'.heap LL ∧ FrameEnd UU oo UU' LL 0 0) := by
  refine MetFree.of_bodySF (plainFor_of_name pn_3) hisR ?_
  intro p e s m args below meth c s₁ Bd hml0 hP hK
  obtain ⟨rfl, hZ, hh⟩ := hP
  have hx := Bd.exec
  have hby := Bd.bytes
  have hlk : meth.locks = false := BodyLoose.notSynchronized Bd
  have hml : c.maxLocals = 3 := hml0
  have hown : s.vm.findClass "com/example/graf/graf/routes/Match" = some m.cls := findClass_of_methodNamed Bd.named
  have hnm := (name_of_methodNamed Bd.named Bd.method).1
  have X0 : Stand p l e ({ frames := 1, cells := 0, slots := 0, locals := 12 } : Room) s m #[(.ref mo), .null, .null] below meth c s₁ [] 0 0 := Stand.of_body Bd
  have e0 : s₁.heap = h0 := by rw [← hh, Bd.state]; rfl
  have N0 := Fr.nil n0
  have K0 : Keep h0 h0 [mo] := Keep.refl h0 _
  refine (?_ : Go p e below s (Qm00 Z mo h0 n0) 0 0 (s₁.setTop (entryFrame m #[(.ref mo), .null, .null] 3)))
  rw [ef_rmm00]
  generalize hQ : Qm00 Z mo h0 n0 = Q
  show Go p e below s Q 0 0 (s₁.setTop (mkF m 0 #[.val (.ref mo), .val .null, .val .null] []))
  refine Go.st (fun _ k => XS.aloadN X0.here hx rfl (hb hby d8_0) rfl rfl k) ?_
  obtain ⟨T1, X1, e1, st1⟩ := initO X0 hx hZ hown (hw _ (List.mem_of_getElem? (i := 43) rfl)) (hw _ (List.mem_of_getElem? (i := 19) rfl)) (hw _ (List.mem_of_getElem? (i := 20) rfl)) e0 (g := (mkF m 1 #[.val (.ref mo), .val .null, .val .null] [(.ref mo)])) rfl (by rw [hml]; rfl) rfl (hb hby d8_1) (by decide) (W := 0) (by show 2 * 0 + _ ≤ _; exact Nat.le_of_eq rfl) (by decide)
  refine Go.st st1 ?_
  show Go p e below s Q 0 0 (T1.setTop (mkF m 4 #[.val (.ref mo), .val .null, .val .null] []))
  refine Go.st (fun _ k => XS.aloadN X1.here hx rfl (hb hby d8_4) rfl rfl k) ?_
  refine Go.st (fun _ k => XS.aloadN X1.here hx rfl (hb hby d8_5) rfl rfl k) ?_
  obtain ⟨T2, h2, X2, e2, W2, st2⟩ := putF X1 hx hZ hown (host := "") (Or.inl (hw _ (List.mem_of_getElem? (i := 44) rfl))) Via.refl e1 F1 E1 (Or.inr ⟨(hw _ (List.mem_of_getElem? (i := 45) rfl)), rfl, hnm⟩) (hw _ (List.mem_of_getElem? (i := 38) rfl)) (ty := (.object "java/lang/String")) (by decide) rfl rfl (g := (mkF m 6 #[.val (.ref mo), .val .null, .val .null] [.null, (.ref mo)])) rfl rfl (hb hby d8_6)
  have h3 : Fld Z h2 mo "com/example/graf/graf/routes/Match" "node" "Ljava/lang/String;" .null := F1.same W2
  have h4 : Fld Z h2 mo "com/example/graf/graf/routes/Match" "kind" "Lcom/example/graf/graf/routes/RouteKind;" .null := F2.other W2 (Or.inr (sn_2 hw))
  have h5 : Exa Z h2 mo "com/example/graf/graf/routes/Match" := E1.wr W2
  have K2 : Keep h0 h2 [mo] := K0.wr W2 (Or.inl (List.mem_of_getElem? (i := 0) rfl))
  have N2 := Fr.snoc X2 N0 G1
  refine Go.st st2 ?_
  show Go p e below s Q 0 0 (T2.setTop (mkF m 9 #[.val (.ref mo), .val .null, .val .null] []))
  refine Go.st (fun _ k => XS.aloadN X2.here hx rfl (hb hby d8_9) rfl rfl k) ?_
  refine Go.st (fun _ k => XS.aloadN X2.here hx rfl (hb hby d8_10) rfl rfl k) ?_
  obtain ⟨T6, h6, X6, e6, W6, st6⟩ := putF X2 hx hZ hown (host := "") (Or.inl (hw _ (List.mem_of_getElem? (i := 46) rfl))) Via.refl e2 h4 h5 (Or.inr ⟨(hw _ (List.mem_of_getElem? (i := 47) rfl)), rfl, hnm⟩) (hw _ (List.mem_of_getElem? (i := 38) rfl)) (ty := (.object "com/example/graf/graf/routes/RouteKind")) (by decide) rfl rfl (g := (mkF m 11 #[.val (.ref mo), .val .null, .val .null] [.null, (.ref mo)])) rfl rfl (hb hby d8_11)
  have h7 : Fld Z h6 mo "com/example/graf/graf/routes/Match" "node" "Ljava/lang/String;" .null := h3.other W6 (Or.inr (sn_3 hw))
  have h8 : Fld Z h6 mo "com/example/graf/graf/routes/Match" "kind" "Lcom/example/graf/graf/routes/RouteKind;" .null := h4.same W6
  have h9 : Exa Z h6 mo "com/example/graf/graf/routes/Match" := h5.wr W6
  have K6 : Keep h0 h6 [mo] := K2.wr W6 (Or.inl (List.mem_of_getElem? (i := 0) rfl))
  have N6 := Fr.snoc X6 N2 G1
  refine Go.st st6 ?_
  show Go p e below s Q 0 0 (T6.setTop (mkF m 14 #[.val (.ref mo), .val .null, .val .null] []))
  exact Go.retV X6 hx hlk Bd.returns (hb hby d8_14) (by rw [← hQ, e6]; exact ⟨rfl, N6, K6, h8, h9⟩) (by decide) (by decide)
theorem ef_rmm01 (m : MethodId) (mo : Addr) (kd : Addr) : entryFrame m #[(.ref mo), .null, (.ref kd)] 3 = mkF m 0 #[.val (.ref mo), .val .null, .val (.ref kd)] [] := by first | (simp [entryFrame, mkF, argsToLocals, Value.category]; done) | rfl
def Qm01 (Z : State) (mo : Addr) (kd : Addr) (h0 : Heap) (n0 : Nat) (vv : Option Value) (h : Heap) (LL : List Loc) : Prop := vv = none ∧ Fr n0 LL ∧ Keep h0 h [mo] ∧ (Fld Z h mo "com/example/graf/graf/routes/Match" "kind" "Lcom/example/graf/graf/routes/RouteKind;" (.ref kd)) ∧ (Exa Z h mo "com/example/graf/graf/routes/Match")
set_option maxRecDepth 65536 in
set_option maxHeartbeats 40000000 in
theorem rmm01 (l : Launch) (Z : State) (a0 : Array Value) (hw : ∀ d ∈ tables_1, d.before a0 Z = true) (ws : List Jvm.Cond) (mo : Addr) (kd : Addr) (h0 : Heap) (n0 : Nat) (Z0 : n0 ≤ h0.size) (F1 : Fld Z h0 mo "com/example/graf/graf/routes/Match" "node" "Ljava/lang/String;" .null) (F2 : Fld Z h0 mo "com/example/graf/graf/routes/Match" "kind" "Lcom/example/graf/graf/routes/RouteKind;" .null) (E1 : Exa Z h0 mo "com/example/graf/graf/routes/Match") (G1 : n0 ≤ mo) :
    MetFree l (⟨"com/example/graf/graf/routes/Match", "<init>", "(Ljava/lang/String;Lcom/example/graf/graf/routes/RouteKind;)V"⟩ : MethodName) (head1 (Jvm.Cond.code (⟨"com/example/graf/graf/routes/Match", "<init>", "(Ljava/lang/String;Lcom/example/graf/graf/routes/RouteKind;)V"⟩ : MethodName) prog_19_method_1_code 3 none :: ws) ({ frames := 1, cells := 0, slots := 0, locals := 12 } : Room)) (fun aa UU => aa = #[(.ref mo), .null, (.ref kd)] ∧ Z.Warmed39 UU.vm ∧ UU.heap = h0) (fun _ _ _ _ _ => True) (fun _ UU oo UU' => ∃ vv LL, oo = .returned vv ∧ Qm01 Z mo kd h0 n0 vv UU'.heap LL ∧ FrameEnd UU oo UU' LL 0 0) := by
  refine MetFree.of_bodySF (plainFor_of_name pn_3) hisR ?_
  intro p e s m args below meth c s₁ Bd hml0 hP hK
  obtain ⟨rfl, hZ, hh⟩ := hP
  have hx := Bd.exec
  have hby := Bd.bytes
  have hlk : meth.locks = false := BodyLoose.notSynchronized Bd
  have hml : c.maxLocals = 3 := hml0
  have hown : s.vm.findClass "com/example/graf/graf/routes/Match" = some m.cls := findClass_of_methodNamed Bd.named
  have hnm := (name_of_methodNamed Bd.named Bd.method).1
  have X0 : Stand p l e ({ frames := 1, cells := 0, slots := 0, locals := 12 } : Room) s m #[(.ref mo), .null, (.ref kd)] below meth c s₁ [] 0 0 := Stand.of_body Bd
  have e0 : s₁.heap = h0 := by rw [← hh, Bd.state]; rfl
  have N0 := Fr.nil n0
  have K0 : Keep h0 h0 [mo] := Keep.refl h0 _
  refine (?_ : Go p e below s (Qm01 Z mo kd h0 n0) 0 0 (s₁.setTop (entryFrame m #[(.ref mo), .null, (.ref kd)] 3)))
  rw [ef_rmm01]
  generalize hQ : Qm01 Z mo kd h0 n0 = Q
  show Go p e below s Q 0 0 (s₁.setTop (mkF m 0 #[.val (.ref mo), .val .null, .val (.ref kd)] []))
  refine Go.st (fun _ k => XS.aloadN X0.here hx rfl (hb hby d8_0) rfl rfl k) ?_
  obtain ⟨T1, X1, e1, st1⟩ := initO X0 hx hZ hown (hw _ (List.mem_of_getElem? (i := 43) rfl)) (hw _ (List.mem_of_getElem? (i := 19) rfl)) (hw _ (List.mem_of_getElem? (i := 20) rfl)) e0 (g := (mkF m 1 #[.val (.ref mo), .val .null, .val (.ref kd)] [(.ref mo)])) rfl (by rw [hml]; rfl) rfl (hb hby d8_1) (by decide) (W := 0) (by show 2 * 0 + _ ≤ _; exact Nat.le_of_eq rfl) (by decide)
  refine Go.st st1 ?_
  show Go p e below s Q 0 0 (T1.setTop (mkF m 4 #[.val (.ref mo), .val .null, .val (.ref kd)] []))
  refine Go.st (fun _ k => XS.aloadN X1.here hx rfl (hb hby d8_4) rfl rfl k) ?_
  refine Go.st (fun _ k => XS.aloadN X1.here hx rfl (hb hby d8_5) rfl rfl k) ?_
  obtain ⟨T2, h2, X2, e2, W2, st2⟩ := putF X1 hx hZ hown (host := "") (Or.inl (hw _ (List.mem_of_getElem? (i := 44) rfl))) Via.refl e1 F1 E1 (Or.inr ⟨(hw _ (List.mem_of_getElem? (i := 45) rfl)), rfl, hnm⟩) (hw _ (List.mem_of_getElem? (i := 38) rfl)) (ty := (.object "java/lang/String")) (by decide) rfl rfl (g := (mkF m 6 #[.val (.ref mo), .val .null, .val (.ref kd)] [.null, (.ref mo)])) rfl rfl (hb hby d8_6)
  have h3 : Fld Z h2 mo "com/example/graf/graf/routes/Match" "node" "Ljava/lang/String;" .null := F1.same W2
  have h4 : Fld Z h2 mo "com/example/graf/graf/routes/Match" "kind" "Lcom/example/graf/graf/routes/RouteKind;" .null := F2.other W2 (Or.inr (sn_2 hw))
  have h5 : Exa Z h2 mo "com/example/graf/graf/routes/Match" := E1.wr W2
  have K2 : Keep h0 h2 [mo] := K0.wr W2 (Or.inl (List.mem_of_getElem? (i := 0) rfl))
  have N2 := Fr.snoc X2 N0 G1
  refine Go.st st2 ?_
  show Go p e below s Q 0 0 (T2.setTop (mkF m 9 #[.val (.ref mo), .val .null, .val (.ref kd)] []))
  refine Go.st (fun _ k => XS.aloadN X2.here hx rfl (hb hby d8_9) rfl rfl k) ?_
  refine Go.st (fun _ k => XS.aloadN X2.here hx rfl (hb hby d8_10) rfl rfl k) ?_
  obtain ⟨T6, h6, X6, e6, W6, st6⟩ := putF X2 hx hZ hown (host := "") (Or.inl (hw _ (List.mem_of_getElem? (i := 46) rfl))) Via.refl e2 h4 h5 (Or.inr ⟨(hw _ (List.mem_of_getElem? (i := 47) rfl)), rfl, hnm⟩) (hw _ (List.mem_of_getElem? (i := 38) rfl)) (ty := (.object "com/example/graf/graf/routes/RouteKind")) (by decide) rfl rfl (g := (mkF m 11 #[.val (.ref mo), .val .null, .val (.ref kd)] [(.ref kd), (.ref mo)])) rfl rfl (hb hby d8_11)
  have h7 : Fld Z h6 mo "com/example/graf/graf/routes/Match" "node" "Ljava/lang/String;" .null := h3.other W6 (Or.inr (sn_3 hw))
  have h8 : Fld Z h6 mo "com/example/graf/graf/routes/Match" "kind" "Lcom/example/graf/graf/routes/RouteKind;" (.ref kd) := h4.same W6
  have h9 : Exa Z h6 mo "com/example/graf/graf/routes/Match" := h5.wr W6
  have K6 : Keep h0 h6 [mo] := K2.wr W6 (Or.inl (List.mem_of_getElem? (i := 0) rfl))
  have N6 := Fr.snoc X6 N2 G1
  refine Go.st st6 ?_
  show Go p e below s Q 0 0 (T6.setTop (mkF m 14 #[.val (.ref mo), .val .null, .val (.ref kd)] []))
  exact Go.retV X6 hx hlk Bd.returns (hb hby d8_14) (by rw [← hQ, e6]; exact ⟨rfl, N6, K6, h8, h9⟩) (by decide) (by decide)
theorem ef_rmm10 (m : MethodId) (mo : Addr) (nd : Addr) : entryFrame m #[(.ref mo), (.ref nd), .null] 3 = mkF m 0 #[.val (.ref mo), .val (.ref nd), .val .null] [] := by first | (simp [entryFrame, mkF, argsToLocals, Value.category]; done) | rfl
def Qm10 (Z : State) (mo : Addr) (nd : Addr) (h0 : Heap) (n0 : Nat) (vv : Option Value) (h : Heap) (LL : List Loc) : Prop := vv = none ∧ Fr n0 LL ∧ Keep h0 h [mo] ∧ (Fld Z h mo "com/example/graf/graf/routes/Match" "kind" "Lcom/example/graf/graf/routes/RouteKind;" .null) ∧ (Exa Z h mo "com/example/graf/graf/routes/Match")
set_option maxRecDepth 65536 in
set_option maxHeartbeats 40000000 in
theorem rmm10 (l : Launch) (Z : State) (a0 : Array Value) (hw : ∀ d ∈ tables_1, d.before a0 Z = true) (ws : List Jvm.Cond) (mo : Addr) (nd : Addr) (h0 : Heap) (n0 : Nat) (Z0 : n0 ≤ h0.size) (F1 : Fld Z h0 mo "com/example/graf/graf/routes/Match" "node" "Ljava/lang/String;" .null) (F2 : Fld Z h0 mo "com/example/graf/graf/routes/Match" "kind" "Lcom/example/graf/graf/routes/RouteKind;" .null) (E1 : Exa Z h0 mo "com/example/graf/graf/routes/Match") (G1 : n0 ≤ mo) :
    MetFree l (⟨"com/example/graf/graf/routes/Match", "<init>", "(Ljava/lang/String;Lcom/example/graf/graf/routes/RouteKind;)V"⟩ : MethodName) (head1 (Jvm.Cond.code (⟨"com/example/graf/graf/routes/Match", "<init>", "(Ljava/lang/String;Lcom/example/graf/graf/routes/RouteKind;)V"⟩ : MethodName) prog_19_method_1_code 3 none :: ws) ({ frames := 1, cells := 0, slots := 0, locals := 12 } : Room)) (fun aa UU => aa = #[(.ref mo), (.ref nd), .null] ∧ Z.Warmed39 UU.vm ∧ UU.heap = h0) (fun _ _ _ _ _ => True) (fun _ UU oo UU' => ∃ vv LL, oo = .returned vv ∧ Qm10 Z mo nd h0 n0 vv UU'.heap LL ∧ FrameEnd UU oo UU' LL 0 0) := by
  refine MetFree.of_bodySF (plainFor_of_name pn_3) hisR ?_
  intro p e s m args below meth c s₁ Bd hml0 hP hK
  obtain ⟨rfl, hZ, hh⟩ := hP
  have hx := Bd.exec
  have hby := Bd.bytes
  have hlk : meth.locks = false := BodyLoose.notSynchronized Bd
  have hml : c.maxLocals = 3 := hml0
  have hown : s.vm.findClass "com/example/graf/graf/routes/Match" = some m.cls := findClass_of_methodNamed Bd.named
  have hnm := (name_of_methodNamed Bd.named Bd.method).1
  have X0 : Stand p l e ({ frames := 1, cells := 0, slots := 0, locals := 12 } : Room) s m #[(.ref mo), (.ref nd), .null] below meth c s₁ [] 0 0 := Stand.of_body Bd
  have e0 : s₁.heap = h0 := by rw [← hh, Bd.state]; rfl
  have N0 := Fr.nil n0
  have K0 : Keep h0 h0 [mo] := Keep.refl h0 _
  refine (?_ : Go p e below s (Qm10 Z mo nd h0 n0) 0 0 (s₁.setTop (entryFrame m #[(.ref mo), (.ref nd), .null] 3)))
  rw [ef_rmm10]
  generalize hQ : Qm10 Z mo nd h0 n0 = Q
  show Go p e below s Q 0 0 (s₁.setTop (mkF m 0 #[.val (.ref mo), .val (.ref nd), .val .null] []))
  refine Go.st (fun _ k => XS.aloadN X0.here hx rfl (hb hby d8_0) rfl rfl k) ?_
  obtain ⟨T1, X1, e1, st1⟩ := initO X0 hx hZ hown (hw _ (List.mem_of_getElem? (i := 43) rfl)) (hw _ (List.mem_of_getElem? (i := 19) rfl)) (hw _ (List.mem_of_getElem? (i := 20) rfl)) e0 (g := (mkF m 1 #[.val (.ref mo), .val (.ref nd), .val .null] [(.ref mo)])) rfl (by rw [hml]; rfl) rfl (hb hby d8_1) (by decide) (W := 0) (by show 2 * 0 + _ ≤ _; exact Nat.le_of_eq rfl) (by decide)
  refine Go.st st1 ?_
  show Go p e below s Q 0 0 (T1.setTop (mkF m 4 #[.val (.ref mo), .val (.ref nd), .val .null] []))
  refine Go.st (fun _ k => XS.aloadN X1.here hx rfl (hb hby d8_4) rfl rfl k) ?_
  refine Go.st (fun _ k => XS.aloadN X1.here hx rfl (hb hby d8_5) rfl rfl k) ?_
  obtain ⟨T2, h2, X2, e2, W2, st2⟩ := putF X1 hx hZ hown (host := "") (Or.inl (hw _ (List.mem_of_getElem? (i := 44) rfl))) Via.refl e1 F1 E1 (Or.inr ⟨(hw _ (List.mem_of_getElem? (i := 45) rfl)), rfl, hnm⟩) (hw _ (List.mem_of_getElem? (i := 38) rfl)) (ty := (.object "java/lang/String")) (by decide) rfl rfl (g := (mkF m 6 #[.val (.ref mo), .val (.ref nd), .val .null] [(.ref nd), (.ref mo)])) rfl rfl (hb hby d8_6)
  have h3 : Fld Z h2 mo "com/example/graf/graf/routes/Match" "node" "Ljava/lang/String;" (.ref nd) := F1.same W2
  have h4 : Fld Z h2 mo "com/example/graf/graf/routes/Match" "kind" "Lcom/example/graf/graf/routes/RouteKind;" .null := F2.other W2 (Or.inr (sn_2 hw))
  have h5 : Exa Z h2 mo "com/example/graf/graf/routes/Match" := E1.wr W2
  have K2 : Keep h0 h2 [mo] := K0.wr W2 (Or.inl (List.mem_of_getElem? (i := 0) rfl))
  have N2 := Fr.snoc X2 N0 G1
  refine Go.st st2 ?_
  show Go p e below s Q 0 0 (T2.setTop (mkF m 9 #[.val (.ref mo), .val (.ref nd), .val .null] []))
  refine Go.st (fun _ k => XS.aloadN X2.here hx rfl (hb hby d8_9) rfl rfl k) ?_
  refine Go.st (fun _ k => XS.aloadN X2.here hx rfl (hb hby d8_10) rfl rfl k) ?_
  obtain ⟨T6, h6, X6, e6, W6, st6⟩ := putF X2 hx hZ hown (host := "") (Or.inl (hw _ (List.mem_of_getElem? (i := 46) rfl))) Via.refl e2 h4 h5 (Or.inr ⟨(hw _ (List.mem_of_getElem? (i := 47) rfl)), rfl, hnm⟩) (hw _ (List.mem_of_getElem? (i := 38) rfl)) (ty := (.object "com/example/graf/graf/routes/RouteKind")) (by decide) rfl rfl (g := (mkF m 11 #[.val (.ref mo), .val (.ref nd), .val .null] [.null, (.ref mo)])) rfl rfl (hb hby d8_11)
  have h7 : Fld Z h6 mo "com/example/graf/graf/routes/Match" "node" "Ljava/lang/String;" (.ref nd) := h3.other W6 (Or.inr (sn_3 hw))
  have h8 : Fld Z h6 mo "com/example/graf/graf/routes/Match" "kind" "Lcom/example/graf/graf/routes/RouteKind;" .null := h4.same W6
  have h9 : Exa Z h6 mo "com/example/graf/graf/routes/Match" := h5.wr W6
  have K6 : Keep h0 h6 [mo] := K2.wr W6 (Or.inl (List.mem_of_getElem? (i := 0) rfl))
  have N6 := Fr.snoc X6 N2 G1
  refine Go.st st6 ?_
  show Go p e below s Q 0 0 (T6.setTop (mkF m 14 #[.val (.ref mo), .val (.ref nd), .val .null] []))
  exact Go.retV X6 hx hlk Bd.returns (hb hby d8_14) (by rw [← hQ, e6]; exact ⟨rfl, N6, K6, h8, h9⟩) (by decide) (by decide)
theorem ef_rmm11 (m : MethodId) (mo : Addr) (nd : Addr) (kd : Addr) : entryFrame m #[(.ref mo), (.ref nd), (.ref kd)] 3 = mkF m 0 #[.val (.ref mo), .val (.ref nd), .val (.ref kd)] [] := by first | (simp [entryFrame, mkF, argsToLocals, Value.category]; done) | rfl
def Qm11 (Z : State) (mo : Addr) (nd : Addr) (kd : Addr) (h0 : Heap) (n0 : Nat) (vv : Option Value) (h : Heap) (LL : List Loc) : Prop := vv = none ∧ Fr n0 LL ∧ Keep h0 h [mo] ∧ (Fld Z h mo "com/example/graf/graf/routes/Match" "kind" "Lcom/example/graf/graf/routes/RouteKind;" (.ref kd)) ∧ (Exa Z h mo "com/example/graf/graf/routes/Match")
set_option maxRecDepth 65536 in
set_option maxHeartbeats 40000000 in
theorem rmm11 (l : Launch) (Z : State) (a0 : Array Value) (hw : ∀ d ∈ tables_1, d.before a0 Z = true) (ws : List Jvm.Cond) (mo : Addr) (nd : Addr) (kd : Addr) (h0 : Heap) (n0 : Nat) (Z0 : n0 ≤ h0.size) (F1 : Fld Z h0 mo "com/example/graf/graf/routes/Match" "node" "Ljava/lang/String;" .null) (F2 : Fld Z h0 mo "com/example/graf/graf/routes/Match" "kind" "Lcom/example/graf/graf/routes/RouteKind;" .null) (E1 : Exa Z h0 mo "com/example/graf/graf/routes/Match") (G1 : n0 ≤ mo) :
    MetFree l (⟨"com/example/graf/graf/routes/Match", "<init>", "(Ljava/lang/String;Lcom/example/graf/graf/routes/RouteKind;)V"⟩ : MethodName) (head1 (Jvm.Cond.code (⟨"com/example/graf/graf/routes/Match", "<init>", "(Ljava/lang/String;Lcom/example/graf/graf/routes/RouteKind;)V"⟩ : MethodName) prog_19_method_1_code 3 none :: ws) ({ frames := 1, cells := 0, slots := 0, locals := 12 } : Room)) (fun aa UU => aa = #[(.ref mo), (.ref nd), (.ref kd)] ∧ Z.Warmed39 UU.vm ∧ UU.heap = h0) (fun _ _ _ _ _ => True) (fun _ UU oo UU' => ∃ vv LL, oo = .returned vv ∧ Qm11 Z mo nd kd h0 n0 vv UU'.heap LL ∧ FrameEnd UU oo UU' LL 0 0) := by
  refine MetFree.of_bodySF (plainFor_of_name pn_3) hisR ?_
  intro p e s m args below meth c s₁ Bd hml0 hP hK
  obtain ⟨rfl, hZ, hh⟩ := hP
  have hx := Bd.exec
  have hby := Bd.bytes
  have hlk : meth.locks = false := BodyLoose.notSynchronized Bd
  have hml : c.maxLocals = 3 := hml0
  have hown : s.vm.findClass "com/example/graf/graf/routes/Match" = some m.cls := findClass_of_methodNamed Bd.named
  have hnm := (name_of_methodNamed Bd.named Bd.method).1
  have X0 : Stand p l e ({ frames := 1, cells := 0, slots := 0, locals := 12 } : Room) s m #[(.ref mo), (.ref nd), (.ref kd)] below meth c s₁ [] 0 0 := Stand.of_body Bd
  have e0 : s₁.heap = h0 := by rw [← hh, Bd.state]; rfl
  have N0 := Fr.nil n0
  have K0 : Keep h0 h0 [mo] := Keep.refl h0 _
  refine (?_ : Go p e below s (Qm11 Z mo nd kd h0 n0) 0 0 (s₁.setTop (entryFrame m #[(.ref mo), (.ref nd), (.ref kd)] 3)))
  rw [ef_rmm11]
  generalize hQ : Qm11 Z mo nd kd h0 n0 = Q
  show Go p e below s Q 0 0 (s₁.setTop (mkF m 0 #[.val (.ref mo), .val (.ref nd), .val (.ref kd)] []))
  refine Go.st (fun _ k => XS.aloadN X0.here hx rfl (hb hby d8_0) rfl rfl k) ?_
  obtain ⟨T1, X1, e1, st1⟩ := initO X0 hx hZ hown (hw _ (List.mem_of_getElem? (i := 43) rfl)) (hw _ (List.mem_of_getElem? (i := 19) rfl)) (hw _ (List.mem_of_getElem? (i := 20) rfl)) e0 (g := (mkF m 1 #[.val (.ref mo), .val (.ref nd), .val (.ref kd)] [(.ref mo)])) rfl (by rw [hml]; rfl) rfl (hb hby d8_1) (by decide) (W := 0) (by show 2 * 0 + _ ≤ _; exact Nat.le_of_eq rfl) (by decide)
  refine Go.st st1 ?_
  show Go p e below s Q 0 0 (T1.setTop (mkF m 4 #[.val (.ref mo), .val (.ref nd), .val (.ref kd)] []))
  refine Go.st (fun _ k => XS.aloadN X1.here hx rfl (hb hby d8_4) rfl rfl k) ?_
  refine Go.st (fun _ k => XS.aloadN X1.here hx rfl (hb hby d8_5) rfl rfl k) ?_
  obtain ⟨T2, h2, X2, e2, W2, st2⟩ := putF X1 hx hZ hown (host := "") (Or.inl (hw _ (List.mem_of_getElem? (i := 44) rfl))) Via.refl e1 F1 E1 (Or.inr ⟨(hw _ (List.mem_of_getElem? (i := 45) rfl)), rfl, hnm⟩) (hw _ (List.mem_of_getElem? (i := 38) rfl)) (ty := (.object "java/lang/String")) (by decide) rfl rfl (g := (mkF m 6 #[.val (.ref mo), .val (.ref nd), .val (.ref kd)] [(.ref nd), (.ref mo)])) rfl rfl (hb hby d8_6)
  have h3 : Fld Z h2 mo "com/example/graf/graf/routes/Match" "node" "Ljava/lang/String;" (.ref nd) := F1.same W2
  have h4 : Fld Z h2 mo "com/example/graf/graf/routes/Match" "kind" "Lcom/example/graf/graf/routes/RouteKind;" .null := F2.other W2 (Or.inr (sn_2 hw))
  have h5 : Exa Z h2 mo "com/example/graf/graf/routes/Match" := E1.wr W2
  have K2 : Keep h0 h2 [mo] := K0.wr W2 (Or.inl (List.mem_of_getElem? (i := 0) rfl))
  have N2 := Fr.snoc X2 N0 G1
  refine Go.st st2 ?_
  show Go p e below s Q 0 0 (T2.setTop (mkF m 9 #[.val (.ref mo), .val (.ref nd), .val (.ref kd)] []))
  refine Go.st (fun _ k => XS.aloadN X2.here hx rfl (hb hby d8_9) rfl rfl k) ?_
  refine Go.st (fun _ k => XS.aloadN X2.here hx rfl (hb hby d8_10) rfl rfl k) ?_
  obtain ⟨T6, h6, X6, e6, W6, st6⟩ := putF X2 hx hZ hown (host := "") (Or.inl (hw _ (List.mem_of_getElem? (i := 46) rfl))) Via.refl e2 h4 h5 (Or.inr ⟨(hw _ (List.mem_of_getElem? (i := 47) rfl)), rfl, hnm⟩) (hw _ (List.mem_of_getElem? (i := 38) rfl)) (ty := (.object "com/example/graf/graf/routes/RouteKind")) (by decide) rfl rfl (g := (mkF m 11 #[.val (.ref mo), .val (.ref nd), .val (.ref kd)] [(.ref kd), (.ref mo)])) rfl rfl (hb hby d8_11)
  have h7 : Fld Z h6 mo "com/example/graf/graf/routes/Match" "node" "Ljava/lang/String;" (.ref nd) := h3.other W6 (Or.inr (sn_3 hw))
  have h8 : Fld Z h6 mo "com/example/graf/graf/routes/Match" "kind" "Lcom/example/graf/graf/routes/RouteKind;" (.ref kd) := h4.same W6
  have h9 : Exa Z h6 mo "com/example/graf/graf/routes/Match" := h5.wr W6
  have K6 : Keep h0 h6 [mo] := K2.wr W6 (Or.inl (List.mem_of_getElem? (i := 0) rfl))
  have N6 := Fr.snoc X6 N2 G1
  refine Go.st st6 ?_
  show Go p e below s Q 0 0 (T6.setTop (mkF m 14 #[.val (.ref mo), .val (.ref nd), .val (.ref kd)] []))
  exact Go.retV X6 hx hlk Bd.returns (hb hby d8_14) (by rw [← hQ, e6]; exact ⟨rfl, N6, K6, h8, h9⟩) (by decide) (by decide)
theorem d9_0 : decode prog_19_method_4_code 0 = .ok (.aload_n 0, 1) := by decide +kernel
theorem d9_1 : decode prog_19_method_4_code 1 = .ok (.getfield 13, 3) := by decide +kernel
theorem d9_4 : decode prog_19_method_4_code 4 = .ok (.getstatic 22, 3) := by decide +kernel
theorem d9_7 : decode prog_19_method_4_code 7 = .ok (.if_acmp .ne 7, 3) := by decide +kernel
theorem d9_14 : decode prog_19_method_4_code 14 = .ok (.iconst 0, 1) := by decide +kernel
theorem d9_15 : decode prog_19_method_4_code 15 = .ok (.ireturn, 1) := by decide +kernel
theorem ef_rmln (m : MethodId) (mo : Addr) : entryFrame m #[(.ref mo)] 1 = mkF m 0 #[.val (.ref mo)] [] := by first | (simp [entryFrame, mkF, argsToLocals, Value.category]; done) | rfl
def Qln (Z : State) (mo : Addr) (al : Addr) (h0 : Heap) (n0 : Nat) (vv : Option Value) (h : Heap) (LL : List Loc) : Prop := vv = some (.int (0 : Int32)) ∧ Fr n0 LL ∧ h = h0
set_option maxRecDepth 65536 in
set_option maxHeartbeats 40000000 in
theorem rmln (l : Launch) (Z : State) (a0 : Array Value) (hw : ∀ d ∈ tables_1, d.before a0 Z = true) (ws : List Jvm.Cond) (mo : Addr) (al : Addr) (h0 : Heap) (n0 : Nat) (Z0 : n0 ≤ h0.size) (F2 : Fld Z h0 mo "com/example/graf/graf/routes/Match" "kind" "Lcom/example/graf/graf/routes/RouteKind;" .null) (hS : Sta Z h0 "com/example/graf/graf/routes/RouteKind" "LOGOUT" "Lcom/example/graf/graf/routes/RouteKind;" (.ref al)) :
    MetFree l (⟨"com/example/graf/graf/routes/Match", "isLogout", "()Z"⟩ : MethodName) (head1 (Jvm.Cond.code (⟨"com/example/graf/graf/routes/Match", "isLogout", "()Z"⟩ : MethodName) prog_19_method_4_code 1 (some .boolean) :: ws) ({ frames := 0, cells := 0, slots := 0, locals := 0 } : Room)) (fun aa UU => aa = #[(.ref mo)] ∧ Z.Warmed39 UU.vm ∧ UU.heap = h0) (fun _ _ _ _ _ => True) (fun _ UU oo UU' => ∃ vv LL, oo = .returned vv ∧ Qln Z mo al h0 n0 vv UU'.heap LL ∧ FrameEnd UU oo UU' LL 0 0) := by
  refine MetFree.of_bodySF (plainFor_of_name pn_3) hisR ?_
  intro p e s m args below meth c s₁ Bd hml0 hP hK
  obtain ⟨rfl, hZ, hh⟩ := hP
  have hx := Bd.exec
  have hby := Bd.bytes
  have hlk : meth.locks = false := BodyLoose.notSynchronized Bd
  have hml : c.maxLocals = 1 := hml0
  have hown : s.vm.findClass "com/example/graf/graf/routes/Match" = some m.cls := findClass_of_methodNamed Bd.named
  have hnm := (name_of_methodNamed Bd.named Bd.method).1
  have X0 : Stand p l e ({ frames := 0, cells := 0, slots := 0, locals := 0 } : Room) s m #[(.ref mo)] below meth c s₁ [] 0 0 := Stand.of_body Bd
  have e0 : s₁.heap = h0 := by rw [← hh, Bd.state]; rfl
  have N0 := Fr.nil n0
  have K0 : Keep h0 h0 [] := Keep.refl h0 _
  refine (?_ : Go p e below s (Qln Z mo al h0 n0) 0 0 (s₁.setTop (entryFrame m #[(.ref mo)] 1)))
  rw [ef_rmln]
  generalize hQ : Qln Z mo al h0 n0 = Q
  show Go p e below s Q 0 0 (s₁.setTop (mkF m 0 #[.val (.ref mo)] []))
  refine Go.st (fun _ k => XS.aloadN X0.here hx rfl (hb hby d9_0) rfl rfl k) ?_
  obtain ⟨T1, X1, e1, st1⟩ := getF X0 hx hZ hown (host := "") (Or.inl (hw _ (List.mem_of_getElem? (i := 46) rfl))) Via.refl e0 F2 (g := (mkF m 1 #[.val (.ref mo)] [(.ref mo)])) rfl rfl (hb hby d9_1)
  refine Go.st st1 ?_
  show Go p e below s Q 0 0 (T1.setTop (mkF m 4 #[.val (.ref mo)] [.null]))
  obtain ⟨T2, X2, e2, st2⟩ := getS2 X1 hx hZ hown (host := "") (Or.inl (hw _ (List.mem_of_getElem? (i := 53) rfl))) Via.refl e1 hS (g := (mkF m 4 #[.val (.ref mo)] [.null])) rfl (hb hby d9_4)
  refine Go.st st2 ?_
  show Go p e below s Q 0 0 (T2.setTop (mkF m 7 #[.val (.ref mo)] [(.ref al), .null]))
  refine Go.st (fun _ k => Jvm.RoadKit.acmp (g := (mkF m 7 #[.val (.ref mo)] [(.ref al), .null])) X2 hx rfl rfl rfl (pc0 := 7) (pc' := 14) (same := false) rfl (hb hby d9_7) rfl (decide_eq_false nofun) (by decide) (by decide) k) ?_
  refine Go.st (fun _ k => XS.iconst X2.here hx rfl (hb hby d9_14) k) ?_
  show Go p e below s Q 0 0 (T2.setTop (mkF m 15 #[.val (.ref mo)] [(.int (0 : Int32))]))
  have f3 := liI_0
  exact Go.retN X2 hx hlk (by simp) Bd.returns (hb hby d9_15) (z' := (0 : Int32)) (by decide) (by rw [← hQ, e2]; exact ⟨rfl, N0, rfl⟩) (by decide) (by decide)
theorem ef_rmlo (m : MethodId) (mo : Addr) : entryFrame m #[(.ref mo)] 1 = mkF m 0 #[.val (.ref mo)] [] := by first | (simp [entryFrame, mkF, argsToLocals, Value.category]; done) | rfl
def Qlo (Z : State) (mo : Addr) (al : Addr) (ak : Addr) (h0 : Heap) (n0 : Nat) (vv : Option Value) (h : Heap) (LL : List Loc) : Prop := vv = some (.int (0 : Int32)) ∧ Fr n0 LL ∧ h = h0
set_option maxRecDepth 65536 in
set_option maxHeartbeats 40000000 in
theorem rmlo (l : Launch) (Z : State) (a0 : Array Value) (hw : ∀ d ∈ tables_1, d.before a0 Z = true) (ws : List Jvm.Cond) (mo : Addr) (al : Addr) (ak : Addr) (h0 : Heap) (n0 : Nat) (Z0 : n0 ≤ h0.size) (F2 : Fld Z h0 mo "com/example/graf/graf/routes/Match" "kind" "Lcom/example/graf/graf/routes/RouteKind;" (.ref ak)) (hS : Sta Z h0 "com/example/graf/graf/routes/RouteKind" "LOGOUT" "Lcom/example/graf/graf/routes/RouteKind;" (.ref al)) (hn : ak ≠ al) :
    MetFree l (⟨"com/example/graf/graf/routes/Match", "isLogout", "()Z"⟩ : MethodName) (head1 (Jvm.Cond.code (⟨"com/example/graf/graf/routes/Match", "isLogout", "()Z"⟩ : MethodName) prog_19_method_4_code 1 (some .boolean) :: ws) ({ frames := 0, cells := 0, slots := 0, locals := 0 } : Room)) (fun aa UU => aa = #[(.ref mo)] ∧ Z.Warmed39 UU.vm ∧ UU.heap = h0) (fun _ _ _ _ _ => True) (fun _ UU oo UU' => ∃ vv LL, oo = .returned vv ∧ Qlo Z mo al ak h0 n0 vv UU'.heap LL ∧ FrameEnd UU oo UU' LL 0 0) := by
  refine MetFree.of_bodySF (plainFor_of_name pn_3) hisR ?_
  intro p e s m args below meth c s₁ Bd hml0 hP hK
  obtain ⟨rfl, hZ, hh⟩ := hP
  have hx := Bd.exec
  have hby := Bd.bytes
  have hlk : meth.locks = false := BodyLoose.notSynchronized Bd
  have hml : c.maxLocals = 1 := hml0
  have hown : s.vm.findClass "com/example/graf/graf/routes/Match" = some m.cls := findClass_of_methodNamed Bd.named
  have hnm := (name_of_methodNamed Bd.named Bd.method).1
  have X0 : Stand p l e ({ frames := 0, cells := 0, slots := 0, locals := 0 } : Room) s m #[(.ref mo)] below meth c s₁ [] 0 0 := Stand.of_body Bd
  have e0 : s₁.heap = h0 := by rw [← hh, Bd.state]; rfl
  have N0 := Fr.nil n0
  have K0 : Keep h0 h0 [] := Keep.refl h0 _
  refine (?_ : Go p e below s (Qlo Z mo al ak h0 n0) 0 0 (s₁.setTop (entryFrame m #[(.ref mo)] 1)))
  rw [ef_rmlo]
  generalize hQ : Qlo Z mo al ak h0 n0 = Q
  show Go p e below s Q 0 0 (s₁.setTop (mkF m 0 #[.val (.ref mo)] []))
  refine Go.st (fun _ k => XS.aloadN X0.here hx rfl (hb hby d9_0) rfl rfl k) ?_
  obtain ⟨T1, X1, e1, st1⟩ := getF X0 hx hZ hown (host := "") (Or.inl (hw _ (List.mem_of_getElem? (i := 46) rfl))) Via.refl e0 F2 (g := (mkF m 1 #[.val (.ref mo)] [(.ref mo)])) rfl rfl (hb hby d9_1)
  refine Go.st st1 ?_
  show Go p e below s Q 0 0 (T1.setTop (mkF m 4 #[.val (.ref mo)] [(.ref ak)]))
  obtain ⟨T2, X2, e2, st2⟩ := getS2 X1 hx hZ hown (host := "") (Or.inl (hw _ (List.mem_of_getElem? (i := 53) rfl))) Via.refl e1 hS (g := (mkF m 4 #[.val (.ref mo)] [(.ref ak)])) rfl (hb hby d9_4)
  refine Go.st st2 ?_
  show Go p e below s Q 0 0 (T2.setTop (mkF m 7 #[.val (.ref mo)] [(.ref al), (.ref ak)]))
  refine Go.st (fun _ k => Jvm.RoadKit.acmp (g := (mkF m 7 #[.val (.ref mo)] [(.ref al), (.ref ak)])) X2 hx rfl rfl rfl (pc0 := 7) (pc' := 14) (same := false) rfl (hb hby d9_7) rfl (decide_eq_false fun q => hn (Value.ref.inj q)) (by decide) (by decide) k) ?_
  refine Go.st (fun _ k => XS.iconst X2.here hx rfl (hb hby d9_14) k) ?_
  show Go p e below s Q 0 0 (T2.setTop (mkF m 15 #[.val (.ref mo)] [(.int (0 : Int32))]))
  have f3 := liI_0
  exact Go.retN X2 hx hlk (by simp) Bd.returns (hb hby d9_15) (z' := (0 : Int32)) (by decide) (by rw [← hQ, e2]; exact ⟨rfl, N0, rfl⟩) (by decide) (by decide)
theorem d9_10 : decode prog_19_method_4_code 10 = .ok (.iconst 1, 1) := by decide +kernel
theorem d9_11 : decode prog_19_method_4_code 11 = .ok (.goto 4, 3) := by decide +kernel
theorem ef_rmls (m : MethodId) (mo : Addr) : entryFrame m #[(.ref mo)] 1 = mkF m 0 #[.val (.ref mo)] [] := by first | (simp [entryFrame, mkF, argsToLocals, Value.category]; done) | rfl
def Qls (Z : State) (mo : Addr) (al : Addr) (h0 : Heap) (n0 : Nat) (vv : Option Value) (h : Heap) (LL : List Loc) : Prop := vv = some (.int (1 : Int32)) ∧ Fr n0 LL ∧ h = h0
set_option maxRecDepth 65536 in
set_option maxHeartbeats 40000000 in
theorem rmls (l : Launch) (Z : State) (a0 : Array Value) (hw : ∀ d ∈ tables_1, d.before a0 Z = true) (ws : List Jvm.Cond) (mo : Addr) (al : Addr) (h0 : Heap) (n0 : Nat) (Z0 : n0 ≤ h0.size) (F2 : Fld Z h0 mo "com/example/graf/graf/routes/Match" "kind" "Lcom/example/graf/graf/routes/RouteKind;" (.ref al)) (hS : Sta Z h0 "com/example/graf/graf/routes/RouteKind" "LOGOUT" "Lcom/example/graf/graf/routes/RouteKind;" (.ref al)) :
    MetFree l (⟨"com/example/graf/graf/routes/Match", "isLogout", "()Z"⟩ : MethodName) (head1 (Jvm.Cond.code (⟨"com/example/graf/graf/routes/Match", "isLogout", "()Z"⟩ : MethodName) prog_19_method_4_code 1 (some .boolean) :: ws) ({ frames := 0, cells := 0, slots := 0, locals := 0 } : Room)) (fun aa UU => aa = #[(.ref mo)] ∧ Z.Warmed39 UU.vm ∧ UU.heap = h0) (fun _ _ _ _ _ => True) (fun _ UU oo UU' => ∃ vv LL, oo = .returned vv ∧ Qls Z mo al h0 n0 vv UU'.heap LL ∧ FrameEnd UU oo UU' LL 0 0) := by
  refine MetFree.of_bodySF (plainFor_of_name pn_3) hisR ?_
  intro p e s m args below meth c s₁ Bd hml0 hP hK
  obtain ⟨rfl, hZ, hh⟩ := hP
  have hx := Bd.exec
  have hby := Bd.bytes
  have hlk : meth.locks = false := BodyLoose.notSynchronized Bd
  have hml : c.maxLocals = 1 := hml0
  have hown : s.vm.findClass "com/example/graf/graf/routes/Match" = some m.cls := findClass_of_methodNamed Bd.named
  have hnm := (name_of_methodNamed Bd.named Bd.method).1
  have X0 : Stand p l e ({ frames := 0, cells := 0, slots := 0, locals := 0 } : Room) s m #[(.ref mo)] below meth c s₁ [] 0 0 := Stand.of_body Bd
  have e0 : s₁.heap = h0 := by rw [← hh, Bd.state]; rfl
  have N0 := Fr.nil n0
  have K0 : Keep h0 h0 [] := Keep.refl h0 _
  refine (?_ : Go p e below s (Qls Z mo al h0 n0) 0 0 (s₁.setTop (entryFrame m #[(.ref mo)] 1)))
  rw [ef_rmls]
  generalize hQ : Qls Z mo al h0 n0 = Q
  show Go p e below s Q 0 0 (s₁.setTop (mkF m 0 #[.val (.ref mo)] []))
  refine Go.st (fun _ k => XS.aloadN X0.here hx rfl (hb hby d9_0) rfl rfl k) ?_
  obtain ⟨T1, X1, e1, st1⟩ := getF X0 hx hZ hown (host := "") (Or.inl (hw _ (List.mem_of_getElem? (i := 46) rfl))) Via.refl e0 F2 (g := (mkF m 1 #[.val (.ref mo)] [(.ref mo)])) rfl rfl (hb hby d9_1)
  refine Go.st st1 ?_
  show Go p e below s Q 0 0 (T1.setTop (mkF m 4 #[.val (.ref mo)] [(.ref al)]))
  obtain ⟨T2, X2, e2, st2⟩ := getS2 X1 hx hZ hown (host := "") (Or.inl (hw _ (List.mem_of_getElem? (i := 53) rfl))) Via.refl e1 hS (g := (mkF m 4 #[.val (.ref mo)] [(.ref al)])) rfl (hb hby d9_4)
  refine Go.st st2 ?_
  show Go p e below s Q 0 0 (T2.setTop (mkF m 7 #[.val (.ref mo)] [(.ref al), (.ref al)]))
  refine Go.st (fun _ k => Jvm.RoadKit.acmp (g := (mkF m 7 #[.val (.ref mo)] [(.ref al), (.ref al)])) X2 hx rfl rfl rfl (pc0 := 7) (pc' := 10) (same := true) rfl (hb hby d9_7) rfl (decide_eq_true rfl) (by decide) (by decide) k) ?_
  refine Go.st (fun _ k => XS.iconst X2.here hx rfl (hb hby d9_10) k) ?_
  refine Go.st (fun _ k => XS.goto X2.here hx rfl (pc0 := 11) (pc' := 15) rfl (hb hby d9_11) (by decide) (by decide) k) ?_
  show Go p e below s Q 0 0 (T2.setTop (mkF m 15 #[.val (.ref mo)] [(.int (1 : Int32))]))
  have f3 := liI_1
  exact Go.retN X2 hx hlk (by simp) Bd.returns (hb hby d9_15) (z' := (1 : Int32)) (by decide) (by rw [← hQ, e2]; exact ⟨rfl, N0, rfl⟩) (by decide) (by decide)
theorem pd_4 : parseMethodDescriptor "(I)Lcom/example/graf/graf/routes/RouteKind;" = some ⟨[.int], some (.object "com/example/graf/graf/routes/RouteKind")⟩ := by decide +kernel
theorem pd_5 : parseMethodDescriptor "(Ljava/lang/String;Lcom/example/graf/graf/routes/RouteKind;)V" = some ⟨[(.object "java/lang/String"), (.object "com/example/graf/graf/routes/RouteKind")], none⟩ := by decide +kernel
theorem pd_6 : parseMethodDescriptor "()Z" = some ⟨[], some .boolean⟩ := by decide +kernel
theorem wStr {Z : State} {a0 : Array Value} (hw : ∀ d ∈ tables_1, d.before a0 Z = true) : ∀ d ∈ Bundle.stringAtoms, d.before a0 Z = true := fun d hd => by
  simp only [Bundle.stringAtoms, Bundle.sN, List.mem_cons, List.not_mem_nil, or_false] at hd
  rcases hd with rfl | rfl | rfl | rfl | rfl | rfl | rfl
  · exact (hw _ (List.mem_of_getElem? (i := 10) rfl))
  · exact (hw _ (List.mem_of_getElem? (i := 9) rfl))
  · exact (hw _ (List.mem_of_getElem? (i := 26) rfl))
  · exact (hw _ (List.mem_of_getElem? (i := 36) rfl))
  · exact (hw _ (List.mem_of_getElem? (i := 34) rfl))
  · exact (hw _ (List.mem_of_getElem? (i := 56) rfl))
  · exact (hw _ (List.mem_of_getElem? (i := 57) rfl))
theorem pd_7 : parseMethodDescriptor "([C)V" = some ⟨[(.array .char)], none⟩ := by decide +kernel
theorem ef_rm0 (m : MethodId) (k0 : Int32) (c0 : Int32) (c1 : Int32) (sh : Int32) : entryFrame m #[(.int k0), (.int c0), (.int c1), (.int sh)] maxLocals = mkF m 0 #[.val (.int k0), .val (.int c0), .val (.int c1), .val (.int sh), .unset, .unset, .unset, .unset, .unset, .unset] [] := by first | (simp [entryFrame, mkF, argsToLocals, Value.category, maxLocals]; done) | rfl
def Q0 (Z : State) (k0 : Int32) (c0 : Int32) (c1 : Int32) (sh : Int32) (aGUARDED : Addr) (aLOGOUT : Addr) (aPUBLIC : Addr) (zc : Int32) (h0 : Heap) (n0 : Nat) (vv : Option Value) (h : Heap) (LL : List Loc) : Prop := vv = some (.int (1 : Int32)) ∧ Fr n0 LL ∧ Keep h0 h []
set_option maxRecDepth 65536 in
set_option maxHeartbeats 40000000 in
theorem rm0 (l : Launch) (Z : State) (a0 : Array Value) (hw : ∀ d ∈ tables_1, d.before a0 Z = true) (ws : List Jvm.Cond) (k0 : Int32) (c0 : Int32) (c1 : Int32) (sh : Int32) (aGUARDED : Addr) (aLOGOUT : Addr) (aPUBLIC : Addr) (zc : Int32) (h0 : Heap) (n0 : Nat) (Z0 : n0 ≤ h0.size) (S_aGUARDED : Sta Z h0 "com/example/graf/graf/routes/RouteKind" "GUARDED" "Lcom/example/graf/graf/routes/RouteKind;" (.ref aGUARDED)) (E_aGUARDED : Exa Z h0 aGUARDED "com/example/graf/graf/routes/RouteKind") (S_aLOGOUT : Sta Z h0 "com/example/graf/graf/routes/RouteKind" "LOGOUT" "Lcom/example/graf/graf/routes/RouteKind;" (.ref aLOGOUT)) (E_aLOGOUT : Exa Z h0 aLOGOUT "com/example/graf/graf/routes/RouteKind") (F_aGUARDED_ordinal : Fld Z h0 aGUARDED "java/lang/Enum" "ordinal" "I" (.int (0 : Int32))) (F_aLOGOUT_ordinal : Fld Z h0 aLOGOUT "java/lang/Enum" "ordinal" "I" (.int (2 : Int32))) (S_aPUBLIC : Sta Z h0 "com/example/graf/graf/routes/RouteKind" "PUBLIC" "Lcom/example/graf/graf/routes/RouteKind;" (.ref aPUBLIC)) (E_aPUBLIC : Exa Z h0 aPUBLIC "com/example/graf/graf/routes/RouteKind") (F_aPUBLIC_ordinal : Fld Z h0 aPUBLIC "java/lang/Enum" "ordinal" "I" (.int (1 : Int32))) (ne_aGUARDED_aLOGOUT : aGUARDED ≠ aLOGOUT) (ne_aGUARDED_aPUBLIC : aGUARDED ≠ aPUBLIC) (ne_aLOGOUT_aPUBLIC : aLOGOUT ≠ aPUBLIC) (S_CS : Sta Z h0 "java/lang/String" "COMPACT_STRINGS" "Z" (.int zc)) (P_CS : ¬ zc.toInt = 0) (HN0 : n0 = h0.size) :
    MetFree l x (head1 (Jvm.Cond.code x code maxLocals ret :: ws) room_1) (fun aa UU => aa = #[(.int k0), (.int c0), (.int c1), (.int sh)] ∧ Z.Warmed39 UU.vm ∧ UU.heap = h0 ∧ UU = Z) (fun _ _ _ _ _ => True) (fun _ UU oo UU' => ∃ vv LL, oo = .returned vv ∧ Q0 Z k0 c0 c1 sh aGUARDED aLOGOUT aPUBLIC zc h0 n0 vv UU'.heap LL ∧ ReturnedEndW UU oo UU' LL 4 10) := by
  refine MetFree.of_bodySF (plainFor_of_name pn_0) hisR ?_
  intro p e s m args below meth c s₁ Bd hml0 hP hK
  obtain ⟨rfl, hZ, hh, hsz⟩ := hP
  have hx := Bd.exec
  have hby := Bd.bytes
  have hlk : meth.locks = false := BodyLoose.notSynchronized Bd
  have hml : c.maxLocals = 10 := hml0
  have hown : s.vm.findClass "com/example/graf/graf/routes/MatchIsLogoutPinLaw" = some m.cls := findClass_of_methodNamed Bd.named
  have hnm := (name_of_methodNamed Bd.named Bd.method).1
  have X0 : Stand p l e room_1 s m #[(.int k0), (.int c0), (.int c1), (.int sh)] below meth c s₁ [] 0 0 := Stand.of_body Bd
  have e0 : s₁.heap = h0 := by rw [← hh, Bd.state]; rfl
  have N0 := Fr.nil n0
  have K0 : Keep h0 h0 [] := Keep.refl h0 _
  refine (?_ : GoW p e below s (Q0 Z k0 c0 c1 sh aGUARDED aLOGOUT aPUBLIC zc h0 n0) 4 10 (s₁.setTop (entryFrame m #[(.int k0), (.int c0), (.int c1), (.int sh)] maxLocals)))
  rw [ef_rm0]
  generalize hQ : Q0 Z k0 c0 c1 sh aGUARDED aLOGOUT aPUBLIC zc h0 n0 = Q
  show GoW p e below s Q 4 10 (s₁.setTop (mkF m 0 #[.val (.int k0), .val (.int c0), .val (.int c1), .val (.int sh), .unset, .unset, .unset, .unset, .unset, .unset] []))
  have f1 := rng32 k0
  have f2 := rng32 c0
  have f3 := rng32 c1
  have f4 := rng32 sh
  refine GoW.st (fun _ k => XS.iloadN X0.here hx rfl (hb hby at_0) rfl k) ?_
  refine GoW.st (fun _ k => XS.iconst X0.here hx rfl (hb hby at_1) k) ?_
  refine GoW.st (fun _ k => XS.iand X0.here hx rfl (hb hby at_2) rfl k) ?_
  refine GoW.st (fun _ k => XS.istore X0.here hx rfl (hb hby at_3) rfl (l' := #[.val (.int k0), .val (.int c0), .val (.int c1), .val (.int sh), .val (.int (k0 &&& (3 : Int32))), .unset, .unset, .unset, .unset, .unset]) rfl k) ?_
  show GoW p e below s Q 4 10 (s₁.setTop (mkF m 5 #[.val (.int k0), .val (.int c0), .val (.int c1), .val (.int sh), .val (.int (k0 &&& (3 : Int32))), .unset, .unset, .unset, .unset, .unset] []))
  have f5 := liI_3
  have f6 : (k0 &&& (3 : Int32)).toInt = k0.toInt % 4 := c_mask k0 (3 : Int32) 2 (by decide) (by decide)
  generalize hv_v7 : (k0 &&& (3 : Int32)) = v7 at f6 ⊢
  have cs8 : v7.toInt = 0 ∨ v7.toInt = 1 ∨ v7.toInt = 2 ∨ v7.toInt = 3 := by omega
  rcases cs8 with cs9 | cs10 | cs11 | cs12
  ·
    have cs9' : v7 = (0 : Int32) := eqI cs9 liI_0 rfl
    subst cs9'
    have f13 := liI_0
    show GoW p e below s Q 4 10 (s₁.setTop (mkF m 5 #[.val (.int k0), .val (.int c0), .val (.int c1), .val (.int sh), .val (.int (0 : Int32)), .unset, .unset, .unset, .unset, .unset] []))
    clear f1 f2 f3 f4 f5 f6 f13
    refine GoW.st (fun _ k => XS.iload X0.here hx rfl (hb hby at_5) rfl k) ?_
    have f15 := liI_0
    obtain ⟨_, _, ⟨T14, L14, k14, n14⟩, -, X14, ⟨Lc14, hQ14, l14, y14, z14⟩, st14⟩ := Jvm.LawKit.callS X0 hx (y := (⟨"com/example/graf/graf/routes/MatchIsLogoutPinLaw", "kindOf", "(I)Lcom/example/graf/graf/routes/RouteKind;"⟩ : MethodName)) hown (mvT hZ (hw _ (List.mem_of_getElem? (i := 0) rfl))) (mvT hZ (hw _ (List.mem_of_getElem? (i := 1) rfl))) (mvT hZ (hw _ (List.mem_of_getElem? (i := 2) rfl))) (mvT hZ (hw _ (List.mem_of_getElem? (i := 3) rfl))) (by decide) (backOf (W := 0) (rmk0 l Z a0 hw [] aGUARDED h0 n0 (Nat.le_trans Z0 K0.1) S_aGUARDED) hZ (hw _ (List.mem_of_getElem? (i := 3) rfl)) (hw _ (List.mem_of_getElem? (i := 2) rfl)) (by decide) (by decide)) (g := (mkF m 7 #[.val (.int k0), .val (.int c0), .val (.int c1), .val (.int sh), .val (.int (0 : Int32)), .unset, .unset, .unset, .unset, .unset] [(.int (0 : Int32))])) rfl (by rw [hml]; rfl) (argsL := [(.int (0 : Int32))]) (rest := []) (lenOf pd_4 rfl) rfl (by show 2 * 0 + _ ≤ _; exact Nat.le_of_eq rfl) (hb hby at_7) (fun _ _ => ⟨rfl, e0, (by decide : 0 + 0 ≤ _), (by decide : 0 + 0 ≤ _)⟩)
    dsimp only [Pt.U, Pt.locs, Pt.cells, Pt.slots] at X14 l14 y14 z14 st14 hQ14
    subst l14 y14 z14
    obtain ⟨rfl, N14q, e14⟩ := hQ14
    have N14 := Fr.app N0 N14q
    refine GoW.st st14 ?_
    show GoW p e below s Q 4 10 (T14.setTop (mkF m 10 #[.val (.int k0), .val (.int c0), .val (.int c1), .val (.int sh), .val (.int (0 : Int32)), .unset, .unset, .unset, .unset, .unset] [(.ref aGUARDED)]))
    refine GoW.st (fun _ k => XS.astore X14.here hx rfl (hb hby at_10) rfl rfl (l' := #[.val (.int k0), .val (.int c0), .val (.int c1), .val (.int sh), .val (.int (0 : Int32)), .val (.ref aGUARDED), .unset, .unset, .unset, .unset]) rfl k) ?_
    refine GoW.st (fun _ k => XS.iconst X14.here hx rfl (hb hby at_12) k) ?_
    have f17 := liI_2
    have r18 : 0 ≤ (2 : Int32).toInt := by decide
    have r19 : (2 : Int32).toNatClampNeg ≤ 2 := by decide
    obtain ⟨T16, h16, k16, X16, e16, E16, A16, st16⟩ := newP X14 hx hZ (hw _ (List.mem_of_getElem? (i := 7) rfl)) e14 (g := (mkF m 13 #[.val (.int k0), .val (.int c0), .val (.int c1), .val (.int sh), .val (.int (0 : Int32)), .val (.ref aGUARDED), .unset, .unset, .unset, .unset] [(.int (2 : Int32))])) rfl (hb hby at_13) rfl (not_neg r18) (cap := 2) r19 (by decide) (by decide) (by decide)
    obtain ⟨b16, g16⟩ : ∃ z, z = h0.size := ⟨_, rfl⟩
    rw [← g16] at A16 st16
    have q20 : aGUARDED ≠ b16 := Nat.ne_of_lt (Nat.lt_of_lt_of_le E_aGUARDED.lt (Nat.le_of_eq g16.symm))
    have q21 : aLOGOUT ≠ b16 := Nat.ne_of_lt (Nat.lt_of_lt_of_le E_aLOGOUT.lt (Nat.le_of_eq g16.symm))
    have q22 : aPUBLIC ≠ b16 := Nat.ne_of_lt (Nat.lt_of_lt_of_le E_aPUBLIC.lt (Nat.le_of_eq g16.symm))
    have h23 : Sta Z h16 "com/example/graf/graf/routes/RouteKind" "GUARDED" "Lcom/example/graf/graf/routes/RouteKind;" (.ref aGUARDED) := S_aGUARDED.ext E16
    have h24 : Exa Z h16 aGUARDED "com/example/graf/graf/routes/RouteKind" := E_aGUARDED.ext E16
    have h25 : Sta Z h16 "com/example/graf/graf/routes/RouteKind" "LOGOUT" "Lcom/example/graf/graf/routes/RouteKind;" (.ref aLOGOUT) := S_aLOGOUT.ext E16
    have h26 : Exa Z h16 aLOGOUT "com/example/graf/graf/routes/RouteKind" := E_aLOGOUT.ext E16
    have h27 : Fld Z h16 aGUARDED "java/lang/Enum" "ordinal" "I" (.int (0 : Int32)) := F_aGUARDED_ordinal.ext E16
    have h28 : Fld Z h16 aLOGOUT "java/lang/Enum" "ordinal" "I" (.int (2 : Int32)) := F_aLOGOUT_ordinal.ext E16
    have h29 : Sta Z h16 "com/example/graf/graf/routes/RouteKind" "PUBLIC" "Lcom/example/graf/graf/routes/RouteKind;" (.ref aPUBLIC) := S_aPUBLIC.ext E16
    have h30 : Exa Z h16 aPUBLIC "com/example/graf/graf/routes/RouteKind" := E_aPUBLIC.ext E16
    have h31 : Fld Z h16 aPUBLIC "java/lang/Enum" "ordinal" "I" (.int (1 : Int32)) := F_aPUBLIC_ordinal.ext E16
    have h32 : Sta Z h16 "java/lang/String" "COMPACT_STRINGS" "Z" (.int zc) := S_CS.ext E16
    have Gb16 : n0 ≤ b16 := Nat.le_trans (Nat.le_trans Z0 K0.1) (Nat.le_of_eq g16.symm)
    have szb16 : h0.size ≤ b16 := Nat.le_trans K0.1 (Nat.le_of_eq g16.symm)
    have K16 : Keep h0 h16 [] := K0.ext E16
    have h33 : Vec Z h16 b16 .char (2 : Int32) (ints (lst [(0 : Int32), (0 : Int32)])) := Vec.zerosI 2 (Vec.new A16 r18)
    refine GoW.st st16 ?_
    show GoW p e below s Q 4 10 (T16.setTop (mkF m 15 #[.val (.int k0), .val (.int c0), .val (.int c1), .val (.int sh), .val (.int (0 : Int32)), .val (.ref aGUARDED), .unset, .unset, .unset, .unset] [(.ref b16)]))
    refine GoW.st (fun _ k => XS.dup X16.here hx rfl (hb hby at_15) rfl rfl k) ?_
    refine GoW.st (fun _ k => XS.iconst X16.here hx rfl (hb hby at_16) k) ?_
    refine GoW.st (fun _ k => XS.iloadN X16.here hx rfl (hb hby at_17) rfl k) ?_
    refine GoW.st (fun _ k => XS.sipush X16.here hx rfl (hb hby at_18) k) ?_
    refine GoW.st (fun _ k => XS.iand X16.here hx rfl (hb hby at_21) rfl k) ?_
    show GoW p e below s Q 4 10 (T16.setTop (mkF m 22 #[.val (.int k0), .val (.int c0), .val (.int c1), .val (.int sh), .val (.int (0 : Int32)), .val (.ref aGUARDED), .unset, .unset, .unset, .unset] [(.int (c0 &&& (255 : Int32))), (.int (0 : Int32)), (.ref b16), (.ref b16)]))
    have f34 := rng32 c0
    have f35 := liI_255
    have f36 : (c0 &&& (255 : Int32)).toInt = c0.toInt % 256 := c_mask c0 (255 : Int32) 8 (by decide) (by decide)
    generalize hv_ca0 : (c0 &&& (255 : Int32)) = ca0 at f36 ⊢
    refine GoW.st (fun _ k => XS.i2c X16.here hx rfl (hb hby at_22) rfl k) ?_
    obtain ⟨T37, h37, X37, e37, W37, V37, st37⟩ := Vec.istC X16 hx hZ e16 h33 (j := (0 : Int32)) (by decide) (by decide) (g := (mkF m 23 #[.val (.int k0), .val (.int c0), .val (.int c1), .val (.int sh), .val (.int (0 : Int32)), .val (.ref aGUARDED), .unset, .unset, .unset, .unset] [(.int (ca0.toUInt32.toUInt16.toUInt32.toInt32)), (.int (0 : Int32)), (.ref b16), (.ref b16)])) rfl rfl (hb hby at_23)
    have h38 : Sta Z h37 "com/example/graf/graf/routes/RouteKind" "GUARDED" "Lcom/example/graf/graf/routes/RouteKind;" (.ref aGUARDED) := h23.wr W37
    have h39 : Exa Z h37 aGUARDED "com/example/graf/graf/routes/RouteKind" := h24.wr W37
    have h40 : Sta Z h37 "com/example/graf/graf/routes/RouteKind" "LOGOUT" "Lcom/example/graf/graf/routes/RouteKind;" (.ref aLOGOUT) := h25.wr W37
    have h41 : Exa Z h37 aLOGOUT "com/example/graf/graf/routes/RouteKind" := h26.wr W37
    have h42 : Fld Z h37 aGUARDED "java/lang/Enum" "ordinal" "I" (.int (0 : Int32)) := h27.other W37 (Or.inl q20)
    have h43 : Fld Z h37 aLOGOUT "java/lang/Enum" "ordinal" "I" (.int (2 : Int32)) := h28.other W37 (Or.inl q21)
    have h44 : Sta Z h37 "com/example/graf/graf/routes/RouteKind" "PUBLIC" "Lcom/example/graf/graf/routes/RouteKind;" (.ref aPUBLIC) := h29.wr W37
    have h45 : Exa Z h37 aPUBLIC "com/example/graf/graf/routes/RouteKind" := h30.wr W37
    have h46 : Fld Z h37 aPUBLIC "java/lang/Enum" "ordinal" "I" (.int (1 : Int32)) := h31.other W37 (Or.inl q22)
    have h47 : Sta Z h37 "java/lang/String" "COMPACT_STRINGS" "Z" (.int zc) := h32.wr W37
    have h48 : Vec Z h37 b16 .char (2 : Int32) (ints (lst [((ca0.toUInt32.toUInt16.toUInt32.toInt32).toUInt32.toUInt16.toUInt32.toInt32), (0 : Int32)])) := Vec.of_eq V37 (congrArg ints (upd_lst _ 0 _ (Nat.le_of_ble_eq_true rfl)))
    have K37 : Keep h0 h37 [] := K16.wr W37 (Or.inr szb16)
    have N37 := Fr.snoc X37 N14 Gb16
    refine GoW.st st37 ?_
    show GoW p e below s Q 4 10 (T37.setTop (mkF m 24 #[.val (.int k0), .val (.int c0), .val (.int c1), .val (.int sh), .val (.int (0 : Int32)), .val (.ref aGUARDED), .unset, .unset, .unset, .unset] [(.ref b16)]))
    have f49 := c_i2c ca0
    have f50 := rng32 (ca0.toUInt32.toUInt16.toUInt32.toInt32)
    have f51 := c_i2c (ca0.toUInt32.toUInt16.toUInt32.toInt32)
    have f52 := rng32 ((ca0.toUInt32.toUInt16.toUInt32.toInt32).toUInt32.toUInt16.toUInt32.toInt32)
    generalize hv_ci0 : ((ca0.toUInt32.toUInt16.toUInt32.toInt32).toUInt32.toUInt16.toUInt32.toInt32) = ci0 at f51 f52 h48
    have hci0 : 0 ≤ ci0.toInt ∧ ci0.toInt ≤ 255 := by omega
    refine GoW.st (fun _ k => XS.dup X37.here hx rfl (hb hby at_24) rfl rfl k) ?_
    refine GoW.st (fun _ k => XS.iconst X37.here hx rfl (hb hby at_25) k) ?_
    refine GoW.st (fun _ k => XS.iloadN X37.here hx rfl (hb hby at_26) rfl k) ?_
    refine GoW.st (fun _ k => XS.sipush X37.here hx rfl (hb hby at_27) k) ?_
    refine GoW.st (fun _ k => XS.iand X37.here hx rfl (hb hby at_30) rfl k) ?_
    show GoW p e below s Q 4 10 (T37.setTop (mkF m 31 #[.val (.int k0), .val (.int c0), .val (.int c1), .val (.int sh), .val (.int (0 : Int32)), .val (.ref aGUARDED), .unset, .unset, .unset, .unset] [(.int (c1 &&& (255 : Int32))), (.int (1 : Int32)), (.ref b16), (.ref b16)]))
    have f53 := rng32 c1
    have f54 : (c1 &&& (255 : Int32)).toInt = c1.toInt % 256 := c_mask c1 (255 : Int32) 8 (by decide) (by decide)
    generalize hv_ca1 : (c1 &&& (255 : Int32)) = ca1 at f54 ⊢
    refine GoW.st (fun _ k => XS.i2c X37.here hx rfl (hb hby at_31) rfl k) ?_
    obtain ⟨T55, h55, X55, e55, W55, V55, st55⟩ := Vec.istC X37 hx hZ e37 h48 (j := (1 : Int32)) (by decide) (by decide) (g := (mkF m 32 #[.val (.int k0), .val (.int c0), .val (.int c1), .val (.int sh), .val (.int (0 : Int32)), .val (.ref aGUARDED), .unset, .unset, .unset, .unset] [(.int (ca1.toUInt32.toUInt16.toUInt32.toInt32)), (.int (1 : Int32)), (.ref b16), (.ref b16)])) rfl rfl (hb hby at_32)
    have h56 : Sta Z h55 "com/example/graf/graf/routes/RouteKind" "GUARDED" "Lcom/example/graf/graf/routes/RouteKind;" (.ref aGUARDED) := h38.wr W55
    have h57 : Exa Z h55 aGUARDED "com/example/graf/graf/routes/RouteKind" := h39.wr W55
    have h58 : Sta Z h55 "com/example/graf/graf/routes/RouteKind" "LOGOUT" "Lcom/example/graf/graf/routes/RouteKind;" (.ref aLOGOUT) := h40.wr W55
    have h59 : Exa Z h55 aLOGOUT "com/example/graf/graf/routes/RouteKind" := h41.wr W55
    have h60 : Fld Z h55 aGUARDED "java/lang/Enum" "ordinal" "I" (.int (0 : Int32)) := h42.other W55 (Or.inl q20)
    have h61 : Fld Z h55 aLOGOUT "java/lang/Enum" "ordinal" "I" (.int (2 : Int32)) := h43.other W55 (Or.inl q21)
    have h62 : Sta Z h55 "com/example/graf/graf/routes/RouteKind" "PUBLIC" "Lcom/example/graf/graf/routes/RouteKind;" (.ref aPUBLIC) := h44.wr W55
    have h63 : Exa Z h55 aPUBLIC "com/example/graf/graf/routes/RouteKind" := h45.wr W55
    have h64 : Fld Z h55 aPUBLIC "java/lang/Enum" "ordinal" "I" (.int (1 : Int32)) := h46.other W55 (Or.inl q22)
    have h65 : Sta Z h55 "java/lang/String" "COMPACT_STRINGS" "Z" (.int zc) := h47.wr W55
    have h66 : Vec Z h55 b16 .char (2 : Int32) (ints (lst [ci0, ((ca1.toUInt32.toUInt16.toUInt32.toInt32).toUInt32.toUInt16.toUInt32.toInt32)])) := Vec.of_eq V55 (congrArg ints (upd_lst _ 1 _ (Nat.le_of_ble_eq_true rfl)))
    have K55 : Keep h0 h55 [] := K37.wr W55 (Or.inr szb16)
    have N55 := Fr.snoc X55 N37 Gb16
    refine GoW.st st55 ?_
    show GoW p e below s Q 4 10 (T55.setTop (mkF m 33 #[.val (.int k0), .val (.int c0), .val (.int c1), .val (.int sh), .val (.int (0 : Int32)), .val (.ref aGUARDED), .unset, .unset, .unset, .unset] [(.ref b16)]))
    have f67 := c_i2c ca1
    have f68 := rng32 (ca1.toUInt32.toUInt16.toUInt32.toInt32)
    have f69 := c_i2c (ca1.toUInt32.toUInt16.toUInt32.toInt32)
    have f70 := rng32 ((ca1.toUInt32.toUInt16.toUInt32.toInt32).toUInt32.toUInt16.toUInt32.toInt32)
    generalize hv_ci1 : ((ca1.toUInt32.toUInt16.toUInt32.toInt32).toUInt32.toUInt16.toUInt32.toInt32) = ci1 at f69 f70 h66
    have hci1 : 0 ≤ ci1.toInt ∧ ci1.toInt ≤ 255 := by omega
    have hcs : ∀ j : Nat, 0 ≤ ((lst [ci0, ci1]) j).toInt ∧ ((lst [ci0, ci1]) j).toInt ≤ 255 := fun j => match j with | 0 => hci0 | 1 => hci1 | (n + 2) => by have q : (lst [ci0, ci1]) (n + 2) = 0 := rfl; rw [q]; decide
    clear f15 f17 f34 f35 f36 f49 f50 f51 f52 f53 f54 f67 f68 f69 f70
    refine GoW.st (fun _ k => XS.astore X55.here hx rfl (hb hby at_33) rfl rfl (l' := #[.val (.int k0), .val (.int c0), .val (.int c1), .val (.int sh), .val (.int (0 : Int32)), .val (.ref aGUARDED), .val (.ref b16), .unset, .unset, .unset]) rfl k) ?_
    refine GoW.st (fun _ k => XS.iloadN X55.here hx rfl (hb hby at_35) rfl k) ?_
    refine GoW.st (fun _ k => XS.iconst X55.here hx rfl (hb hby at_36) k) ?_
    refine GoW.st (fun _ k => XS.iand X55.here hx rfl (hb hby at_37) rfl k) ?_
    have f71 := rng32 sh
    have f72 := liI_1
    have f73 : (sh &&& (1 : Int32)).toInt = sh.toInt % 2 := c_mask sh (1 : Int32) 1 (by decide) (by decide)
    have f74 := liI_0
    by_cases c75 : (sh &&& (1 : Int32)).toInt = 0
    ·
      refine GoW.st (fun _ k => XS.ifYes X55.here hx rfl (pc0 := 38) (pc' := 55) rfl (hb hby at_38) rfl ((if0 _ _).trans (teq (eqI rfl liI_0 c75)).1) (by decide) (by decide) k) ?_
      refine GoW.st (fun _ k => XS.iloadN X55.here hx rfl (hb hby at_55) rfl k) ?_
      show GoW p e below s Q 4 10 (T55.setTop (mkF m 56 #[.val (.int k0), .val (.int c0), .val (.int c1), .val (.int sh), .val (.int (0 : Int32)), .val (.ref aGUARDED), .val (.ref b16), .unset, .unset, .unset] [(.int sh)]))
      refine GoW.st (fun _ k => XS.iconst X55.here hx rfl (hb hby at_56) k) ?_
      refine GoW.st (fun _ k => XS.iand X55.here hx rfl (hb hby at_57) rfl k) ?_
      have f76 := liI_2
      have f77 := c_and sh (2 : Int32) (by decide)
      by_cases c78 : (sh &&& (2 : Int32)).toInt = 0
      ·
        refine GoW.st (fun _ k => XS.ifYes X55.here hx rfl (pc0 := 58) (pc' := 68) rfl (hb hby at_58) rfl ((if0 _ _).trans (teq (eqI rfl liI_0 c78)).1) (by decide) (by decide) k) ?_
        refine GoW.st (fun _ k => XS.aconstNull X55.here hx rfl (hb hby at_68) k) ?_
        refine GoW.st (fun _ k => XS.astore X55.here hx rfl (hb hby at_69) rfl rfl (l' := #[.val (.int k0), .val (.int c0), .val (.int c1), .val (.int sh), .val (.int (0 : Int32)), .val (.ref aGUARDED), .val (.ref b16), .val .null, .unset, .unset]) rfl k) ?_
        obtain ⟨T79, h79, X79, e79, E79, A79, D79, -, st79⟩ := newO X55 hx hZ hown (hw _ (List.mem_of_getElem? (i := 37) rfl)) (hw _ (List.mem_of_getElem? (i := 38) rfl)) (hw _ (List.mem_of_getElem? (i := 39) rfl)) e55 (g := (mkF m 71 #[.val (.int k0), .val (.int c0), .val (.int c1), .val (.int sh), .val (.int (0 : Int32)), .val (.ref aGUARDED), .val (.ref b16), .val .null, .unset, .unset] [])) rfl (hb hby at_71) (by decide) (by decide)
        obtain ⟨b79, g79⟩ : ∃ z, z = h55.size := ⟨_, rfl⟩
        rw [← g79] at A79 D79 st79
        have q80 : aGUARDED ≠ b79 := Nat.ne_of_lt (Nat.lt_of_lt_of_le h57.lt (Nat.le_of_eq g79.symm))
        have q81 : aLOGOUT ≠ b79 := Nat.ne_of_lt (Nat.lt_of_lt_of_le h59.lt (Nat.le_of_eq g79.symm))
        have q82 : aPUBLIC ≠ b79 := Nat.ne_of_lt (Nat.lt_of_lt_of_le h63.lt (Nat.le_of_eq g79.symm))
        have q83 : b16 ≠ b79 := Nat.ne_of_lt (Nat.lt_of_lt_of_le h66.lt (Nat.le_of_eq g79.symm))
        have h84 : Sta Z h79 "com/example/graf/graf/routes/RouteKind" "GUARDED" "Lcom/example/graf/graf/routes/RouteKind;" (.ref aGUARDED) := h56.ext E79
        have h85 : Exa Z h79 aGUARDED "com/example/graf/graf/routes/RouteKind" := h57.ext E79
        have h86 : Sta Z h79 "com/example/graf/graf/routes/RouteKind" "LOGOUT" "Lcom/example/graf/graf/routes/RouteKind;" (.ref aLOGOUT) := h58.ext E79
        have h87 : Exa Z h79 aLOGOUT "com/example/graf/graf/routes/RouteKind" := h59.ext E79
        have h88 : Fld Z h79 aGUARDED "java/lang/Enum" "ordinal" "I" (.int (0 : Int32)) := h60.ext E79
        have h89 : Fld Z h79 aLOGOUT "java/lang/Enum" "ordinal" "I" (.int (2 : Int32)) := h61.ext E79
        have h90 : Sta Z h79 "com/example/graf/graf/routes/RouteKind" "PUBLIC" "Lcom/example/graf/graf/routes/RouteKind;" (.ref aPUBLIC) := h62.ext E79
        have h91 : Exa Z h79 aPUBLIC "com/example/graf/graf/routes/RouteKind" := h63.ext E79
        have h92 : Fld Z h79 aPUBLIC "java/lang/Enum" "ordinal" "I" (.int (1 : Int32)) := h64.ext E79
        have h93 : Sta Z h79 "java/lang/String" "COMPACT_STRINGS" "Z" (.int zc) := h65.ext E79
        have h94 : Vec Z h79 b16 .char (2 : Int32) (ints (lst [ci0, ci1])) := h66.ext E79
        have Gb79 : n0 ≤ b79 := Nat.le_trans (Nat.le_trans Z0 K55.1) (Nat.le_of_eq g79.symm)
        have szb79 : h0.size ≤ b79 := Nat.le_trans K55.1 (Nat.le_of_eq g79.symm)
        have K79 : Keep h0 h79 [] := K55.ext E79
        have h95 : Fld Z h79 b79 "com/example/graf/graf/routes/Match" "node" "Ljava/lang/String;" .null := D79 (Or.inr (hw _ (List.mem_of_getElem? (i := 45) rfl))) (ty := (.object "java/lang/String")) (by decide)
        have h96 : Fld Z h79 b79 "com/example/graf/graf/routes/Match" "kind" "Lcom/example/graf/graf/routes/RouteKind;" .null := D79 (Or.inr (hw _ (List.mem_of_getElem? (i := 47) rfl))) (ty := (.object "com/example/graf/graf/routes/RouteKind")) (by decide)
        refine GoW.st st79 ?_
        show GoW p e below s Q 4 10 (T79.setTop (mkF m 74 #[.val (.int k0), .val (.int c0), .val (.int c1), .val (.int sh), .val (.int (0 : Int32)), .val (.ref aGUARDED), .val (.ref b16), .val .null, .unset, .unset] [(.ref b79)]))
        refine GoW.st (fun _ k => XS.dup X79.here hx rfl (hb hby at_74) rfl rfl k) ?_
        refine GoW.st (fun _ k => XS.aload X79.here hx rfl (hb hby at_75) rfl rfl k) ?_
        refine GoW.st (fun _ k => XS.aload X79.here hx rfl (hb hby at_77) rfl rfl k) ?_
        obtain ⟨_, _, ⟨T97, L97, k97, n97⟩, -, X97, ⟨Lc97, hQ97, l97, y97, z97⟩, st97⟩ := X79.specialBack hx (y := (⟨"com/example/graf/graf/routes/Match", "<init>", "(Ljava/lang/String;Lcom/example/graf/graf/routes/RouteKind;)V"⟩ : MethodName)) rfl hown (mvT hZ (hw _ (List.mem_of_getElem? (i := 40) rfl))) (mvT hZ (hw _ (List.mem_of_getElem? (i := 41) rfl))) (mvT hZ (hw _ (List.mem_of_getElem? (i := 42) rfl))) (by decide) (backOf (W := 1) (rmm01 l Z a0 hw [] b79 aGUARDED h79 n0 (Nat.le_trans Z0 K79.1) h95 h96 A79 Gb79) hZ (hw _ (List.mem_of_getElem? (i := 42) rfl)) (hw _ (List.mem_of_getElem? (i := 39) rfl)) (by decide) (by decide)) (g := (mkF m 79 #[.val (.int k0), .val (.int c0), .val (.int c1), .val (.int sh), .val (.int (0 : Int32)), .val (.ref aGUARDED), .val (.ref b16), .val .null, .unset, .unset] [(.ref aGUARDED), .null, (.ref b79), (.ref b79)])) rfl (by rw [hml]; rfl) (Steps.refl _) (a := b79) (argsL := [.null, (.ref aGUARDED)]) (rest := [(.ref b79)]) (lenOf pd_5 rfl) rfl (by show 2 * 0 + _ ≤ _; exact Nat.le_of_eq rfl) (hb hby at_79) (fun _ _ => ⟨rfl, e79, (by decide : 2 + 0 ≤ _), (by decide : 4 + 0 ≤ _)⟩)
        dsimp only [Pt.U, Pt.locs, Pt.cells, Pt.slots] at X97 l97 y97 z97 st97 hQ97
        subst l97 y97 z97
        obtain ⟨rfl, N97q, K97q, h98, h99⟩ := hQ97
        have N97 := Fr.app N55 N97q
        have h100 : Sta Z T97.heap "com/example/graf/graf/routes/RouteKind" "GUARDED" "Lcom/example/graf/graf/routes/RouteKind;" (.ref aGUARDED) := Jvm.OwnGo.sta_keep h84 K97q (fun x hx => (allS (P := fun x => Exi h79 x) (exi_exa A79) all0) x hx)
        have h101 : Exa Z T97.heap aGUARDED "com/example/graf/graf/routes/RouteKind" := h85.keep K97q
        have h102 : Sta Z T97.heap "com/example/graf/graf/routes/RouteKind" "LOGOUT" "Lcom/example/graf/graf/routes/RouteKind;" (.ref aLOGOUT) := Jvm.OwnGo.sta_keep h86 K97q (fun x hx => (allS (P := fun x => Exi h79 x) (exi_exa A79) all0) x hx)
        have h103 : Exa Z T97.heap aLOGOUT "com/example/graf/graf/routes/RouteKind" := h87.keep K97q
        have h104 : Fld Z T97.heap aGUARDED "java/lang/Enum" "ordinal" "I" (.int (0 : Int32)) := h88.keep K97q (ninS q80 nin0)
        have h105 : Fld Z T97.heap aLOGOUT "java/lang/Enum" "ordinal" "I" (.int (2 : Int32)) := h89.keep K97q (ninS q81 nin0)
        have h106 : Sta Z T97.heap "com/example/graf/graf/routes/RouteKind" "PUBLIC" "Lcom/example/graf/graf/routes/RouteKind;" (.ref aPUBLIC) := Jvm.OwnGo.sta_keep h90 K97q (fun x hx => (allS (P := fun x => Exi h79 x) (exi_exa A79) all0) x hx)
        have h107 : Exa Z T97.heap aPUBLIC "com/example/graf/graf/routes/RouteKind" := h91.keep K97q
        have h108 : Fld Z T97.heap aPUBLIC "java/lang/Enum" "ordinal" "I" (.int (1 : Int32)) := h92.keep K97q (ninS q82 nin0)
        have h109 : Sta Z T97.heap "java/lang/String" "COMPACT_STRINGS" "Z" (.int zc) := Jvm.OwnGo.sta_keep h93 K97q (fun x hx => (allS (P := fun x => Exi h79 x) (exi_exa A79) all0) x hx)
        have h110 : Vec Z T97.heap b16 .char (2 : Int32) (ints (lst [ci0, ci1])) := h94.keep K97q (ninS q83 nin0)
        have K97 : Keep h0 T97.heap [] := K79.trans K97q (fun x hx => (show ∀ x ∈ ([b79] : List Addr), x ∈ ([] : List Addr) ∨ h0.size ≤ x from (allS (Or.inr szb79) all0)) x hx)
        refine GoW.tr  st97 ?_
        show GoW p e below s Q 4 10 (T97.setTop (mkF m 82 #[.val (.int k0), .val (.int c0), .val (.int c1), .val (.int sh), .val (.int (0 : Int32)), .val (.ref aGUARDED), .val (.ref b16), .val .null, .unset, .unset] [(.ref b79)]))
        refine GoW.st (fun _ k => XS.astore X97.here hx rfl (hb hby at_82) rfl rfl (l' := #[.val (.int k0), .val (.int c0), .val (.int c1), .val (.int sh), .val (.int (0 : Int32)), .val (.ref aGUARDED), .val (.ref b16), .val .null, .val (.ref b79), .unset]) rfl k) ?_
        refine GoW.st (fun _ k => XS.iload X97.here hx rfl (hb hby at_84) rfl k) ?_
        refine GoW.st (fun _ k => XS.iconst X97.here hx rfl (hb hby at_86) k) ?_
        refine GoW.st (fun _ k => XS.icmpYes X97.here hx rfl (pc0 := 87) (pc' := 94) rfl (hb hby at_87) rfl (feq (neI liI_0 liI_2 (by decide))).2 (by decide) (by decide) k) ?_
        refine GoW.st (fun _ k => XS.iconst X97.here hx rfl (hb hby at_94) k) ?_
        refine GoW.st (fun _ k => XS.istore X97.here hx rfl (hb hby at_95) rfl (l' := #[.val (.int k0), .val (.int c0), .val (.int c1), .val (.int sh), .val (.int (0 : Int32)), .val (.ref aGUARDED), .val (.ref b16), .val .null, .val (.ref b79), .val (.int (0 : Int32))]) rfl k) ?_
        show GoW p e below s Q 4 10 (T97.setTop (mkF m 97 #[.val (.int k0), .val (.int c0), .val (.int c1), .val (.int sh), .val (.int (0 : Int32)), .val (.ref aGUARDED), .val (.ref b16), .val .null, .val (.ref b79), .val (.int (0 : Int32))] []))
        refine GoW.st (fun _ k => XS.aload X97.here hx rfl (hb hby at_97) rfl rfl k) ?_
        obtain ⟨cq111, kq111, q111a, q111b, q111c⟩ := isOf hZ rfl h99
        obtain ⟨_, _, ⟨T111, L111, k111, n111⟩, -, X111, ⟨Lc111, hQ111, l111, y111, z111⟩, st111⟩ := X97.virtualBack hx (y := (⟨"com/example/graf/graf/routes/Match", "isLogout", "()Z"⟩ : MethodName)) (z := (⟨"com/example/graf/graf/routes/Match", "isLogout", "()Z"⟩ : MethodName)) hown (mvT hZ (hw _ (List.mem_of_getElem? (i := 48) rfl))) (mvT hZ (hw _ (List.mem_of_getElem? (i := 49) rfl))) (notFace_of_selects (args := #[]) (mvT hZ (hw _ (List.mem_of_getElem? (i := 51) rfl)))) (mvT hZ (hw _ (List.mem_of_getElem? (i := 51) rfl))) (mvT hZ (hw _ (List.mem_of_getElem? (i := 50) rfl))) (by decide) (backOf (W := 0) (rmlo l Z a0 hw [] b79 aLOGOUT aGUARDED T97.heap n0 (Nat.le_trans Z0 K97.1) h98 h102 ne_aGUARDED_aLOGOUT) hZ (hw _ (List.mem_of_getElem? (i := 52) rfl)) (hw _ (List.mem_of_getElem? (i := 39) rfl)) (by decide) (by decide)) q111a q111c (g := (mkF m 99 #[.val (.int k0), .val (.int c0), .val (.int c1), .val (.int sh), .val (.int (0 : Int32)), .val (.ref aGUARDED), .val (.ref b16), .val .null, .val (.ref b79), .val (.int (0 : Int32))] [(.ref b79)])) rfl (by rw [hml]; rfl) (Steps.refl _) (argsL := []) (rest := []) (lenOf pd_6 rfl) rfl (by show 2 * 0 + _ ≤ _; exact Nat.le_of_eq rfl) (hb hby at_99) (fun _ _ => ⟨rfl, rfl, (by decide : 2 + 0 ≤ _), (by decide : 4 + 0 ≤ _)⟩)
        dsimp only [Pt.U, Pt.locs, Pt.cells, Pt.slots] at X111 l111 y111 z111 st111 hQ111
        subst l111 y111 z111
        obtain ⟨rfl, N111q, e111⟩ := hQ111
        have N111 := Fr.app N97 N111q
        refine GoW.tr  st111 ?_
        show GoW p e below s Q 4 10 (T111.setTop (mkF m 102 #[.val (.int k0), .val (.int c0), .val (.int c1), .val (.int sh), .val (.int (0 : Int32)), .val (.ref aGUARDED), .val (.ref b16), .val .null, .val (.ref b79), .val (.int (0 : Int32))] [(.int (0 : Int32))]))
        refine GoW.st (fun _ k => XS.iload X111.here hx rfl (hb hby at_102) rfl k) ?_
        refine GoW.st (fun _ k => XS.icmpNo X111.here hx rfl (hb hby at_104) rfl (teq (eqI liI_0 liI_0 (by decide))).2 k) ?_
        refine GoW.st (fun _ k => XS.iconst X111.here hx rfl (hb hby at_107) k) ?_
        refine GoW.st (fun _ k => XS.goto X111.here hx rfl (pc0 := 108) (pc' := 112) rfl (hb hby at_108) (by decide) (by decide) k) ?_
        show GoW p e below s Q 4 10 (T111.setTop (mkF m 112 #[.val (.int k0), .val (.int c0), .val (.int c1), .val (.int sh), .val (.int (0 : Int32)), .val (.ref aGUARDED), .val (.ref b16), .val .null, .val (.ref b79), .val (.int (0 : Int32))] [(.int (1 : Int32))]))
        exact GoW.retN (since0 s) (vm0 := s.vm) X111 (Nat.zero_le _) hx hlk (by simp) Bd.returns (hb hby at_112) (z' := (1 : Int32)) (by decide) (by rw [← hQ, e111]; exact ⟨rfl, N111, K97⟩) (by decide) (by decide)
      ·
        refine GoW.st (fun _ k => XS.ifNo X55.here hx rfl (hb hby at_58) rfl ((if0 _ _).trans (feq (neI rfl liI_0 c78)).1) k) ?_
        obtain ⟨b112, T112, h112, k112, X112, e112, E112, hS112, hk112, hZ112, hown112, st112⟩ := ldcS (s := s) (vm0 := s.vm) X55 hx hZ hown (hw _ (List.mem_of_getElem? (i := 55) rfl)) (wStr hw) e55 (since0 s) (Nat.zero_le _) (g := (mkF m 61 #[.val (.int k0), .val (.int c0), .val (.int c1), .val (.int sh), .val (.int (0 : Int32)), .val (.ref aGUARDED), .val (.ref b16), .unset, .unset, .unset] [])) rfl (hb hby at_61) (n := 0) (by decide) (by decide) (by decide) (by decide)
        have h113 : Sta Z h112 "com/example/graf/graf/routes/RouteKind" "GUARDED" "Lcom/example/graf/graf/routes/RouteKind;" (.ref aGUARDED) := h56.ext E112
        have h114 : Exa Z h112 aGUARDED "com/example/graf/graf/routes/RouteKind" := h57.ext E112
        have h115 : Sta Z h112 "com/example/graf/graf/routes/RouteKind" "LOGOUT" "Lcom/example/graf/graf/routes/RouteKind;" (.ref aLOGOUT) := h58.ext E112
        have h116 : Exa Z h112 aLOGOUT "com/example/graf/graf/routes/RouteKind" := h59.ext E112
        have h117 : Fld Z h112 aGUARDED "java/lang/Enum" "ordinal" "I" (.int (0 : Int32)) := h60.ext E112
        have h118 : Fld Z h112 aLOGOUT "java/lang/Enum" "ordinal" "I" (.int (2 : Int32)) := h61.ext E112
        have h119 : Sta Z h112 "com/example/graf/graf/routes/RouteKind" "PUBLIC" "Lcom/example/graf/graf/routes/RouteKind;" (.ref aPUBLIC) := h62.ext E112
        have h120 : Exa Z h112 aPUBLIC "com/example/graf/graf/routes/RouteKind" := h63.ext E112
        have h121 : Fld Z h112 aPUBLIC "java/lang/Enum" "ordinal" "I" (.int (1 : Int32)) := h64.ext E112
        have h122 : Sta Z h112 "java/lang/String" "COMPACT_STRINGS" "Z" (.int zc) := h65.ext E112
        have h123 : Vec Z h112 b16 .char (2 : Int32) (ints (lst [ci0, ci1])) := h66.ext E112
        have K112 : Keep h0 h112 [] := K55.ext E112
        refine GoW.st st112 ?_
        show GoW p e below s Q 4 10 (T112.setTop (mkF m 63 #[.val (.int k0), .val (.int c0), .val (.int c1), .val (.int sh), .val (.int (0 : Int32)), .val (.ref aGUARDED), .val (.ref b16), .unset, .unset, .unset] [(.ref b112)]))
        refine GoW.st (fun _ k => XS.astore X112.here hx rfl (hb hby at_63) rfl rfl (l' := #[.val (.int k0), .val (.int c0), .val (.int c1), .val (.int sh), .val (.int (0 : Int32)), .val (.ref aGUARDED), .val (.ref b16), .val (.ref b112), .unset, .unset]) rfl k) ?_
        refine GoW.st (fun _ k => XS.goto X112.here hx rfl (pc0 := 65) (pc' := 71) rfl (hb hby at_65) (by decide) (by decide) k) ?_
        obtain ⟨T124, h124, X124, e124, E124, A124, D124, -, st124⟩ := newO X112 hx hZ112 hown112 (hw _ (List.mem_of_getElem? (i := 37) rfl)) (hw _ (List.mem_of_getElem? (i := 38) rfl)) (hw _ (List.mem_of_getElem? (i := 39) rfl)) e112 (g := (mkF m 71 #[.val (.int k0), .val (.int c0), .val (.int c1), .val (.int sh), .val (.int (0 : Int32)), .val (.ref aGUARDED), .val (.ref b16), .val (.ref b112), .unset, .unset] [])) rfl (hb hby at_71) (by decide) (by decide)
        obtain ⟨b124, g124⟩ : ∃ z, z = h112.size := ⟨_, rfl⟩
        rw [← g124] at A124 D124 st124
        have q125 : aGUARDED ≠ b124 := Nat.ne_of_lt (Nat.lt_of_lt_of_le h114.lt (Nat.le_of_eq g124.symm))
        have q126 : aLOGOUT ≠ b124 := Nat.ne_of_lt (Nat.lt_of_lt_of_le h116.lt (Nat.le_of_eq g124.symm))
        have q127 : aPUBLIC ≠ b124 := Nat.ne_of_lt (Nat.lt_of_lt_of_le h120.lt (Nat.le_of_eq g124.symm))
        have q128 : b16 ≠ b124 := Nat.ne_of_lt (Nat.lt_of_lt_of_le h123.lt (Nat.le_of_eq g124.symm))
        have h129 : Sta Z h124 "com/example/graf/graf/routes/RouteKind" "GUARDED" "Lcom/example/graf/graf/routes/RouteKind;" (.ref aGUARDED) := h113.ext E124
        have h130 : Exa Z h124 aGUARDED "com/example/graf/graf/routes/RouteKind" := h114.ext E124
        have h131 : Sta Z h124 "com/example/graf/graf/routes/RouteKind" "LOGOUT" "Lcom/example/graf/graf/routes/RouteKind;" (.ref aLOGOUT) := h115.ext E124
        have h132 : Exa Z h124 aLOGOUT "com/example/graf/graf/routes/RouteKind" := h116.ext E124
        have h133 : Fld Z h124 aGUARDED "java/lang/Enum" "ordinal" "I" (.int (0 : Int32)) := h117.ext E124
        have h134 : Fld Z h124 aLOGOUT "java/lang/Enum" "ordinal" "I" (.int (2 : Int32)) := h118.ext E124
        have h135 : Sta Z h124 "com/example/graf/graf/routes/RouteKind" "PUBLIC" "Lcom/example/graf/graf/routes/RouteKind;" (.ref aPUBLIC) := h119.ext E124
        have h136 : Exa Z h124 aPUBLIC "com/example/graf/graf/routes/RouteKind" := h120.ext E124
        have h137 : Fld Z h124 aPUBLIC "java/lang/Enum" "ordinal" "I" (.int (1 : Int32)) := h121.ext E124
        have h138 : Sta Z h124 "java/lang/String" "COMPACT_STRINGS" "Z" (.int zc) := h122.ext E124
        have h139 : Vec Z h124 b16 .char (2 : Int32) (ints (lst [ci0, ci1])) := h123.ext E124
        have h140 : k112 ≤ h124.size := Nat.le_trans hk112 E124.1
        have Gb124 : n0 ≤ b124 := Nat.le_trans (Nat.le_trans Z0 K112.1) (Nat.le_of_eq g124.symm)
        have szb124 : h0.size ≤ b124 := Nat.le_trans K112.1 (Nat.le_of_eq g124.symm)
        have K124 : Keep h0 h124 [] := K112.ext E124
        have h141 : Fld Z h124 b124 "com/example/graf/graf/routes/Match" "node" "Ljava/lang/String;" .null := D124 (Or.inr (hw _ (List.mem_of_getElem? (i := 45) rfl))) (ty := (.object "java/lang/String")) (by decide)
        have h142 : Fld Z h124 b124 "com/example/graf/graf/routes/Match" "kind" "Lcom/example/graf/graf/routes/RouteKind;" .null := D124 (Or.inr (hw _ (List.mem_of_getElem? (i := 47) rfl))) (ty := (.object "com/example/graf/graf/routes/RouteKind")) (by decide)
        refine GoW.st st124 ?_
        show GoW p e below s Q 4 10 (T124.setTop (mkF m 74 #[.val (.int k0), .val (.int c0), .val (.int c1), .val (.int sh), .val (.int (0 : Int32)), .val (.ref aGUARDED), .val (.ref b16), .val (.ref b112), .unset, .unset] [(.ref b124)]))
        refine GoW.st (fun _ k => XS.dup X124.here hx rfl (hb hby at_74) rfl rfl k) ?_
        refine GoW.st (fun _ k => XS.aload X124.here hx rfl (hb hby at_75) rfl rfl k) ?_
        refine GoW.st (fun _ k => XS.aload X124.here hx rfl (hb hby at_77) rfl rfl k) ?_
        obtain ⟨_, _, ⟨T143, L143, k143, n143⟩, -, X143, ⟨Lc143, hQ143, l143, y143, z143⟩, st143⟩ := X124.specialBack hx (y := (⟨"com/example/graf/graf/routes/Match", "<init>", "(Ljava/lang/String;Lcom/example/graf/graf/routes/RouteKind;)V"⟩ : MethodName)) rfl hown112 (mvT hZ112 (hw _ (List.mem_of_getElem? (i := 40) rfl))) (mvT hZ112 (hw _ (List.mem_of_getElem? (i := 41) rfl))) (mvT hZ112 (hw _ (List.mem_of_getElem? (i := 42) rfl))) (by decide) (backOf (W := 1) (rmm11 l Z a0 hw [] b124 b112 aGUARDED h124 n0 (Nat.le_trans Z0 K124.1) h141 h142 A124 Gb124) hZ112 (hw _ (List.mem_of_getElem? (i := 42) rfl)) (hw _ (List.mem_of_getElem? (i := 39) rfl)) (by decide) (by decide)) (g := (mkF m 79 #[.val (.int k0), .val (.int c0), .val (.int c1), .val (.int sh), .val (.int (0 : Int32)), .val (.ref aGUARDED), .val (.ref b16), .val (.ref b112), .unset, .unset] [(.ref aGUARDED), (.ref b112), (.ref b124), (.ref b124)])) rfl (by rw [hml]; rfl) (Steps.refl _) (a := b124) (argsL := [(.ref b112), (.ref aGUARDED)]) (rest := [(.ref b124)]) (lenOf pd_5 rfl) rfl (by show 2 * 0 + _ ≤ _; exact Nat.le_of_eq rfl) (hb hby at_79) (fun _ _ => ⟨rfl, e124, (by decide : 4 + 0 ≤ _), (by decide : 8 + 0 ≤ _)⟩)
        dsimp only [Pt.U, Pt.locs, Pt.cells, Pt.slots] at X143 l143 y143 z143 st143 hQ143
        subst l143 y143 z143
        obtain ⟨rfl, N143q, K143q, h144, h145⟩ := hQ143
        have N143 := Fr.app N55 N143q
        have h146 : Sta Z T143.heap "com/example/graf/graf/routes/RouteKind" "GUARDED" "Lcom/example/graf/graf/routes/RouteKind;" (.ref aGUARDED) := Jvm.OwnGo.sta_keep h129 K143q (fun x hx => (allS (P := fun x => Exi h124 x) (exi_exa A124) all0) x hx)
        have h147 : Exa Z T143.heap aGUARDED "com/example/graf/graf/routes/RouteKind" := h130.keep K143q
        have h148 : Sta Z T143.heap "com/example/graf/graf/routes/RouteKind" "LOGOUT" "Lcom/example/graf/graf/routes/RouteKind;" (.ref aLOGOUT) := Jvm.OwnGo.sta_keep h131 K143q (fun x hx => (allS (P := fun x => Exi h124 x) (exi_exa A124) all0) x hx)
        have h149 : Exa Z T143.heap aLOGOUT "com/example/graf/graf/routes/RouteKind" := h132.keep K143q
        have h150 : Fld Z T143.heap aGUARDED "java/lang/Enum" "ordinal" "I" (.int (0 : Int32)) := h133.keep K143q (ninS q125 nin0)
        have h151 : Fld Z T143.heap aLOGOUT "java/lang/Enum" "ordinal" "I" (.int (2 : Int32)) := h134.keep K143q (ninS q126 nin0)
        have h152 : Sta Z T143.heap "com/example/graf/graf/routes/RouteKind" "PUBLIC" "Lcom/example/graf/graf/routes/RouteKind;" (.ref aPUBLIC) := Jvm.OwnGo.sta_keep h135 K143q (fun x hx => (allS (P := fun x => Exi h124 x) (exi_exa A124) all0) x hx)
        have h153 : Exa Z T143.heap aPUBLIC "com/example/graf/graf/routes/RouteKind" := h136.keep K143q
        have h154 : Fld Z T143.heap aPUBLIC "java/lang/Enum" "ordinal" "I" (.int (1 : Int32)) := h137.keep K143q (ninS q127 nin0)
        have h155 : Sta Z T143.heap "java/lang/String" "COMPACT_STRINGS" "Z" (.int zc) := Jvm.OwnGo.sta_keep h138 K143q (fun x hx => (allS (P := fun x => Exi h124 x) (exi_exa A124) all0) x hx)
        have h156 : Vec Z T143.heap b16 .char (2 : Int32) (ints (lst [ci0, ci1])) := h139.keep K143q (ninS q128 nin0)
        have h157 : k112 ≤ T143.heap.size := Nat.le_trans h140 K143q.1
        have K143 : Keep h0 T143.heap [] := K124.trans K143q (fun x hx => (show ∀ x ∈ ([b124] : List Addr), x ∈ ([] : List Addr) ∨ h0.size ≤ x from (allS (Or.inr szb124) all0)) x hx)
        refine GoW.tr  st143 ?_
        show GoW p e below s Q 4 10 (T143.setTop (mkF m 82 #[.val (.int k0), .val (.int c0), .val (.int c1), .val (.int sh), .val (.int (0 : Int32)), .val (.ref aGUARDED), .val (.ref b16), .val (.ref b112), .unset, .unset] [(.ref b124)]))
        refine GoW.st (fun _ k => XS.astore X143.here hx rfl (hb hby at_82) rfl rfl (l' := #[.val (.int k0), .val (.int c0), .val (.int c1), .val (.int sh), .val (.int (0 : Int32)), .val (.ref aGUARDED), .val (.ref b16), .val (.ref b112), .val (.ref b124), .unset]) rfl k) ?_
        refine GoW.st (fun _ k => XS.iload X143.here hx rfl (hb hby at_84) rfl k) ?_
        refine GoW.st (fun _ k => XS.iconst X143.here hx rfl (hb hby at_86) k) ?_
        refine GoW.st (fun _ k => XS.icmpYes X143.here hx rfl (pc0 := 87) (pc' := 94) rfl (hb hby at_87) rfl (feq (neI liI_0 liI_2 (by decide))).2 (by decide) (by decide) k) ?_
        refine GoW.st (fun _ k => XS.iconst X143.here hx rfl (hb hby at_94) k) ?_
        refine GoW.st (fun _ k => XS.istore X143.here hx rfl (hb hby at_95) rfl (l' := #[.val (.int k0), .val (.int c0), .val (.int c1), .val (.int sh), .val (.int (0 : Int32)), .val (.ref aGUARDED), .val (.ref b16), .val (.ref b112), .val (.ref b124), .val (.int (0 : Int32))]) rfl k) ?_
        show GoW p e below s Q 4 10 (T143.setTop (mkF m 97 #[.val (.int k0), .val (.int c0), .val (.int c1), .val (.int sh), .val (.int (0 : Int32)), .val (.ref aGUARDED), .val (.ref b16), .val (.ref b112), .val (.ref b124), .val (.int (0 : Int32))] []))
        refine GoW.st (fun _ k => XS.aload X143.here hx rfl (hb hby at_97) rfl rfl k) ?_
        obtain ⟨cq158, kq158, q158a, q158b, q158c⟩ := isOf hZ112 rfl h145
        obtain ⟨_, _, ⟨T158, L158, k158, n158⟩, -, X158, ⟨Lc158, hQ158, l158, y158, z158⟩, st158⟩ := X143.virtualBack hx (y := (⟨"com/example/graf/graf/routes/Match", "isLogout", "()Z"⟩ : MethodName)) (z := (⟨"com/example/graf/graf/routes/Match", "isLogout", "()Z"⟩ : MethodName)) hown112 (mvT hZ112 (hw _ (List.mem_of_getElem? (i := 48) rfl))) (mvT hZ112 (hw _ (List.mem_of_getElem? (i := 49) rfl))) (notFace_of_selects (args := #[]) (mvT hZ112 (hw _ (List.mem_of_getElem? (i := 51) rfl)))) (mvT hZ112 (hw _ (List.mem_of_getElem? (i := 51) rfl))) (mvT hZ112 (hw _ (List.mem_of_getElem? (i := 50) rfl))) (by decide) (backOf (W := 0) (rmlo l Z a0 hw [] b124 aLOGOUT aGUARDED T143.heap n0 (Nat.le_trans Z0 K143.1) h144 h148 ne_aGUARDED_aLOGOUT) hZ112 (hw _ (List.mem_of_getElem? (i := 52) rfl)) (hw _ (List.mem_of_getElem? (i := 39) rfl)) (by decide) (by decide)) q158a q158c (g := (mkF m 99 #[.val (.int k0), .val (.int c0), .val (.int c1), .val (.int sh), .val (.int (0 : Int32)), .val (.ref aGUARDED), .val (.ref b16), .val (.ref b112), .val (.ref b124), .val (.int (0 : Int32))] [(.ref b124)])) rfl (by rw [hml]; rfl) (Steps.refl _) (argsL := []) (rest := []) (lenOf pd_6 rfl) rfl (by show 2 * 0 + _ ≤ _; exact Nat.le_of_eq rfl) (hb hby at_99) (fun _ _ => ⟨rfl, rfl, (by decide : 4 + 0 ≤ _), (by decide : 8 + 0 ≤ _)⟩)
        dsimp only [Pt.U, Pt.locs, Pt.cells, Pt.slots] at X158 l158 y158 z158 st158 hQ158
        subst l158 y158 z158
        obtain ⟨rfl, N158q, e158⟩ := hQ158
        have N158 := Fr.app N143 N158q
        refine GoW.tr  st158 ?_
        show GoW p e below s Q 4 10 (T158.setTop (mkF m 102 #[.val (.int k0), .val (.int c0), .val (.int c1), .val (.int sh), .val (.int (0 : Int32)), .val (.ref aGUARDED), .val (.ref b16), .val (.ref b112), .val (.ref b124), .val (.int (0 : Int32))] [(.int (0 : Int32))]))
        refine GoW.st (fun _ k => XS.iload X158.here hx rfl (hb hby at_102) rfl k) ?_
        refine GoW.st (fun _ k => XS.icmpNo X158.here hx rfl (hb hby at_104) rfl (teq (eqI liI_0 liI_0 (by decide))).2 k) ?_
        refine GoW.st (fun _ k => XS.iconst X158.here hx rfl (hb hby at_107) k) ?_
        refine GoW.st (fun _ k => XS.goto X158.here hx rfl (pc0 := 108) (pc' := 112) rfl (hb hby at_108) (by decide) (by decide) k) ?_
        show GoW p e below s Q 4 10 (T158.setTop (mkF m 112 #[.val (.int k0), .val (.int c0), .val (.int c1), .val (.int sh), .val (.int (0 : Int32)), .val (.ref aGUARDED), .val (.ref b16), .val (.ref b112), .val (.ref b124), .val (.int (0 : Int32))] [(.int (1 : Int32))]))
        exact GoW.retN hS112 (vm0 := T112.vm) X158 (by rw [e158]; exact h157) hx hlk (by simp) Bd.returns (hb hby at_112) (z' := (1 : Int32)) (by decide) (by rw [← hQ, e158]; exact ⟨rfl, N158, K143⟩) (by decide) (by decide)
    ·
      refine GoW.st (fun _ k => XS.ifNo X55.here hx rfl (hb hby at_38) rfl ((if0 _ _).trans (feq (neI rfl liI_0 c75)).1) k) ?_
      obtain ⟨T159, h159, X159, e159, E159, A159, D159, -, st159⟩ := newO X55 hx hZ hown (hw _ (List.mem_of_getElem? (i := 8) rfl)) (hw _ (List.mem_of_getElem? (i := 9) rfl)) (hw _ (List.mem_of_getElem? (i := 10) rfl)) e55 (g := (mkF m 41 #[.val (.int k0), .val (.int c0), .val (.int c1), .val (.int sh), .val (.int (0 : Int32)), .val (.ref aGUARDED), .val (.ref b16), .unset, .unset, .unset] [])) rfl (hb hby at_41) (by decide) (by decide)
      obtain ⟨b159, g159⟩ : ∃ z, z = h55.size := ⟨_, rfl⟩
      rw [← g159] at A159 D159 st159
      have q160 : aGUARDED ≠ b159 := Nat.ne_of_lt (Nat.lt_of_lt_of_le h57.lt (Nat.le_of_eq g159.symm))
      have q161 : aLOGOUT ≠ b159 := Nat.ne_of_lt (Nat.lt_of_lt_of_le h59.lt (Nat.le_of_eq g159.symm))
      have q162 : aPUBLIC ≠ b159 := Nat.ne_of_lt (Nat.lt_of_lt_of_le h63.lt (Nat.le_of_eq g159.symm))
      have q163 : b16 ≠ b159 := Nat.ne_of_lt (Nat.lt_of_lt_of_le h66.lt (Nat.le_of_eq g159.symm))
      have h164 : Sta Z h159 "com/example/graf/graf/routes/RouteKind" "GUARDED" "Lcom/example/graf/graf/routes/RouteKind;" (.ref aGUARDED) := h56.ext E159
      have h165 : Exa Z h159 aGUARDED "com/example/graf/graf/routes/RouteKind" := h57.ext E159
      have h166 : Sta Z h159 "com/example/graf/graf/routes/RouteKind" "LOGOUT" "Lcom/example/graf/graf/routes/RouteKind;" (.ref aLOGOUT) := h58.ext E159
      have h167 : Exa Z h159 aLOGOUT "com/example/graf/graf/routes/RouteKind" := h59.ext E159
      have h168 : Fld Z h159 aGUARDED "java/lang/Enum" "ordinal" "I" (.int (0 : Int32)) := h60.ext E159
      have h169 : Fld Z h159 aLOGOUT "java/lang/Enum" "ordinal" "I" (.int (2 : Int32)) := h61.ext E159
      have h170 : Sta Z h159 "com/example/graf/graf/routes/RouteKind" "PUBLIC" "Lcom/example/graf/graf/routes/RouteKind;" (.ref aPUBLIC) := h62.ext E159
      have h171 : Exa Z h159 aPUBLIC "com/example/graf/graf/routes/RouteKind" := h63.ext E159
      have h172 : Fld Z h159 aPUBLIC "java/lang/Enum" "ordinal" "I" (.int (1 : Int32)) := h64.ext E159
      have h173 : Sta Z h159 "java/lang/String" "COMPACT_STRINGS" "Z" (.int zc) := h65.ext E159
      have h174 : Vec Z h159 b16 .char (2 : Int32) (ints (lst [ci0, ci1])) := h66.ext E159
      have Gb159 : n0 ≤ b159 := Nat.le_trans (Nat.le_trans Z0 K55.1) (Nat.le_of_eq g159.symm)
      have szb159 : h0.size ≤ b159 := Nat.le_trans K55.1 (Nat.le_of_eq g159.symm)
      have K159 : Keep h0 h159 [] := K55.ext E159
      have h175 : Fld Z h159 b159 "java/lang/String" "coder" "B" (.int (0 : Int32)) := D159 (Or.inr (hw _ (List.mem_of_getElem? (i := 34) rfl))) (ty := .byte) (by decide)
      have h176 : Fld Z h159 b159 "java/lang/String" "value" "[B" .null := D159 (Or.inr (hw _ (List.mem_of_getElem? (i := 36) rfl))) (ty := (.array .byte)) (by decide)
      refine GoW.st st159 ?_
      show GoW p e below s Q 4 10 (T159.setTop (mkF m 44 #[.val (.int k0), .val (.int c0), .val (.int c1), .val (.int sh), .val (.int (0 : Int32)), .val (.ref aGUARDED), .val (.ref b16), .unset, .unset, .unset] [(.ref b159)]))
      refine GoW.st (fun _ k => XS.dup X159.here hx rfl (hb hby at_44) rfl rfl k) ?_
      refine GoW.st (fun _ k => XS.aload X159.here hx rfl (hb hby at_45) rfl rfl k) ?_
      have f178 := rng32 zc
      have p179 : ¬ zc.toInt = 0 := by omega
      obtain ⟨_, _, ⟨T177, L177, k177, n177⟩, -, X177, ⟨Lc177, hQ177, l177, y177, z177⟩, st177⟩ := X159.specialBack hx (y := (⟨"java/lang/String", "<init>", "([C)V"⟩ : MethodName)) rfl hown (mvT hZ (hw _ (List.mem_of_getElem? (i := 11) rfl))) (mvT hZ (hw _ (List.mem_of_getElem? (i := 12) rfl))) (mvT hZ (hw _ (List.mem_of_getElem? (i := 13) rfl))) (by decide) (backOf (W := 1) (rm2 l Z a0 hw [] b159 b16 (lst [ci0, ci1]) zc h159 n0 (Nat.le_trans Z0 K159.1) h176 h175 A159 Gb159 h174 hcs q163 h173 p179) hZ (hw _ (List.mem_of_getElem? (i := 13) rfl)) (hw _ (List.mem_of_getElem? (i := 10) rfl)) (by decide) (by decide)) (g := (mkF m 47 #[.val (.int k0), .val (.int c0), .val (.int c1), .val (.int sh), .val (.int (0 : Int32)), .val (.ref aGUARDED), .val (.ref b16), .unset, .unset, .unset] [(.ref b16), (.ref b159), (.ref b159)])) rfl (by rw [hml]; rfl) (Steps.refl _) (a := b159) (argsL := [(.ref b16)]) (rest := [(.ref b159)]) (lenOf pd_7 rfl) rfl (by show 2 * 0 + _ ≤ _; exact Nat.le_of_eq rfl) (hb hby at_47) (fun _ _ => ⟨rfl, e159, (by decide : 2 + 1 ≤ _), (by decide : 6 + 2 ≤ _)⟩)
      dsimp only [Pt.U, Pt.locs, Pt.cells, Pt.slots] at X177 l177 y177 z177 st177 hQ177
      subst l177 y177 z177
      obtain ⟨rfl, N177q, K177q⟩ := hQ177
      have N177 := Fr.app N55 N177q
      have h180 : Sta Z T177.heap "com/example/graf/graf/routes/RouteKind" "GUARDED" "Lcom/example/graf/graf/routes/RouteKind;" (.ref aGUARDED) := Jvm.OwnGo.sta_keep h164 K177q (fun x hx => (allS (P := fun x => Exi h159 x) (exi_exa A159) all0) x hx)
      have h181 : Exa Z T177.heap aGUARDED "com/example/graf/graf/routes/RouteKind" := h165.keep K177q
      have h182 : Sta Z T177.heap "com/example/graf/graf/routes/RouteKind" "LOGOUT" "Lcom/example/graf/graf/routes/RouteKind;" (.ref aLOGOUT) := Jvm.OwnGo.sta_keep h166 K177q (fun x hx => (allS (P := fun x => Exi h159 x) (exi_exa A159) all0) x hx)
      have h183 : Exa Z T177.heap aLOGOUT "com/example/graf/graf/routes/RouteKind" := h167.keep K177q
      have h184 : Fld Z T177.heap aGUARDED "java/lang/Enum" "ordinal" "I" (.int (0 : Int32)) := h168.keep K177q (ninS q160 nin0)
      have h185 : Fld Z T177.heap aLOGOUT "java/lang/Enum" "ordinal" "I" (.int (2 : Int32)) := h169.keep K177q (ninS q161 nin0)
      have h186 : Sta Z T177.heap "com/example/graf/graf/routes/RouteKind" "PUBLIC" "Lcom/example/graf/graf/routes/RouteKind;" (.ref aPUBLIC) := Jvm.OwnGo.sta_keep h170 K177q (fun x hx => (allS (P := fun x => Exi h159 x) (exi_exa A159) all0) x hx)
      have h187 : Exa Z T177.heap aPUBLIC "com/example/graf/graf/routes/RouteKind" := h171.keep K177q
      have h188 : Fld Z T177.heap aPUBLIC "java/lang/Enum" "ordinal" "I" (.int (1 : Int32)) := h172.keep K177q (ninS q162 nin0)
      have h189 : Sta Z T177.heap "java/lang/String" "COMPACT_STRINGS" "Z" (.int zc) := Jvm.OwnGo.sta_keep h173 K177q (fun x hx => (allS (P := fun x => Exi h159 x) (exi_exa A159) all0) x hx)
      have h190 : Vec Z T177.heap b16 .char (2 : Int32) (ints (lst [ci0, ci1])) := h174.keep K177q (ninS q163 nin0)
      have h191 : Exa Z T177.heap b159 "java/lang/String" := A159.keep K177q
      have K177 : Keep h0 T177.heap [] := K159.trans K177q (fun x hx => (show ∀ x ∈ ([b159] : List Addr), x ∈ ([] : List Addr) ∨ h0.size ≤ x from (allS (Or.inr szb159) all0)) x hx)
      refine GoW.tr  st177 ?_
      show GoW p e below s Q 4 10 (T177.setTop (mkF m 50 #[.val (.int k0), .val (.int c0), .val (.int c1), .val (.int sh), .val (.int (0 : Int32)), .val (.ref aGUARDED), .val (.ref b16), .unset, .unset, .unset] [(.ref b159)]))
      refine GoW.st (fun _ k => XS.astore X177.here hx rfl (hb hby at_50) rfl rfl (l' := #[.val (.int k0), .val (.int c0), .val (.int c1), .val (.int sh), .val (.int (0 : Int32)), .val (.ref aGUARDED), .val (.ref b16), .val (.ref b159), .unset, .unset]) rfl k) ?_
      refine GoW.st (fun _ k => XS.goto X177.here hx rfl (pc0 := 52) (pc' := 71) rfl (hb hby at_52) (by decide) (by decide) k) ?_
      obtain ⟨T192, h192, X192, e192, E192, A192, D192, -, st192⟩ := newO X177 hx hZ hown (hw _ (List.mem_of_getElem? (i := 37) rfl)) (hw _ (List.mem_of_getElem? (i := 38) rfl)) (hw _ (List.mem_of_getElem? (i := 39) rfl)) rfl (g := (mkF m 71 #[.val (.int k0), .val (.int c0), .val (.int c1), .val (.int sh), .val (.int (0 : Int32)), .val (.ref aGUARDED), .val (.ref b16), .val (.ref b159), .unset, .unset] [])) rfl (hb hby at_71) (by decide) (by decide)
      obtain ⟨b192, g192⟩ : ∃ z, z = T177.heap.size := ⟨_, rfl⟩
      rw [← g192] at A192 D192 st192
      have q193 : aGUARDED ≠ b192 := Nat.ne_of_lt (Nat.lt_of_lt_of_le h181.lt (Nat.le_of_eq g192.symm))
      have q194 : aLOGOUT ≠ b192 := Nat.ne_of_lt (Nat.lt_of_lt_of_le h183.lt (Nat.le_of_eq g192.symm))
      have q195 : aPUBLIC ≠ b192 := Nat.ne_of_lt (Nat.lt_of_lt_of_le h187.lt (Nat.le_of_eq g192.symm))
      have q196 : b16 ≠ b192 := Nat.ne_of_lt (Nat.lt_of_lt_of_le h190.lt (Nat.le_of_eq g192.symm))
      have q197 : b159 ≠ b192 := Nat.ne_of_lt (Nat.lt_of_lt_of_le h191.lt (Nat.le_of_eq g192.symm))
      have h198 : Sta Z h192 "com/example/graf/graf/routes/RouteKind" "GUARDED" "Lcom/example/graf/graf/routes/RouteKind;" (.ref aGUARDED) := h180.ext E192
      have h199 : Exa Z h192 aGUARDED "com/example/graf/graf/routes/RouteKind" := h181.ext E192
      have h200 : Sta Z h192 "com/example/graf/graf/routes/RouteKind" "LOGOUT" "Lcom/example/graf/graf/routes/RouteKind;" (.ref aLOGOUT) := h182.ext E192
      have h201 : Exa Z h192 aLOGOUT "com/example/graf/graf/routes/RouteKind" := h183.ext E192
      have h202 : Fld Z h192 aGUARDED "java/lang/Enum" "ordinal" "I" (.int (0 : Int32)) := h184.ext E192
      have h203 : Fld Z h192 aLOGOUT "java/lang/Enum" "ordinal" "I" (.int (2 : Int32)) := h185.ext E192
      have h204 : Sta Z h192 "com/example/graf/graf/routes/RouteKind" "PUBLIC" "Lcom/example/graf/graf/routes/RouteKind;" (.ref aPUBLIC) := h186.ext E192
      have h205 : Exa Z h192 aPUBLIC "com/example/graf/graf/routes/RouteKind" := h187.ext E192
      have h206 : Fld Z h192 aPUBLIC "java/lang/Enum" "ordinal" "I" (.int (1 : Int32)) := h188.ext E192
      have h207 : Sta Z h192 "java/lang/String" "COMPACT_STRINGS" "Z" (.int zc) := h189.ext E192
      have h208 : Vec Z h192 b16 .char (2 : Int32) (ints (lst [ci0, ci1])) := h190.ext E192
      have h209 : Exa Z h192 b159 "java/lang/String" := h191.ext E192
      have Gb192 : n0 ≤ b192 := Nat.le_trans (Nat.le_trans Z0 K177.1) (Nat.le_of_eq g192.symm)
      have szb192 : h0.size ≤ b192 := Nat.le_trans K177.1 (Nat.le_of_eq g192.symm)
      have K192 : Keep h0 h192 [] := K177.ext E192
      have h210 : Fld Z h192 b192 "com/example/graf/graf/routes/Match" "node" "Ljava/lang/String;" .null := D192 (Or.inr (hw _ (List.mem_of_getElem? (i := 45) rfl))) (ty := (.object "java/lang/String")) (by decide)
      have h211 : Fld Z h192 b192 "com/example/graf/graf/routes/Match" "kind" "Lcom/example/graf/graf/routes/RouteKind;" .null := D192 (Or.inr (hw _ (List.mem_of_getElem? (i := 47) rfl))) (ty := (.object "com/example/graf/graf/routes/RouteKind")) (by decide)
      refine GoW.st st192 ?_
      show GoW p e below s Q 4 10 (T192.setTop (mkF m 74 #[.val (.int k0), .val (.int c0), .val (.int c1), .val (.int sh), .val (.int (0 : Int32)), .val (.ref aGUARDED), .val (.ref b16), .val (.ref b159), .unset, .unset] [(.ref b192)]))
      refine GoW.st (fun _ k => XS.dup X192.here hx rfl (hb hby at_74) rfl rfl k) ?_
      refine GoW.st (fun _ k => XS.aload X192.here hx rfl (hb hby at_75) rfl rfl k) ?_
      refine GoW.st (fun _ k => XS.aload X192.here hx rfl (hb hby at_77) rfl rfl k) ?_
      obtain ⟨_, _, ⟨T212, L212, k212, n212⟩, -, X212, ⟨Lc212, hQ212, l212, y212, z212⟩, st212⟩ := X192.specialBack hx (y := (⟨"com/example/graf/graf/routes/Match", "<init>", "(Ljava/lang/String;Lcom/example/graf/graf/routes/RouteKind;)V"⟩ : MethodName)) rfl hown (mvT hZ (hw _ (List.mem_of_getElem? (i := 40) rfl))) (mvT hZ (hw _ (List.mem_of_getElem? (i := 41) rfl))) (mvT hZ (hw _ (List.mem_of_getElem? (i := 42) rfl))) (by decide) (backOf (W := 1) (rmm11 l Z a0 hw [] b192 b159 aGUARDED h192 n0 (Nat.le_trans Z0 K192.1) h210 h211 A192 Gb192) hZ (hw _ (List.mem_of_getElem? (i := 42) rfl)) (hw _ (List.mem_of_getElem? (i := 39) rfl)) (by decide) (by decide)) (g := (mkF m 79 #[.val (.int k0), .val (.int c0), .val (.int c1), .val (.int sh), .val (.int (0 : Int32)), .val (.ref aGUARDED), .val (.ref b16), .val (.ref b159), .unset, .unset] [(.ref aGUARDED), (.ref b159), (.ref b192), (.ref b192)])) rfl (by rw [hml]; rfl) (Steps.refl _) (a := b192) (argsL := [(.ref b159), (.ref aGUARDED)]) (rest := [(.ref b192)]) (lenOf pd_5 rfl) rfl (by show 2 * 0 + _ ≤ _; exact Nat.le_of_eq rfl) (hb hby at_79) (fun _ _ => ⟨rfl, e192, (by decide : 4 + 0 ≤ _), (by decide : 10 + 0 ≤ _)⟩)
      dsimp only [Pt.U, Pt.locs, Pt.cells, Pt.slots] at X212 l212 y212 z212 st212 hQ212
      subst l212 y212 z212
      obtain ⟨rfl, N212q, K212q, h213, h214⟩ := hQ212
      have N212 := Fr.app N177 N212q
      have h215 : Sta Z T212.heap "com/example/graf/graf/routes/RouteKind" "GUARDED" "Lcom/example/graf/graf/routes/RouteKind;" (.ref aGUARDED) := Jvm.OwnGo.sta_keep h198 K212q (fun x hx => (allS (P := fun x => Exi h192 x) (exi_exa A192) all0) x hx)
      have h216 : Exa Z T212.heap aGUARDED "com/example/graf/graf/routes/RouteKind" := h199.keep K212q
      have h217 : Sta Z T212.heap "com/example/graf/graf/routes/RouteKind" "LOGOUT" "Lcom/example/graf/graf/routes/RouteKind;" (.ref aLOGOUT) := Jvm.OwnGo.sta_keep h200 K212q (fun x hx => (allS (P := fun x => Exi h192 x) (exi_exa A192) all0) x hx)
      have h218 : Exa Z T212.heap aLOGOUT "com/example/graf/graf/routes/RouteKind" := h201.keep K212q
      have h219 : Fld Z T212.heap aGUARDED "java/lang/Enum" "ordinal" "I" (.int (0 : Int32)) := h202.keep K212q (ninS q193 nin0)
      have h220 : Fld Z T212.heap aLOGOUT "java/lang/Enum" "ordinal" "I" (.int (2 : Int32)) := h203.keep K212q (ninS q194 nin0)
      have h221 : Sta Z T212.heap "com/example/graf/graf/routes/RouteKind" "PUBLIC" "Lcom/example/graf/graf/routes/RouteKind;" (.ref aPUBLIC) := Jvm.OwnGo.sta_keep h204 K212q (fun x hx => (allS (P := fun x => Exi h192 x) (exi_exa A192) all0) x hx)
      have h222 : Exa Z T212.heap aPUBLIC "com/example/graf/graf/routes/RouteKind" := h205.keep K212q
      have h223 : Fld Z T212.heap aPUBLIC "java/lang/Enum" "ordinal" "I" (.int (1 : Int32)) := h206.keep K212q (ninS q195 nin0)
      have h224 : Sta Z T212.heap "java/lang/String" "COMPACT_STRINGS" "Z" (.int zc) := Jvm.OwnGo.sta_keep h207 K212q (fun x hx => (allS (P := fun x => Exi h192 x) (exi_exa A192) all0) x hx)
      have h225 : Vec Z T212.heap b16 .char (2 : Int32) (ints (lst [ci0, ci1])) := h208.keep K212q (ninS q196 nin0)
      have h226 : Exa Z T212.heap b159 "java/lang/String" := h209.keep K212q
      have K212 : Keep h0 T212.heap [] := K192.trans K212q (fun x hx => (show ∀ x ∈ ([b192] : List Addr), x ∈ ([] : List Addr) ∨ h0.size ≤ x from (allS (Or.inr szb192) all0)) x hx)
      refine GoW.tr  st212 ?_
      show GoW p e below s Q 4 10 (T212.setTop (mkF m 82 #[.val (.int k0), .val (.int c0), .val (.int c1), .val (.int sh), .val (.int (0 : Int32)), .val (.ref aGUARDED), .val (.ref b16), .val (.ref b159), .unset, .unset] [(.ref b192)]))
      refine GoW.st (fun _ k => XS.astore X212.here hx rfl (hb hby at_82) rfl rfl (l' := #[.val (.int k0), .val (.int c0), .val (.int c1), .val (.int sh), .val (.int (0 : Int32)), .val (.ref aGUARDED), .val (.ref b16), .val (.ref b159), .val (.ref b192), .unset]) rfl k) ?_
      refine GoW.st (fun _ k => XS.iload X212.here hx rfl (hb hby at_84) rfl k) ?_
      refine GoW.st (fun _ k => XS.iconst X212.here hx rfl (hb hby at_86) k) ?_
      refine GoW.st (fun _ k => XS.icmpYes X212.here hx rfl (pc0 := 87) (pc' := 94) rfl (hb hby at_87) rfl (feq (neI liI_0 liI_2 (by decide))).2 (by decide) (by decide) k) ?_
      refine GoW.st (fun _ k => XS.iconst X212.here hx rfl (hb hby at_94) k) ?_
      refine GoW.st (fun _ k => XS.istore X212.here hx rfl (hb hby at_95) rfl (l' := #[.val (.int k0), .val (.int c0), .val (.int c1), .val (.int sh), .val (.int (0 : Int32)), .val (.ref aGUARDED), .val (.ref b16), .val (.ref b159), .val (.ref b192), .val (.int (0 : Int32))]) rfl k) ?_
      show GoW p e below s Q 4 10 (T212.setTop (mkF m 97 #[.val (.int k0), .val (.int c0), .val (.int c1), .val (.int sh), .val (.int (0 : Int32)), .val (.ref aGUARDED), .val (.ref b16), .val (.ref b159), .val (.ref b192), .val (.int (0 : Int32))] []))
      refine GoW.st (fun _ k => XS.aload X212.here hx rfl (hb hby at_97) rfl rfl k) ?_
      obtain ⟨cq227, kq227, q227a, q227b, q227c⟩ := isOf hZ rfl h214
      obtain ⟨_, _, ⟨T227, L227, k227, n227⟩, -, X227, ⟨Lc227, hQ227, l227, y227, z227⟩, st227⟩ := X212.virtualBack hx (y := (⟨"com/example/graf/graf/routes/Match", "isLogout", "()Z"⟩ : MethodName)) (z := (⟨"com/example/graf/graf/routes/Match", "isLogout", "()Z"⟩ : MethodName)) hown (mvT hZ (hw _ (List.mem_of_getElem? (i := 48) rfl))) (mvT hZ (hw _ (List.mem_of_getElem? (i := 49) rfl))) (notFace_of_selects (args := #[]) (mvT hZ (hw _ (List.mem_of_getElem? (i := 51) rfl)))) (mvT hZ (hw _ (List.mem_of_getElem? (i := 51) rfl))) (mvT hZ (hw _ (List.mem_of_getElem? (i := 50) rfl))) (by decide) (backOf (W := 0) (rmlo l Z a0 hw [] b192 aLOGOUT aGUARDED T212.heap n0 (Nat.le_trans Z0 K212.1) h213 h217 ne_aGUARDED_aLOGOUT) hZ (hw _ (List.mem_of_getElem? (i := 52) rfl)) (hw _ (List.mem_of_getElem? (i := 39) rfl)) (by decide) (by decide)) q227a q227c (g := (mkF m 99 #[.val (.int k0), .val (.int c0), .val (.int c1), .val (.int sh), .val (.int (0 : Int32)), .val (.ref aGUARDED), .val (.ref b16), .val (.ref b159), .val (.ref b192), .val (.int (0 : Int32))] [(.ref b192)])) rfl (by rw [hml]; rfl) (Steps.refl _) (argsL := []) (rest := []) (lenOf pd_6 rfl) rfl (by show 2 * 0 + _ ≤ _; exact Nat.le_of_eq rfl) (hb hby at_99) (fun _ _ => ⟨rfl, rfl, (by decide : 4 + 0 ≤ _), (by decide : 10 + 0 ≤ _)⟩)
      dsimp only [Pt.U, Pt.locs, Pt.cells, Pt.slots] at X227 l227 y227 z227 st227 hQ227
      subst l227 y227 z227
      obtain ⟨rfl, N227q, e227⟩ := hQ227
      have N227 := Fr.app N212 N227q
      refine GoW.tr  st227 ?_
      show GoW p e below s Q 4 10 (T227.setTop (mkF m 102 #[.val (.int k0), .val (.int c0), .val (.int c1), .val (.int sh), .val (.int (0 : Int32)), .val (.ref aGUARDED), .val (.ref b16), .val (.ref b159), .val (.ref b192), .val (.int (0 : Int32))] [(.int (0 : Int32))]))
      refine GoW.st (fun _ k => XS.iload X227.here hx rfl (hb hby at_102) rfl k) ?_
      refine GoW.st (fun _ k => XS.icmpNo X227.here hx rfl (hb hby at_104) rfl (teq (eqI liI_0 liI_0 (by decide))).2 k) ?_
      refine GoW.st (fun _ k => XS.iconst X227.here hx rfl (hb hby at_107) k) ?_
      refine GoW.st (fun _ k => XS.goto X227.here hx rfl (pc0 := 108) (pc' := 112) rfl (hb hby at_108) (by decide) (by decide) k) ?_
      show GoW p e below s Q 4 10 (T227.setTop (mkF m 112 #[.val (.int k0), .val (.int c0), .val (.int c1), .val (.int sh), .val (.int (0 : Int32)), .val (.ref aGUARDED), .val (.ref b16), .val (.ref b159), .val (.ref b192), .val (.int (0 : Int32))] [(.int (1 : Int32))]))
      exact GoW.retN (since0 s) (vm0 := s.vm) X227 (Nat.zero_le _) hx hlk (by simp) Bd.returns (hb hby at_112) (z' := (1 : Int32)) (by decide) (by rw [← hQ, e227]; exact ⟨rfl, N227, K212⟩) (by decide) (by decide)
  ·
    have cs10' : v7 = (1 : Int32) := eqI cs10 liI_1 rfl
    subst cs10'
    have f228 := liI_1
    show GoW p e below s Q 4 10 (s₁.setTop (mkF m 5 #[.val (.int k0), .val (.int c0), .val (.int c1), .val (.int sh), .val (.int (1 : Int32)), .unset, .unset, .unset, .unset, .unset] []))
    clear f1 f2 f3 f4 f5 f6 f228
    refine GoW.st (fun _ k => XS.iload X0.here hx rfl (hb hby at_5) rfl k) ?_
    have f230 := liI_1
    obtain ⟨_, _, ⟨T229, L229, k229, n229⟩, -, X229, ⟨Lc229, hQ229, l229, y229, z229⟩, st229⟩ := Jvm.LawKit.callS X0 hx (y := (⟨"com/example/graf/graf/routes/MatchIsLogoutPinLaw", "kindOf", "(I)Lcom/example/graf/graf/routes/RouteKind;"⟩ : MethodName)) hown (mvT hZ (hw _ (List.mem_of_getElem? (i := 0) rfl))) (mvT hZ (hw _ (List.mem_of_getElem? (i := 1) rfl))) (mvT hZ (hw _ (List.mem_of_getElem? (i := 2) rfl))) (mvT hZ (hw _ (List.mem_of_getElem? (i := 3) rfl))) (by decide) (backOf (W := 0) (rmk1 l Z a0 hw [] aPUBLIC h0 n0 (Nat.le_trans Z0 K0.1) S_aPUBLIC) hZ (hw _ (List.mem_of_getElem? (i := 3) rfl)) (hw _ (List.mem_of_getElem? (i := 2) rfl)) (by decide) (by decide)) (g := (mkF m 7 #[.val (.int k0), .val (.int c0), .val (.int c1), .val (.int sh), .val (.int (1 : Int32)), .unset, .unset, .unset, .unset, .unset] [(.int (1 : Int32))])) rfl (by rw [hml]; rfl) (argsL := [(.int (1 : Int32))]) (rest := []) (lenOf pd_4 rfl) rfl (by show 2 * 0 + _ ≤ _; exact Nat.le_of_eq rfl) (hb hby at_7) (fun _ _ => ⟨rfl, e0, (by decide : 0 + 0 ≤ _), (by decide : 0 + 0 ≤ _)⟩)
    dsimp only [Pt.U, Pt.locs, Pt.cells, Pt.slots] at X229 l229 y229 z229 st229 hQ229
    subst l229 y229 z229
    obtain ⟨rfl, N229q, e229⟩ := hQ229
    have N229 := Fr.app N0 N229q
    refine GoW.st st229 ?_
    show GoW p e below s Q 4 10 (T229.setTop (mkF m 10 #[.val (.int k0), .val (.int c0), .val (.int c1), .val (.int sh), .val (.int (1 : Int32)), .unset, .unset, .unset, .unset, .unset] [(.ref aPUBLIC)]))
    refine GoW.st (fun _ k => XS.astore X229.here hx rfl (hb hby at_10) rfl rfl (l' := #[.val (.int k0), .val (.int c0), .val (.int c1), .val (.int sh), .val (.int (1 : Int32)), .val (.ref aPUBLIC), .unset, .unset, .unset, .unset]) rfl k) ?_
    refine GoW.st (fun _ k => XS.iconst X229.here hx rfl (hb hby at_12) k) ?_
    have f232 := liI_2
    have r233 : 0 ≤ (2 : Int32).toInt := by decide
    have r234 : (2 : Int32).toNatClampNeg ≤ 2 := by decide
    obtain ⟨T231, h231, k231, X231, e231, E231, A231, st231⟩ := newP X229 hx hZ (hw _ (List.mem_of_getElem? (i := 7) rfl)) e229 (g := (mkF m 13 #[.val (.int k0), .val (.int c0), .val (.int c1), .val (.int sh), .val (.int (1 : Int32)), .val (.ref aPUBLIC), .unset, .unset, .unset, .unset] [(.int (2 : Int32))])) rfl (hb hby at_13) rfl (not_neg r233) (cap := 2) r234 (by decide) (by decide) (by decide)
    obtain ⟨b231, g231⟩ : ∃ z, z = h0.size := ⟨_, rfl⟩
    rw [← g231] at A231 st231
    have q235 : aGUARDED ≠ b231 := Nat.ne_of_lt (Nat.lt_of_lt_of_le E_aGUARDED.lt (Nat.le_of_eq g231.symm))
    have q236 : aLOGOUT ≠ b231 := Nat.ne_of_lt (Nat.lt_of_lt_of_le E_aLOGOUT.lt (Nat.le_of_eq g231.symm))
    have q237 : aPUBLIC ≠ b231 := Nat.ne_of_lt (Nat.lt_of_lt_of_le E_aPUBLIC.lt (Nat.le_of_eq g231.symm))
    have h238 : Sta Z h231 "com/example/graf/graf/routes/RouteKind" "GUARDED" "Lcom/example/graf/graf/routes/RouteKind;" (.ref aGUARDED) := S_aGUARDED.ext E231
    have h239 : Exa Z h231 aGUARDED "com/example/graf/graf/routes/RouteKind" := E_aGUARDED.ext E231
    have h240 : Sta Z h231 "com/example/graf/graf/routes/RouteKind" "LOGOUT" "Lcom/example/graf/graf/routes/RouteKind;" (.ref aLOGOUT) := S_aLOGOUT.ext E231
    have h241 : Exa Z h231 aLOGOUT "com/example/graf/graf/routes/RouteKind" := E_aLOGOUT.ext E231
    have h242 : Fld Z h231 aGUARDED "java/lang/Enum" "ordinal" "I" (.int (0 : Int32)) := F_aGUARDED_ordinal.ext E231
    have h243 : Fld Z h231 aLOGOUT "java/lang/Enum" "ordinal" "I" (.int (2 : Int32)) := F_aLOGOUT_ordinal.ext E231
    have h244 : Sta Z h231 "com/example/graf/graf/routes/RouteKind" "PUBLIC" "Lcom/example/graf/graf/routes/RouteKind;" (.ref aPUBLIC) := S_aPUBLIC.ext E231
    have h245 : Exa Z h231 aPUBLIC "com/example/graf/graf/routes/RouteKind" := E_aPUBLIC.ext E231
    have h246 : Fld Z h231 aPUBLIC "java/lang/Enum" "ordinal" "I" (.int (1 : Int32)) := F_aPUBLIC_ordinal.ext E231
    have h247 : Sta Z h231 "java/lang/String" "COMPACT_STRINGS" "Z" (.int zc) := S_CS.ext E231
    have Gb231 : n0 ≤ b231 := Nat.le_trans (Nat.le_trans Z0 K0.1) (Nat.le_of_eq g231.symm)
    have szb231 : h0.size ≤ b231 := Nat.le_trans K0.1 (Nat.le_of_eq g231.symm)
    have K231 : Keep h0 h231 [] := K0.ext E231
    have h248 : Vec Z h231 b231 .char (2 : Int32) (ints (lst [(0 : Int32), (0 : Int32)])) := Vec.zerosI 2 (Vec.new A231 r233)
    refine GoW.st st231 ?_
    show GoW p e below s Q 4 10 (T231.setTop (mkF m 15 #[.val (.int k0), .val (.int c0), .val (.int c1), .val (.int sh), .val (.int (1 : Int32)), .val (.ref aPUBLIC), .unset, .unset, .unset, .unset] [(.ref b231)]))
    refine GoW.st (fun _ k => XS.dup X231.here hx rfl (hb hby at_15) rfl rfl k) ?_
    refine GoW.st (fun _ k => XS.iconst X231.here hx rfl (hb hby at_16) k) ?_
    refine GoW.st (fun _ k => XS.iloadN X231.here hx rfl (hb hby at_17) rfl k) ?_
    refine GoW.st (fun _ k => XS.sipush X231.here hx rfl (hb hby at_18) k) ?_
    refine GoW.st (fun _ k => XS.iand X231.here hx rfl (hb hby at_21) rfl k) ?_
    show GoW p e below s Q 4 10 (T231.setTop (mkF m 22 #[.val (.int k0), .val (.int c0), .val (.int c1), .val (.int sh), .val (.int (1 : Int32)), .val (.ref aPUBLIC), .unset, .unset, .unset, .unset] [(.int (c0 &&& (255 : Int32))), (.int (0 : Int32)), (.ref b231), (.ref b231)]))
    have f249 := rng32 c0
    have f250 := liI_255
    have f251 : (c0 &&& (255 : Int32)).toInt = c0.toInt % 256 := c_mask c0 (255 : Int32) 8 (by decide) (by decide)
    generalize hv_ca0 : (c0 &&& (255 : Int32)) = ca0 at f251 ⊢
    refine GoW.st (fun _ k => XS.i2c X231.here hx rfl (hb hby at_22) rfl k) ?_
    obtain ⟨T252, h252, X252, e252, W252, V252, st252⟩ := Vec.istC X231 hx hZ e231 h248 (j := (0 : Int32)) (by decide) (by decide) (g := (mkF m 23 #[.val (.int k0), .val (.int c0), .val (.int c1), .val (.int sh), .val (.int (1 : Int32)), .val (.ref aPUBLIC), .unset, .unset, .unset, .unset] [(.int (ca0.toUInt32.toUInt16.toUInt32.toInt32)), (.int (0 : Int32)), (.ref b231), (.ref b231)])) rfl rfl (hb hby at_23)
    have h253 : Sta Z h252 "com/example/graf/graf/routes/RouteKind" "GUARDED" "Lcom/example/graf/graf/routes/RouteKind;" (.ref aGUARDED) := h238.wr W252
    have h254 : Exa Z h252 aGUARDED "com/example/graf/graf/routes/RouteKind" := h239.wr W252
    have h255 : Sta Z h252 "com/example/graf/graf/routes/RouteKind" "LOGOUT" "Lcom/example/graf/graf/routes/RouteKind;" (.ref aLOGOUT) := h240.wr W252
    have h256 : Exa Z h252 aLOGOUT "com/example/graf/graf/routes/RouteKind" := h241.wr W252
    have h257 : Fld Z h252 aGUARDED "java/lang/Enum" "ordinal" "I" (.int (0 : Int32)) := h242.other W252 (Or.inl q235)
    have h258 : Fld Z h252 aLOGOUT "java/lang/Enum" "ordinal" "I" (.int (2 : Int32)) := h243.other W252 (Or.inl q236)
    have h259 : Sta Z h252 "com/example/graf/graf/routes/RouteKind" "PUBLIC" "Lcom/example/graf/graf/routes/RouteKind;" (.ref aPUBLIC) := h244.wr W252
    have h260 : Exa Z h252 aPUBLIC "com/example/graf/graf/routes/RouteKind" := h245.wr W252
    have h261 : Fld Z h252 aPUBLIC "java/lang/Enum" "ordinal" "I" (.int (1 : Int32)) := h246.other W252 (Or.inl q237)
    have h262 : Sta Z h252 "java/lang/String" "COMPACT_STRINGS" "Z" (.int zc) := h247.wr W252
    have h263 : Vec Z h252 b231 .char (2 : Int32) (ints (lst [((ca0.toUInt32.toUInt16.toUInt32.toInt32).toUInt32.toUInt16.toUInt32.toInt32), (0 : Int32)])) := Vec.of_eq V252 (congrArg ints (upd_lst _ 0 _ (Nat.le_of_ble_eq_true rfl)))
    have K252 : Keep h0 h252 [] := K231.wr W252 (Or.inr szb231)
    have N252 := Fr.snoc X252 N229 Gb231
    refine GoW.st st252 ?_
    show GoW p e below s Q 4 10 (T252.setTop (mkF m 24 #[.val (.int k0), .val (.int c0), .val (.int c1), .val (.int sh), .val (.int (1 : Int32)), .val (.ref aPUBLIC), .unset, .unset, .unset, .unset] [(.ref b231)]))
    have f264 := c_i2c ca0
    have f265 := rng32 (ca0.toUInt32.toUInt16.toUInt32.toInt32)
    have f266 := c_i2c (ca0.toUInt32.toUInt16.toUInt32.toInt32)
    have f267 := rng32 ((ca0.toUInt32.toUInt16.toUInt32.toInt32).toUInt32.toUInt16.toUInt32.toInt32)
    generalize hv_ci0 : ((ca0.toUInt32.toUInt16.toUInt32.toInt32).toUInt32.toUInt16.toUInt32.toInt32) = ci0 at f266 f267 h263
    have hci0 : 0 ≤ ci0.toInt ∧ ci0.toInt ≤ 255 := by omega
    refine GoW.st (fun _ k => XS.dup X252.here hx rfl (hb hby at_24) rfl rfl k) ?_
    refine GoW.st (fun _ k => XS.iconst X252.here hx rfl (hb hby at_25) k) ?_
    refine GoW.st (fun _ k => XS.iloadN X252.here hx rfl (hb hby at_26) rfl k) ?_
    refine GoW.st (fun _ k => XS.sipush X252.here hx rfl (hb hby at_27) k) ?_
    refine GoW.st (fun _ k => XS.iand X252.here hx rfl (hb hby at_30) rfl k) ?_
    show GoW p e below s Q 4 10 (T252.setTop (mkF m 31 #[.val (.int k0), .val (.int c0), .val (.int c1), .val (.int sh), .val (.int (1 : Int32)), .val (.ref aPUBLIC), .unset, .unset, .unset, .unset] [(.int (c1 &&& (255 : Int32))), (.int (1 : Int32)), (.ref b231), (.ref b231)]))
    have f268 := rng32 c1
    have f269 : (c1 &&& (255 : Int32)).toInt = c1.toInt % 256 := c_mask c1 (255 : Int32) 8 (by decide) (by decide)
    generalize hv_ca1 : (c1 &&& (255 : Int32)) = ca1 at f269 ⊢
    refine GoW.st (fun _ k => XS.i2c X252.here hx rfl (hb hby at_31) rfl k) ?_
    obtain ⟨T270, h270, X270, e270, W270, V270, st270⟩ := Vec.istC X252 hx hZ e252 h263 (j := (1 : Int32)) (by decide) (by decide) (g := (mkF m 32 #[.val (.int k0), .val (.int c0), .val (.int c1), .val (.int sh), .val (.int (1 : Int32)), .val (.ref aPUBLIC), .unset, .unset, .unset, .unset] [(.int (ca1.toUInt32.toUInt16.toUInt32.toInt32)), (.int (1 : Int32)), (.ref b231), (.ref b231)])) rfl rfl (hb hby at_32)
    have h271 : Sta Z h270 "com/example/graf/graf/routes/RouteKind" "GUARDED" "Lcom/example/graf/graf/routes/RouteKind;" (.ref aGUARDED) := h253.wr W270
    have h272 : Exa Z h270 aGUARDED "com/example/graf/graf/routes/RouteKind" := h254.wr W270
    have h273 : Sta Z h270 "com/example/graf/graf/routes/RouteKind" "LOGOUT" "Lcom/example/graf/graf/routes/RouteKind;" (.ref aLOGOUT) := h255.wr W270
    have h274 : Exa Z h270 aLOGOUT "com/example/graf/graf/routes/RouteKind" := h256.wr W270
    have h275 : Fld Z h270 aGUARDED "java/lang/Enum" "ordinal" "I" (.int (0 : Int32)) := h257.other W270 (Or.inl q235)
    have h276 : Fld Z h270 aLOGOUT "java/lang/Enum" "ordinal" "I" (.int (2 : Int32)) := h258.other W270 (Or.inl q236)
    have h277 : Sta Z h270 "com/example/graf/graf/routes/RouteKind" "PUBLIC" "Lcom/example/graf/graf/routes/RouteKind;" (.ref aPUBLIC) := h259.wr W270
    have h278 : Exa Z h270 aPUBLIC "com/example/graf/graf/routes/RouteKind" := h260.wr W270
    have h279 : Fld Z h270 aPUBLIC "java/lang/Enum" "ordinal" "I" (.int (1 : Int32)) := h261.other W270 (Or.inl q237)
    have h280 : Sta Z h270 "java/lang/String" "COMPACT_STRINGS" "Z" (.int zc) := h262.wr W270
    have h281 : Vec Z h270 b231 .char (2 : Int32) (ints (lst [ci0, ((ca1.toUInt32.toUInt16.toUInt32.toInt32).toUInt32.toUInt16.toUInt32.toInt32)])) := Vec.of_eq V270 (congrArg ints (upd_lst _ 1 _ (Nat.le_of_ble_eq_true rfl)))
    have K270 : Keep h0 h270 [] := K252.wr W270 (Or.inr szb231)
    have N270 := Fr.snoc X270 N252 Gb231
    refine GoW.st st270 ?_
    show GoW p e below s Q 4 10 (T270.setTop (mkF m 33 #[.val (.int k0), .val (.int c0), .val (.int c1), .val (.int sh), .val (.int (1 : Int32)), .val (.ref aPUBLIC), .unset, .unset, .unset, .unset] [(.ref b231)]))
    have f282 := c_i2c ca1
    have f283 := rng32 (ca1.toUInt32.toUInt16.toUInt32.toInt32)
    have f284 := c_i2c (ca1.toUInt32.toUInt16.toUInt32.toInt32)
    have f285 := rng32 ((ca1.toUInt32.toUInt16.toUInt32.toInt32).toUInt32.toUInt16.toUInt32.toInt32)
    generalize hv_ci1 : ((ca1.toUInt32.toUInt16.toUInt32.toInt32).toUInt32.toUInt16.toUInt32.toInt32) = ci1 at f284 f285 h281
    have hci1 : 0 ≤ ci1.toInt ∧ ci1.toInt ≤ 255 := by omega
    have hcs : ∀ j : Nat, 0 ≤ ((lst [ci0, ci1]) j).toInt ∧ ((lst [ci0, ci1]) j).toInt ≤ 255 := fun j => match j with | 0 => hci0 | 1 => hci1 | (n + 2) => by have q : (lst [ci0, ci1]) (n + 2) = 0 := rfl; rw [q]; decide
    clear f230 f232 f249 f250 f251 f264 f265 f266 f267 f268 f269 f282 f283 f284 f285
    refine GoW.st (fun _ k => XS.astore X270.here hx rfl (hb hby at_33) rfl rfl (l' := #[.val (.int k0), .val (.int c0), .val (.int c1), .val (.int sh), .val (.int (1 : Int32)), .val (.ref aPUBLIC), .val (.ref b231), .unset, .unset, .unset]) rfl k) ?_
    refine GoW.st (fun _ k => XS.iloadN X270.here hx rfl (hb hby at_35) rfl k) ?_
    refine GoW.st (fun _ k => XS.iconst X270.here hx rfl (hb hby at_36) k) ?_
    refine GoW.st (fun _ k => XS.iand X270.here hx rfl (hb hby at_37) rfl k) ?_
    have f286 := rng32 sh
    have f287 := liI_1
    have f288 : (sh &&& (1 : Int32)).toInt = sh.toInt % 2 := c_mask sh (1 : Int32) 1 (by decide) (by decide)
    have f289 := liI_0
    by_cases c290 : (sh &&& (1 : Int32)).toInt = 0
    ·
      refine GoW.st (fun _ k => XS.ifYes X270.here hx rfl (pc0 := 38) (pc' := 55) rfl (hb hby at_38) rfl ((if0 _ _).trans (teq (eqI rfl liI_0 c290)).1) (by decide) (by decide) k) ?_
      refine GoW.st (fun _ k => XS.iloadN X270.here hx rfl (hb hby at_55) rfl k) ?_
      show GoW p e below s Q 4 10 (T270.setTop (mkF m 56 #[.val (.int k0), .val (.int c0), .val (.int c1), .val (.int sh), .val (.int (1 : Int32)), .val (.ref aPUBLIC), .val (.ref b231), .unset, .unset, .unset] [(.int sh)]))
      refine GoW.st (fun _ k => XS.iconst X270.here hx rfl (hb hby at_56) k) ?_
      refine GoW.st (fun _ k => XS.iand X270.here hx rfl (hb hby at_57) rfl k) ?_
      have f291 := liI_2
      have f292 := c_and sh (2 : Int32) (by decide)
      by_cases c293 : (sh &&& (2 : Int32)).toInt = 0
      ·
        refine GoW.st (fun _ k => XS.ifYes X270.here hx rfl (pc0 := 58) (pc' := 68) rfl (hb hby at_58) rfl ((if0 _ _).trans (teq (eqI rfl liI_0 c293)).1) (by decide) (by decide) k) ?_
        refine GoW.st (fun _ k => XS.aconstNull X270.here hx rfl (hb hby at_68) k) ?_
        refine GoW.st (fun _ k => XS.astore X270.here hx rfl (hb hby at_69) rfl rfl (l' := #[.val (.int k0), .val (.int c0), .val (.int c1), .val (.int sh), .val (.int (1 : Int32)), .val (.ref aPUBLIC), .val (.ref b231), .val .null, .unset, .unset]) rfl k) ?_
        obtain ⟨T294, h294, X294, e294, E294, A294, D294, -, st294⟩ := newO X270 hx hZ hown (hw _ (List.mem_of_getElem? (i := 37) rfl)) (hw _ (List.mem_of_getElem? (i := 38) rfl)) (hw _ (List.mem_of_getElem? (i := 39) rfl)) e270 (g := (mkF m 71 #[.val (.int k0), .val (.int c0), .val (.int c1), .val (.int sh), .val (.int (1 : Int32)), .val (.ref aPUBLIC), .val (.ref b231), .val .null, .unset, .unset] [])) rfl (hb hby at_71) (by decide) (by decide)
        obtain ⟨b294, g294⟩ : ∃ z, z = h270.size := ⟨_, rfl⟩
        rw [← g294] at A294 D294 st294
        have q295 : aGUARDED ≠ b294 := Nat.ne_of_lt (Nat.lt_of_lt_of_le h272.lt (Nat.le_of_eq g294.symm))
        have q296 : aLOGOUT ≠ b294 := Nat.ne_of_lt (Nat.lt_of_lt_of_le h274.lt (Nat.le_of_eq g294.symm))
        have q297 : aPUBLIC ≠ b294 := Nat.ne_of_lt (Nat.lt_of_lt_of_le h278.lt (Nat.le_of_eq g294.symm))
        have q298 : b231 ≠ b294 := Nat.ne_of_lt (Nat.lt_of_lt_of_le h281.lt (Nat.le_of_eq g294.symm))
        have h299 : Sta Z h294 "com/example/graf/graf/routes/RouteKind" "GUARDED" "Lcom/example/graf/graf/routes/RouteKind;" (.ref aGUARDED) := h271.ext E294
        have h300 : Exa Z h294 aGUARDED "com/example/graf/graf/routes/RouteKind" := h272.ext E294
        have h301 : Sta Z h294 "com/example/graf/graf/routes/RouteKind" "LOGOUT" "Lcom/example/graf/graf/routes/RouteKind;" (.ref aLOGOUT) := h273.ext E294
        have h302 : Exa Z h294 aLOGOUT "com/example/graf/graf/routes/RouteKind" := h274.ext E294
        have h303 : Fld Z h294 aGUARDED "java/lang/Enum" "ordinal" "I" (.int (0 : Int32)) := h275.ext E294
        have h304 : Fld Z h294 aLOGOUT "java/lang/Enum" "ordinal" "I" (.int (2 : Int32)) := h276.ext E294
        have h305 : Sta Z h294 "com/example/graf/graf/routes/RouteKind" "PUBLIC" "Lcom/example/graf/graf/routes/RouteKind;" (.ref aPUBLIC) := h277.ext E294
        have h306 : Exa Z h294 aPUBLIC "com/example/graf/graf/routes/RouteKind" := h278.ext E294
        have h307 : Fld Z h294 aPUBLIC "java/lang/Enum" "ordinal" "I" (.int (1 : Int32)) := h279.ext E294
        have h308 : Sta Z h294 "java/lang/String" "COMPACT_STRINGS" "Z" (.int zc) := h280.ext E294
        have h309 : Vec Z h294 b231 .char (2 : Int32) (ints (lst [ci0, ci1])) := h281.ext E294
        have Gb294 : n0 ≤ b294 := Nat.le_trans (Nat.le_trans Z0 K270.1) (Nat.le_of_eq g294.symm)
        have szb294 : h0.size ≤ b294 := Nat.le_trans K270.1 (Nat.le_of_eq g294.symm)
        have K294 : Keep h0 h294 [] := K270.ext E294
        have h310 : Fld Z h294 b294 "com/example/graf/graf/routes/Match" "node" "Ljava/lang/String;" .null := D294 (Or.inr (hw _ (List.mem_of_getElem? (i := 45) rfl))) (ty := (.object "java/lang/String")) (by decide)
        have h311 : Fld Z h294 b294 "com/example/graf/graf/routes/Match" "kind" "Lcom/example/graf/graf/routes/RouteKind;" .null := D294 (Or.inr (hw _ (List.mem_of_getElem? (i := 47) rfl))) (ty := (.object "com/example/graf/graf/routes/RouteKind")) (by decide)
        refine GoW.st st294 ?_
        show GoW p e below s Q 4 10 (T294.setTop (mkF m 74 #[.val (.int k0), .val (.int c0), .val (.int c1), .val (.int sh), .val (.int (1 : Int32)), .val (.ref aPUBLIC), .val (.ref b231), .val .null, .unset, .unset] [(.ref b294)]))
        refine GoW.st (fun _ k => XS.dup X294.here hx rfl (hb hby at_74) rfl rfl k) ?_
        refine GoW.st (fun _ k => XS.aload X294.here hx rfl (hb hby at_75) rfl rfl k) ?_
        refine GoW.st (fun _ k => XS.aload X294.here hx rfl (hb hby at_77) rfl rfl k) ?_
        obtain ⟨_, _, ⟨T312, L312, k312, n312⟩, -, X312, ⟨Lc312, hQ312, l312, y312, z312⟩, st312⟩ := X294.specialBack hx (y := (⟨"com/example/graf/graf/routes/Match", "<init>", "(Ljava/lang/String;Lcom/example/graf/graf/routes/RouteKind;)V"⟩ : MethodName)) rfl hown (mvT hZ (hw _ (List.mem_of_getElem? (i := 40) rfl))) (mvT hZ (hw _ (List.mem_of_getElem? (i := 41) rfl))) (mvT hZ (hw _ (List.mem_of_getElem? (i := 42) rfl))) (by decide) (backOf (W := 1) (rmm01 l Z a0 hw [] b294 aPUBLIC h294 n0 (Nat.le_trans Z0 K294.1) h310 h311 A294 Gb294) hZ (hw _ (List.mem_of_getElem? (i := 42) rfl)) (hw _ (List.mem_of_getElem? (i := 39) rfl)) (by decide) (by decide)) (g := (mkF m 79 #[.val (.int k0), .val (.int c0), .val (.int c1), .val (.int sh), .val (.int (1 : Int32)), .val (.ref aPUBLIC), .val (.ref b231), .val .null, .unset, .unset] [(.ref aPUBLIC), .null, (.ref b294), (.ref b294)])) rfl (by rw [hml]; rfl) (Steps.refl _) (a := b294) (argsL := [.null, (.ref aPUBLIC)]) (rest := [(.ref b294)]) (lenOf pd_5 rfl) rfl (by show 2 * 0 + _ ≤ _; exact Nat.le_of_eq rfl) (hb hby at_79) (fun _ _ => ⟨rfl, e294, (by decide : 2 + 0 ≤ _), (by decide : 4 + 0 ≤ _)⟩)
        dsimp only [Pt.U, Pt.locs, Pt.cells, Pt.slots] at X312 l312 y312 z312 st312 hQ312
        subst l312 y312 z312
        obtain ⟨rfl, N312q, K312q, h313, h314⟩ := hQ312
        have N312 := Fr.app N270 N312q
        have h315 : Sta Z T312.heap "com/example/graf/graf/routes/RouteKind" "GUARDED" "Lcom/example/graf/graf/routes/RouteKind;" (.ref aGUARDED) := Jvm.OwnGo.sta_keep h299 K312q (fun x hx => (allS (P := fun x => Exi h294 x) (exi_exa A294) all0) x hx)
        have h316 : Exa Z T312.heap aGUARDED "com/example/graf/graf/routes/RouteKind" := h300.keep K312q
        have h317 : Sta Z T312.heap "com/example/graf/graf/routes/RouteKind" "LOGOUT" "Lcom/example/graf/graf/routes/RouteKind;" (.ref aLOGOUT) := Jvm.OwnGo.sta_keep h301 K312q (fun x hx => (allS (P := fun x => Exi h294 x) (exi_exa A294) all0) x hx)
        have h318 : Exa Z T312.heap aLOGOUT "com/example/graf/graf/routes/RouteKind" := h302.keep K312q
        have h319 : Fld Z T312.heap aGUARDED "java/lang/Enum" "ordinal" "I" (.int (0 : Int32)) := h303.keep K312q (ninS q295 nin0)
        have h320 : Fld Z T312.heap aLOGOUT "java/lang/Enum" "ordinal" "I" (.int (2 : Int32)) := h304.keep K312q (ninS q296 nin0)
        have h321 : Sta Z T312.heap "com/example/graf/graf/routes/RouteKind" "PUBLIC" "Lcom/example/graf/graf/routes/RouteKind;" (.ref aPUBLIC) := Jvm.OwnGo.sta_keep h305 K312q (fun x hx => (allS (P := fun x => Exi h294 x) (exi_exa A294) all0) x hx)
        have h322 : Exa Z T312.heap aPUBLIC "com/example/graf/graf/routes/RouteKind" := h306.keep K312q
        have h323 : Fld Z T312.heap aPUBLIC "java/lang/Enum" "ordinal" "I" (.int (1 : Int32)) := h307.keep K312q (ninS q297 nin0)
        have h324 : Sta Z T312.heap "java/lang/String" "COMPACT_STRINGS" "Z" (.int zc) := Jvm.OwnGo.sta_keep h308 K312q (fun x hx => (allS (P := fun x => Exi h294 x) (exi_exa A294) all0) x hx)
        have h325 : Vec Z T312.heap b231 .char (2 : Int32) (ints (lst [ci0, ci1])) := h309.keep K312q (ninS q298 nin0)
        have K312 : Keep h0 T312.heap [] := K294.trans K312q (fun x hx => (show ∀ x ∈ ([b294] : List Addr), x ∈ ([] : List Addr) ∨ h0.size ≤ x from (allS (Or.inr szb294) all0)) x hx)
        refine GoW.tr  st312 ?_
        show GoW p e below s Q 4 10 (T312.setTop (mkF m 82 #[.val (.int k0), .val (.int c0), .val (.int c1), .val (.int sh), .val (.int (1 : Int32)), .val (.ref aPUBLIC), .val (.ref b231), .val .null, .unset, .unset] [(.ref b294)]))
        refine GoW.st (fun _ k => XS.astore X312.here hx rfl (hb hby at_82) rfl rfl (l' := #[.val (.int k0), .val (.int c0), .val (.int c1), .val (.int sh), .val (.int (1 : Int32)), .val (.ref aPUBLIC), .val (.ref b231), .val .null, .val (.ref b294), .unset]) rfl k) ?_
        refine GoW.st (fun _ k => XS.iload X312.here hx rfl (hb hby at_84) rfl k) ?_
        refine GoW.st (fun _ k => XS.iconst X312.here hx rfl (hb hby at_86) k) ?_
        refine GoW.st (fun _ k => XS.icmpYes X312.here hx rfl (pc0 := 87) (pc' := 94) rfl (hb hby at_87) rfl (feq (neI liI_1 liI_2 (by decide))).2 (by decide) (by decide) k) ?_
        refine GoW.st (fun _ k => XS.iconst X312.here hx rfl (hb hby at_94) k) ?_
        refine GoW.st (fun _ k => XS.istore X312.here hx rfl (hb hby at_95) rfl (l' := #[.val (.int k0), .val (.int c0), .val (.int c1), .val (.int sh), .val (.int (1 : Int32)), .val (.ref aPUBLIC), .val (.ref b231), .val .null, .val (.ref b294), .val (.int (0 : Int32))]) rfl k) ?_
        show GoW p e below s Q 4 10 (T312.setTop (mkF m 97 #[.val (.int k0), .val (.int c0), .val (.int c1), .val (.int sh), .val (.int (1 : Int32)), .val (.ref aPUBLIC), .val (.ref b231), .val .null, .val (.ref b294), .val (.int (0 : Int32))] []))
        refine GoW.st (fun _ k => XS.aload X312.here hx rfl (hb hby at_97) rfl rfl k) ?_
        obtain ⟨cq326, kq326, q326a, q326b, q326c⟩ := isOf hZ rfl h314
        obtain ⟨_, _, ⟨T326, L326, k326, n326⟩, -, X326, ⟨Lc326, hQ326, l326, y326, z326⟩, st326⟩ := X312.virtualBack hx (y := (⟨"com/example/graf/graf/routes/Match", "isLogout", "()Z"⟩ : MethodName)) (z := (⟨"com/example/graf/graf/routes/Match", "isLogout", "()Z"⟩ : MethodName)) hown (mvT hZ (hw _ (List.mem_of_getElem? (i := 48) rfl))) (mvT hZ (hw _ (List.mem_of_getElem? (i := 49) rfl))) (notFace_of_selects (args := #[]) (mvT hZ (hw _ (List.mem_of_getElem? (i := 51) rfl)))) (mvT hZ (hw _ (List.mem_of_getElem? (i := 51) rfl))) (mvT hZ (hw _ (List.mem_of_getElem? (i := 50) rfl))) (by decide) (backOf (W := 0) (rmlo l Z a0 hw [] b294 aLOGOUT aPUBLIC T312.heap n0 (Nat.le_trans Z0 K312.1) h313 h317 (Ne.symm ne_aLOGOUT_aPUBLIC)) hZ (hw _ (List.mem_of_getElem? (i := 52) rfl)) (hw _ (List.mem_of_getElem? (i := 39) rfl)) (by decide) (by decide)) q326a q326c (g := (mkF m 99 #[.val (.int k0), .val (.int c0), .val (.int c1), .val (.int sh), .val (.int (1 : Int32)), .val (.ref aPUBLIC), .val (.ref b231), .val .null, .val (.ref b294), .val (.int (0 : Int32))] [(.ref b294)])) rfl (by rw [hml]; rfl) (Steps.refl _) (argsL := []) (rest := []) (lenOf pd_6 rfl) rfl (by show 2 * 0 + _ ≤ _; exact Nat.le_of_eq rfl) (hb hby at_99) (fun _ _ => ⟨rfl, rfl, (by decide : 2 + 0 ≤ _), (by decide : 4 + 0 ≤ _)⟩)
        dsimp only [Pt.U, Pt.locs, Pt.cells, Pt.slots] at X326 l326 y326 z326 st326 hQ326
        subst l326 y326 z326
        obtain ⟨rfl, N326q, e326⟩ := hQ326
        have N326 := Fr.app N312 N326q
        refine GoW.tr  st326 ?_
        show GoW p e below s Q 4 10 (T326.setTop (mkF m 102 #[.val (.int k0), .val (.int c0), .val (.int c1), .val (.int sh), .val (.int (1 : Int32)), .val (.ref aPUBLIC), .val (.ref b231), .val .null, .val (.ref b294), .val (.int (0 : Int32))] [(.int (0 : Int32))]))
        refine GoW.st (fun _ k => XS.iload X326.here hx rfl (hb hby at_102) rfl k) ?_
        refine GoW.st (fun _ k => XS.icmpNo X326.here hx rfl (hb hby at_104) rfl (teq (eqI liI_0 liI_0 (by decide))).2 k) ?_
        refine GoW.st (fun _ k => XS.iconst X326.here hx rfl (hb hby at_107) k) ?_
        refine GoW.st (fun _ k => XS.goto X326.here hx rfl (pc0 := 108) (pc' := 112) rfl (hb hby at_108) (by decide) (by decide) k) ?_
        show GoW p e below s Q 4 10 (T326.setTop (mkF m 112 #[.val (.int k0), .val (.int c0), .val (.int c1), .val (.int sh), .val (.int (1 : Int32)), .val (.ref aPUBLIC), .val (.ref b231), .val .null, .val (.ref b294), .val (.int (0 : Int32))] [(.int (1 : Int32))]))
        exact GoW.retN (since0 s) (vm0 := s.vm) X326 (Nat.zero_le _) hx hlk (by simp) Bd.returns (hb hby at_112) (z' := (1 : Int32)) (by decide) (by rw [← hQ, e326]; exact ⟨rfl, N326, K312⟩) (by decide) (by decide)
      ·
        refine GoW.st (fun _ k => XS.ifNo X270.here hx rfl (hb hby at_58) rfl ((if0 _ _).trans (feq (neI rfl liI_0 c293)).1) k) ?_
        obtain ⟨b327, T327, h327, k327, X327, e327, E327, hS327, hk327, hZ327, hown327, st327⟩ := ldcS (s := s) (vm0 := s.vm) X270 hx hZ hown (hw _ (List.mem_of_getElem? (i := 55) rfl)) (wStr hw) e270 (since0 s) (Nat.zero_le _) (g := (mkF m 61 #[.val (.int k0), .val (.int c0), .val (.int c1), .val (.int sh), .val (.int (1 : Int32)), .val (.ref aPUBLIC), .val (.ref b231), .unset, .unset, .unset] [])) rfl (hb hby at_61) (n := 0) (by decide) (by decide) (by decide) (by decide)
        have h328 : Sta Z h327 "com/example/graf/graf/routes/RouteKind" "GUARDED" "Lcom/example/graf/graf/routes/RouteKind;" (.ref aGUARDED) := h271.ext E327
        have h329 : Exa Z h327 aGUARDED "com/example/graf/graf/routes/RouteKind" := h272.ext E327
        have h330 : Sta Z h327 "com/example/graf/graf/routes/RouteKind" "LOGOUT" "Lcom/example/graf/graf/routes/RouteKind;" (.ref aLOGOUT) := h273.ext E327
        have h331 : Exa Z h327 aLOGOUT "com/example/graf/graf/routes/RouteKind" := h274.ext E327
        have h332 : Fld Z h327 aGUARDED "java/lang/Enum" "ordinal" "I" (.int (0 : Int32)) := h275.ext E327
        have h333 : Fld Z h327 aLOGOUT "java/lang/Enum" "ordinal" "I" (.int (2 : Int32)) := h276.ext E327
        have h334 : Sta Z h327 "com/example/graf/graf/routes/RouteKind" "PUBLIC" "Lcom/example/graf/graf/routes/RouteKind;" (.ref aPUBLIC) := h277.ext E327
        have h335 : Exa Z h327 aPUBLIC "com/example/graf/graf/routes/RouteKind" := h278.ext E327
        have h336 : Fld Z h327 aPUBLIC "java/lang/Enum" "ordinal" "I" (.int (1 : Int32)) := h279.ext E327
        have h337 : Sta Z h327 "java/lang/String" "COMPACT_STRINGS" "Z" (.int zc) := h280.ext E327
        have h338 : Vec Z h327 b231 .char (2 : Int32) (ints (lst [ci0, ci1])) := h281.ext E327
        have K327 : Keep h0 h327 [] := K270.ext E327
        refine GoW.st st327 ?_
        show GoW p e below s Q 4 10 (T327.setTop (mkF m 63 #[.val (.int k0), .val (.int c0), .val (.int c1), .val (.int sh), .val (.int (1 : Int32)), .val (.ref aPUBLIC), .val (.ref b231), .unset, .unset, .unset] [(.ref b327)]))
        refine GoW.st (fun _ k => XS.astore X327.here hx rfl (hb hby at_63) rfl rfl (l' := #[.val (.int k0), .val (.int c0), .val (.int c1), .val (.int sh), .val (.int (1 : Int32)), .val (.ref aPUBLIC), .val (.ref b231), .val (.ref b327), .unset, .unset]) rfl k) ?_
        refine GoW.st (fun _ k => XS.goto X327.here hx rfl (pc0 := 65) (pc' := 71) rfl (hb hby at_65) (by decide) (by decide) k) ?_
        obtain ⟨T339, h339, X339, e339, E339, A339, D339, -, st339⟩ := newO X327 hx hZ327 hown327 (hw _ (List.mem_of_getElem? (i := 37) rfl)) (hw _ (List.mem_of_getElem? (i := 38) rfl)) (hw _ (List.mem_of_getElem? (i := 39) rfl)) e327 (g := (mkF m 71 #[.val (.int k0), .val (.int c0), .val (.int c1), .val (.int sh), .val (.int (1 : Int32)), .val (.ref aPUBLIC), .val (.ref b231), .val (.ref b327), .unset, .unset] [])) rfl (hb hby at_71) (by decide) (by decide)
        obtain ⟨b339, g339⟩ : ∃ z, z = h327.size := ⟨_, rfl⟩
        rw [← g339] at A339 D339 st339
        have q340 : aGUARDED ≠ b339 := Nat.ne_of_lt (Nat.lt_of_lt_of_le h329.lt (Nat.le_of_eq g339.symm))
        have q341 : aLOGOUT ≠ b339 := Nat.ne_of_lt (Nat.lt_of_lt_of_le h331.lt (Nat.le_of_eq g339.symm))
        have q342 : aPUBLIC ≠ b339 := Nat.ne_of_lt (Nat.lt_of_lt_of_le h335.lt (Nat.le_of_eq g339.symm))
        have q343 : b231 ≠ b339 := Nat.ne_of_lt (Nat.lt_of_lt_of_le h338.lt (Nat.le_of_eq g339.symm))
        have h344 : Sta Z h339 "com/example/graf/graf/routes/RouteKind" "GUARDED" "Lcom/example/graf/graf/routes/RouteKind;" (.ref aGUARDED) := h328.ext E339
        have h345 : Exa Z h339 aGUARDED "com/example/graf/graf/routes/RouteKind" := h329.ext E339
        have h346 : Sta Z h339 "com/example/graf/graf/routes/RouteKind" "LOGOUT" "Lcom/example/graf/graf/routes/RouteKind;" (.ref aLOGOUT) := h330.ext E339
        have h347 : Exa Z h339 aLOGOUT "com/example/graf/graf/routes/RouteKind" := h331.ext E339
        have h348 : Fld Z h339 aGUARDED "java/lang/Enum" "ordinal" "I" (.int (0 : Int32)) := h332.ext E339
        have h349 : Fld Z h339 aLOGOUT "java/lang/Enum" "ordinal" "I" (.int (2 : Int32)) := h333.ext E339
        have h350 : Sta Z h339 "com/example/graf/graf/routes/RouteKind" "PUBLIC" "Lcom/example/graf/graf/routes/RouteKind;" (.ref aPUBLIC) := h334.ext E339
        have h351 : Exa Z h339 aPUBLIC "com/example/graf/graf/routes/RouteKind" := h335.ext E339
        have h352 : Fld Z h339 aPUBLIC "java/lang/Enum" "ordinal" "I" (.int (1 : Int32)) := h336.ext E339
        have h353 : Sta Z h339 "java/lang/String" "COMPACT_STRINGS" "Z" (.int zc) := h337.ext E339
        have h354 : Vec Z h339 b231 .char (2 : Int32) (ints (lst [ci0, ci1])) := h338.ext E339
        have h355 : k327 ≤ h339.size := Nat.le_trans hk327 E339.1
        have Gb339 : n0 ≤ b339 := Nat.le_trans (Nat.le_trans Z0 K327.1) (Nat.le_of_eq g339.symm)
        have szb339 : h0.size ≤ b339 := Nat.le_trans K327.1 (Nat.le_of_eq g339.symm)
        have K339 : Keep h0 h339 [] := K327.ext E339
        have h356 : Fld Z h339 b339 "com/example/graf/graf/routes/Match" "node" "Ljava/lang/String;" .null := D339 (Or.inr (hw _ (List.mem_of_getElem? (i := 45) rfl))) (ty := (.object "java/lang/String")) (by decide)
        have h357 : Fld Z h339 b339 "com/example/graf/graf/routes/Match" "kind" "Lcom/example/graf/graf/routes/RouteKind;" .null := D339 (Or.inr (hw _ (List.mem_of_getElem? (i := 47) rfl))) (ty := (.object "com/example/graf/graf/routes/RouteKind")) (by decide)
        refine GoW.st st339 ?_
        show GoW p e below s Q 4 10 (T339.setTop (mkF m 74 #[.val (.int k0), .val (.int c0), .val (.int c1), .val (.int sh), .val (.int (1 : Int32)), .val (.ref aPUBLIC), .val (.ref b231), .val (.ref b327), .unset, .unset] [(.ref b339)]))
        refine GoW.st (fun _ k => XS.dup X339.here hx rfl (hb hby at_74) rfl rfl k) ?_
        refine GoW.st (fun _ k => XS.aload X339.here hx rfl (hb hby at_75) rfl rfl k) ?_
        refine GoW.st (fun _ k => XS.aload X339.here hx rfl (hb hby at_77) rfl rfl k) ?_
        obtain ⟨_, _, ⟨T358, L358, k358, n358⟩, -, X358, ⟨Lc358, hQ358, l358, y358, z358⟩, st358⟩ := X339.specialBack hx (y := (⟨"com/example/graf/graf/routes/Match", "<init>", "(Ljava/lang/String;Lcom/example/graf/graf/routes/RouteKind;)V"⟩ : MethodName)) rfl hown327 (mvT hZ327 (hw _ (List.mem_of_getElem? (i := 40) rfl))) (mvT hZ327 (hw _ (List.mem_of_getElem? (i := 41) rfl))) (mvT hZ327 (hw _ (List.mem_of_getElem? (i := 42) rfl))) (by decide) (backOf (W := 1) (rmm11 l Z a0 hw [] b339 b327 aPUBLIC h339 n0 (Nat.le_trans Z0 K339.1) h356 h357 A339 Gb339) hZ327 (hw _ (List.mem_of_getElem? (i := 42) rfl)) (hw _ (List.mem_of_getElem? (i := 39) rfl)) (by decide) (by decide)) (g := (mkF m 79 #[.val (.int k0), .val (.int c0), .val (.int c1), .val (.int sh), .val (.int (1 : Int32)), .val (.ref aPUBLIC), .val (.ref b231), .val (.ref b327), .unset, .unset] [(.ref aPUBLIC), (.ref b327), (.ref b339), (.ref b339)])) rfl (by rw [hml]; rfl) (Steps.refl _) (a := b339) (argsL := [(.ref b327), (.ref aPUBLIC)]) (rest := [(.ref b339)]) (lenOf pd_5 rfl) rfl (by show 2 * 0 + _ ≤ _; exact Nat.le_of_eq rfl) (hb hby at_79) (fun _ _ => ⟨rfl, e339, (by decide : 4 + 0 ≤ _), (by decide : 8 + 0 ≤ _)⟩)
        dsimp only [Pt.U, Pt.locs, Pt.cells, Pt.slots] at X358 l358 y358 z358 st358 hQ358
        subst l358 y358 z358
        obtain ⟨rfl, N358q, K358q, h359, h360⟩ := hQ358
        have N358 := Fr.app N270 N358q
        have h361 : Sta Z T358.heap "com/example/graf/graf/routes/RouteKind" "GUARDED" "Lcom/example/graf/graf/routes/RouteKind;" (.ref aGUARDED) := Jvm.OwnGo.sta_keep h344 K358q (fun x hx => (allS (P := fun x => Exi h339 x) (exi_exa A339) all0) x hx)
        have h362 : Exa Z T358.heap aGUARDED "com/example/graf/graf/routes/RouteKind" := h345.keep K358q
        have h363 : Sta Z T358.heap "com/example/graf/graf/routes/RouteKind" "LOGOUT" "Lcom/example/graf/graf/routes/RouteKind;" (.ref aLOGOUT) := Jvm.OwnGo.sta_keep h346 K358q (fun x hx => (allS (P := fun x => Exi h339 x) (exi_exa A339) all0) x hx)
        have h364 : Exa Z T358.heap aLOGOUT "com/example/graf/graf/routes/RouteKind" := h347.keep K358q
        have h365 : Fld Z T358.heap aGUARDED "java/lang/Enum" "ordinal" "I" (.int (0 : Int32)) := h348.keep K358q (ninS q340 nin0)
        have h366 : Fld Z T358.heap aLOGOUT "java/lang/Enum" "ordinal" "I" (.int (2 : Int32)) := h349.keep K358q (ninS q341 nin0)
        have h367 : Sta Z T358.heap "com/example/graf/graf/routes/RouteKind" "PUBLIC" "Lcom/example/graf/graf/routes/RouteKind;" (.ref aPUBLIC) := Jvm.OwnGo.sta_keep h350 K358q (fun x hx => (allS (P := fun x => Exi h339 x) (exi_exa A339) all0) x hx)
        have h368 : Exa Z T358.heap aPUBLIC "com/example/graf/graf/routes/RouteKind" := h351.keep K358q
        have h369 : Fld Z T358.heap aPUBLIC "java/lang/Enum" "ordinal" "I" (.int (1 : Int32)) := h352.keep K358q (ninS q342 nin0)
        have h370 : Sta Z T358.heap "java/lang/String" "COMPACT_STRINGS" "Z" (.int zc) := Jvm.OwnGo.sta_keep h353 K358q (fun x hx => (allS (P := fun x => Exi h339 x) (exi_exa A339) all0) x hx)
        have h371 : Vec Z T358.heap b231 .char (2 : Int32) (ints (lst [ci0, ci1])) := h354.keep K358q (ninS q343 nin0)
        have h372 : k327 ≤ T358.heap.size := Nat.le_trans h355 K358q.1
        have K358 : Keep h0 T358.heap [] := K339.trans K358q (fun x hx => (show ∀ x ∈ ([b339] : List Addr), x ∈ ([] : List Addr) ∨ h0.size ≤ x from (allS (Or.inr szb339) all0)) x hx)
        refine GoW.tr  st358 ?_
        show GoW p e below s Q 4 10 (T358.setTop (mkF m 82 #[.val (.int k0), .val (.int c0), .val (.int c1), .val (.int sh), .val (.int (1 : Int32)), .val (.ref aPUBLIC), .val (.ref b231), .val (.ref b327), .unset, .unset] [(.ref b339)]))
        refine GoW.st (fun _ k => XS.astore X358.here hx rfl (hb hby at_82) rfl rfl (l' := #[.val (.int k0), .val (.int c0), .val (.int c1), .val (.int sh), .val (.int (1 : Int32)), .val (.ref aPUBLIC), .val (.ref b231), .val (.ref b327), .val (.ref b339), .unset]) rfl k) ?_
        refine GoW.st (fun _ k => XS.iload X358.here hx rfl (hb hby at_84) rfl k) ?_
        refine GoW.st (fun _ k => XS.iconst X358.here hx rfl (hb hby at_86) k) ?_
        refine GoW.st (fun _ k => XS.icmpYes X358.here hx rfl (pc0 := 87) (pc' := 94) rfl (hb hby at_87) rfl (feq (neI liI_1 liI_2 (by decide))).2 (by decide) (by decide) k) ?_
        refine GoW.st (fun _ k => XS.iconst X358.here hx rfl (hb hby at_94) k) ?_
        refine GoW.st (fun _ k => XS.istore X358.here hx rfl (hb hby at_95) rfl (l' := #[.val (.int k0), .val (.int c0), .val (.int c1), .val (.int sh), .val (.int (1 : Int32)), .val (.ref aPUBLIC), .val (.ref b231), .val (.ref b327), .val (.ref b339), .val (.int (0 : Int32))]) rfl k) ?_
        show GoW p e below s Q 4 10 (T358.setTop (mkF m 97 #[.val (.int k0), .val (.int c0), .val (.int c1), .val (.int sh), .val (.int (1 : Int32)), .val (.ref aPUBLIC), .val (.ref b231), .val (.ref b327), .val (.ref b339), .val (.int (0 : Int32))] []))
        refine GoW.st (fun _ k => XS.aload X358.here hx rfl (hb hby at_97) rfl rfl k) ?_
        obtain ⟨cq373, kq373, q373a, q373b, q373c⟩ := isOf hZ327 rfl h360
        obtain ⟨_, _, ⟨T373, L373, k373, n373⟩, -, X373, ⟨Lc373, hQ373, l373, y373, z373⟩, st373⟩ := X358.virtualBack hx (y := (⟨"com/example/graf/graf/routes/Match", "isLogout", "()Z"⟩ : MethodName)) (z := (⟨"com/example/graf/graf/routes/Match", "isLogout", "()Z"⟩ : MethodName)) hown327 (mvT hZ327 (hw _ (List.mem_of_getElem? (i := 48) rfl))) (mvT hZ327 (hw _ (List.mem_of_getElem? (i := 49) rfl))) (notFace_of_selects (args := #[]) (mvT hZ327 (hw _ (List.mem_of_getElem? (i := 51) rfl)))) (mvT hZ327 (hw _ (List.mem_of_getElem? (i := 51) rfl))) (mvT hZ327 (hw _ (List.mem_of_getElem? (i := 50) rfl))) (by decide) (backOf (W := 0) (rmlo l Z a0 hw [] b339 aLOGOUT aPUBLIC T358.heap n0 (Nat.le_trans Z0 K358.1) h359 h363 (Ne.symm ne_aLOGOUT_aPUBLIC)) hZ327 (hw _ (List.mem_of_getElem? (i := 52) rfl)) (hw _ (List.mem_of_getElem? (i := 39) rfl)) (by decide) (by decide)) q373a q373c (g := (mkF m 99 #[.val (.int k0), .val (.int c0), .val (.int c1), .val (.int sh), .val (.int (1 : Int32)), .val (.ref aPUBLIC), .val (.ref b231), .val (.ref b327), .val (.ref b339), .val (.int (0 : Int32))] [(.ref b339)])) rfl (by rw [hml]; rfl) (Steps.refl _) (argsL := []) (rest := []) (lenOf pd_6 rfl) rfl (by show 2 * 0 + _ ≤ _; exact Nat.le_of_eq rfl) (hb hby at_99) (fun _ _ => ⟨rfl, rfl, (by decide : 4 + 0 ≤ _), (by decide : 8 + 0 ≤ _)⟩)
        dsimp only [Pt.U, Pt.locs, Pt.cells, Pt.slots] at X373 l373 y373 z373 st373 hQ373
        subst l373 y373 z373
        obtain ⟨rfl, N373q, e373⟩ := hQ373
        have N373 := Fr.app N358 N373q
        refine GoW.tr  st373 ?_
        show GoW p e below s Q 4 10 (T373.setTop (mkF m 102 #[.val (.int k0), .val (.int c0), .val (.int c1), .val (.int sh), .val (.int (1 : Int32)), .val (.ref aPUBLIC), .val (.ref b231), .val (.ref b327), .val (.ref b339), .val (.int (0 : Int32))] [(.int (0 : Int32))]))
        refine GoW.st (fun _ k => XS.iload X373.here hx rfl (hb hby at_102) rfl k) ?_
        refine GoW.st (fun _ k => XS.icmpNo X373.here hx rfl (hb hby at_104) rfl (teq (eqI liI_0 liI_0 (by decide))).2 k) ?_
        refine GoW.st (fun _ k => XS.iconst X373.here hx rfl (hb hby at_107) k) ?_
        refine GoW.st (fun _ k => XS.goto X373.here hx rfl (pc0 := 108) (pc' := 112) rfl (hb hby at_108) (by decide) (by decide) k) ?_
        show GoW p e below s Q 4 10 (T373.setTop (mkF m 112 #[.val (.int k0), .val (.int c0), .val (.int c1), .val (.int sh), .val (.int (1 : Int32)), .val (.ref aPUBLIC), .val (.ref b231), .val (.ref b327), .val (.ref b339), .val (.int (0 : Int32))] [(.int (1 : Int32))]))
        exact GoW.retN hS327 (vm0 := T327.vm) X373 (by rw [e373]; exact h372) hx hlk (by simp) Bd.returns (hb hby at_112) (z' := (1 : Int32)) (by decide) (by rw [← hQ, e373]; exact ⟨rfl, N373, K358⟩) (by decide) (by decide)
    ·
      refine GoW.st (fun _ k => XS.ifNo X270.here hx rfl (hb hby at_38) rfl ((if0 _ _).trans (feq (neI rfl liI_0 c290)).1) k) ?_
      obtain ⟨T374, h374, X374, e374, E374, A374, D374, -, st374⟩ := newO X270 hx hZ hown (hw _ (List.mem_of_getElem? (i := 8) rfl)) (hw _ (List.mem_of_getElem? (i := 9) rfl)) (hw _ (List.mem_of_getElem? (i := 10) rfl)) e270 (g := (mkF m 41 #[.val (.int k0), .val (.int c0), .val (.int c1), .val (.int sh), .val (.int (1 : Int32)), .val (.ref aPUBLIC), .val (.ref b231), .unset, .unset, .unset] [])) rfl (hb hby at_41) (by decide) (by decide)
      obtain ⟨b374, g374⟩ : ∃ z, z = h270.size := ⟨_, rfl⟩
      rw [← g374] at A374 D374 st374
      have q375 : aGUARDED ≠ b374 := Nat.ne_of_lt (Nat.lt_of_lt_of_le h272.lt (Nat.le_of_eq g374.symm))
      have q376 : aLOGOUT ≠ b374 := Nat.ne_of_lt (Nat.lt_of_lt_of_le h274.lt (Nat.le_of_eq g374.symm))
      have q377 : aPUBLIC ≠ b374 := Nat.ne_of_lt (Nat.lt_of_lt_of_le h278.lt (Nat.le_of_eq g374.symm))
      have q378 : b231 ≠ b374 := Nat.ne_of_lt (Nat.lt_of_lt_of_le h281.lt (Nat.le_of_eq g374.symm))
      have h379 : Sta Z h374 "com/example/graf/graf/routes/RouteKind" "GUARDED" "Lcom/example/graf/graf/routes/RouteKind;" (.ref aGUARDED) := h271.ext E374
      have h380 : Exa Z h374 aGUARDED "com/example/graf/graf/routes/RouteKind" := h272.ext E374
      have h381 : Sta Z h374 "com/example/graf/graf/routes/RouteKind" "LOGOUT" "Lcom/example/graf/graf/routes/RouteKind;" (.ref aLOGOUT) := h273.ext E374
      have h382 : Exa Z h374 aLOGOUT "com/example/graf/graf/routes/RouteKind" := h274.ext E374
      have h383 : Fld Z h374 aGUARDED "java/lang/Enum" "ordinal" "I" (.int (0 : Int32)) := h275.ext E374
      have h384 : Fld Z h374 aLOGOUT "java/lang/Enum" "ordinal" "I" (.int (2 : Int32)) := h276.ext E374
      have h385 : Sta Z h374 "com/example/graf/graf/routes/RouteKind" "PUBLIC" "Lcom/example/graf/graf/routes/RouteKind;" (.ref aPUBLIC) := h277.ext E374
      have h386 : Exa Z h374 aPUBLIC "com/example/graf/graf/routes/RouteKind" := h278.ext E374
      have h387 : Fld Z h374 aPUBLIC "java/lang/Enum" "ordinal" "I" (.int (1 : Int32)) := h279.ext E374
      have h388 : Sta Z h374 "java/lang/String" "COMPACT_STRINGS" "Z" (.int zc) := h280.ext E374
      have h389 : Vec Z h374 b231 .char (2 : Int32) (ints (lst [ci0, ci1])) := h281.ext E374
      have Gb374 : n0 ≤ b374 := Nat.le_trans (Nat.le_trans Z0 K270.1) (Nat.le_of_eq g374.symm)
      have szb374 : h0.size ≤ b374 := Nat.le_trans K270.1 (Nat.le_of_eq g374.symm)
      have K374 : Keep h0 h374 [] := K270.ext E374
      have h390 : Fld Z h374 b374 "java/lang/String" "coder" "B" (.int (0 : Int32)) := D374 (Or.inr (hw _ (List.mem_of_getElem? (i := 34) rfl))) (ty := .byte) (by decide)
      have h391 : Fld Z h374 b374 "java/lang/String" "value" "[B" .null := D374 (Or.inr (hw _ (List.mem_of_getElem? (i := 36) rfl))) (ty := (.array .byte)) (by decide)
      refine GoW.st st374 ?_
      show GoW p e below s Q 4 10 (T374.setTop (mkF m 44 #[.val (.int k0), .val (.int c0), .val (.int c1), .val (.int sh), .val (.int (1 : Int32)), .val (.ref aPUBLIC), .val (.ref b231), .unset, .unset, .unset] [(.ref b374)]))
      refine GoW.st (fun _ k => XS.dup X374.here hx rfl (hb hby at_44) rfl rfl k) ?_
      refine GoW.st (fun _ k => XS.aload X374.here hx rfl (hb hby at_45) rfl rfl k) ?_
      have f393 := rng32 zc
      have p394 : ¬ zc.toInt = 0 := by omega
      obtain ⟨_, _, ⟨T392, L392, k392, n392⟩, -, X392, ⟨Lc392, hQ392, l392, y392, z392⟩, st392⟩ := X374.specialBack hx (y := (⟨"java/lang/String", "<init>", "([C)V"⟩ : MethodName)) rfl hown (mvT hZ (hw _ (List.mem_of_getElem? (i := 11) rfl))) (mvT hZ (hw _ (List.mem_of_getElem? (i := 12) rfl))) (mvT hZ (hw _ (List.mem_of_getElem? (i := 13) rfl))) (by decide) (backOf (W := 1) (rm2 l Z a0 hw [] b374 b231 (lst [ci0, ci1]) zc h374 n0 (Nat.le_trans Z0 K374.1) h391 h390 A374 Gb374 h389 hcs q378 h388 p394) hZ (hw _ (List.mem_of_getElem? (i := 13) rfl)) (hw _ (List.mem_of_getElem? (i := 10) rfl)) (by decide) (by decide)) (g := (mkF m 47 #[.val (.int k0), .val (.int c0), .val (.int c1), .val (.int sh), .val (.int (1 : Int32)), .val (.ref aPUBLIC), .val (.ref b231), .unset, .unset, .unset] [(.ref b231), (.ref b374), (.ref b374)])) rfl (by rw [hml]; rfl) (Steps.refl _) (a := b374) (argsL := [(.ref b231)]) (rest := [(.ref b374)]) (lenOf pd_7 rfl) rfl (by show 2 * 0 + _ ≤ _; exact Nat.le_of_eq rfl) (hb hby at_47) (fun _ _ => ⟨rfl, e374, (by decide : 2 + 1 ≤ _), (by decide : 6 + 2 ≤ _)⟩)
      dsimp only [Pt.U, Pt.locs, Pt.cells, Pt.slots] at X392 l392 y392 z392 st392 hQ392
      subst l392 y392 z392
      obtain ⟨rfl, N392q, K392q⟩ := hQ392
      have N392 := Fr.app N270 N392q
      have h395 : Sta Z T392.heap "com/example/graf/graf/routes/RouteKind" "GUARDED" "Lcom/example/graf/graf/routes/RouteKind;" (.ref aGUARDED) := Jvm.OwnGo.sta_keep h379 K392q (fun x hx => (allS (P := fun x => Exi h374 x) (exi_exa A374) all0) x hx)
      have h396 : Exa Z T392.heap aGUARDED "com/example/graf/graf/routes/RouteKind" := h380.keep K392q
      have h397 : Sta Z T392.heap "com/example/graf/graf/routes/RouteKind" "LOGOUT" "Lcom/example/graf/graf/routes/RouteKind;" (.ref aLOGOUT) := Jvm.OwnGo.sta_keep h381 K392q (fun x hx => (allS (P := fun x => Exi h374 x) (exi_exa A374) all0) x hx)
      have h398 : Exa Z T392.heap aLOGOUT "com/example/graf/graf/routes/RouteKind" := h382.keep K392q
      have h399 : Fld Z T392.heap aGUARDED "java/lang/Enum" "ordinal" "I" (.int (0 : Int32)) := h383.keep K392q (ninS q375 nin0)
      have h400 : Fld Z T392.heap aLOGOUT "java/lang/Enum" "ordinal" "I" (.int (2 : Int32)) := h384.keep K392q (ninS q376 nin0)
      have h401 : Sta Z T392.heap "com/example/graf/graf/routes/RouteKind" "PUBLIC" "Lcom/example/graf/graf/routes/RouteKind;" (.ref aPUBLIC) := Jvm.OwnGo.sta_keep h385 K392q (fun x hx => (allS (P := fun x => Exi h374 x) (exi_exa A374) all0) x hx)
      have h402 : Exa Z T392.heap aPUBLIC "com/example/graf/graf/routes/RouteKind" := h386.keep K392q
      have h403 : Fld Z T392.heap aPUBLIC "java/lang/Enum" "ordinal" "I" (.int (1 : Int32)) := h387.keep K392q (ninS q377 nin0)
      have h404 : Sta Z T392.heap "java/lang/String" "COMPACT_STRINGS" "Z" (.int zc) := Jvm.OwnGo.sta_keep h388 K392q (fun x hx => (allS (P := fun x => Exi h374 x) (exi_exa A374) all0) x hx)
      have h405 : Vec Z T392.heap b231 .char (2 : Int32) (ints (lst [ci0, ci1])) := h389.keep K392q (ninS q378 nin0)
      have h406 : Exa Z T392.heap b374 "java/lang/String" := A374.keep K392q
      have K392 : Keep h0 T392.heap [] := K374.trans K392q (fun x hx => (show ∀ x ∈ ([b374] : List Addr), x ∈ ([] : List Addr) ∨ h0.size ≤ x from (allS (Or.inr szb374) all0)) x hx)
      refine GoW.tr  st392 ?_
      show GoW p e below s Q 4 10 (T392.setTop (mkF m 50 #[.val (.int k0), .val (.int c0), .val (.int c1), .val (.int sh), .val (.int (1 : Int32)), .val (.ref aPUBLIC), .val (.ref b231), .unset, .unset, .unset] [(.ref b374)]))
      refine GoW.st (fun _ k => XS.astore X392.here hx rfl (hb hby at_50) rfl rfl (l' := #[.val (.int k0), .val (.int c0), .val (.int c1), .val (.int sh), .val (.int (1 : Int32)), .val (.ref aPUBLIC), .val (.ref b231), .val (.ref b374), .unset, .unset]) rfl k) ?_
      refine GoW.st (fun _ k => XS.goto X392.here hx rfl (pc0 := 52) (pc' := 71) rfl (hb hby at_52) (by decide) (by decide) k) ?_
      obtain ⟨T407, h407, X407, e407, E407, A407, D407, -, st407⟩ := newO X392 hx hZ hown (hw _ (List.mem_of_getElem? (i := 37) rfl)) (hw _ (List.mem_of_getElem? (i := 38) rfl)) (hw _ (List.mem_of_getElem? (i := 39) rfl)) rfl (g := (mkF m 71 #[.val (.int k0), .val (.int c0), .val (.int c1), .val (.int sh), .val (.int (1 : Int32)), .val (.ref aPUBLIC), .val (.ref b231), .val (.ref b374), .unset, .unset] [])) rfl (hb hby at_71) (by decide) (by decide)
      obtain ⟨b407, g407⟩ : ∃ z, z = T392.heap.size := ⟨_, rfl⟩
      rw [← g407] at A407 D407 st407
      have q408 : aGUARDED ≠ b407 := Nat.ne_of_lt (Nat.lt_of_lt_of_le h396.lt (Nat.le_of_eq g407.symm))
      have q409 : aLOGOUT ≠ b407 := Nat.ne_of_lt (Nat.lt_of_lt_of_le h398.lt (Nat.le_of_eq g407.symm))
      have q410 : aPUBLIC ≠ b407 := Nat.ne_of_lt (Nat.lt_of_lt_of_le h402.lt (Nat.le_of_eq g407.symm))
      have q411 : b231 ≠ b407 := Nat.ne_of_lt (Nat.lt_of_lt_of_le h405.lt (Nat.le_of_eq g407.symm))
      have q412 : b374 ≠ b407 := Nat.ne_of_lt (Nat.lt_of_lt_of_le h406.lt (Nat.le_of_eq g407.symm))
      have h413 : Sta Z h407 "com/example/graf/graf/routes/RouteKind" "GUARDED" "Lcom/example/graf/graf/routes/RouteKind;" (.ref aGUARDED) := h395.ext E407
      have h414 : Exa Z h407 aGUARDED "com/example/graf/graf/routes/RouteKind" := h396.ext E407
      have h415 : Sta Z h407 "com/example/graf/graf/routes/RouteKind" "LOGOUT" "Lcom/example/graf/graf/routes/RouteKind;" (.ref aLOGOUT) := h397.ext E407
      have h416 : Exa Z h407 aLOGOUT "com/example/graf/graf/routes/RouteKind" := h398.ext E407
      have h417 : Fld Z h407 aGUARDED "java/lang/Enum" "ordinal" "I" (.int (0 : Int32)) := h399.ext E407
      have h418 : Fld Z h407 aLOGOUT "java/lang/Enum" "ordinal" "I" (.int (2 : Int32)) := h400.ext E407
      have h419 : Sta Z h407 "com/example/graf/graf/routes/RouteKind" "PUBLIC" "Lcom/example/graf/graf/routes/RouteKind;" (.ref aPUBLIC) := h401.ext E407
      have h420 : Exa Z h407 aPUBLIC "com/example/graf/graf/routes/RouteKind" := h402.ext E407
      have h421 : Fld Z h407 aPUBLIC "java/lang/Enum" "ordinal" "I" (.int (1 : Int32)) := h403.ext E407
      have h422 : Sta Z h407 "java/lang/String" "COMPACT_STRINGS" "Z" (.int zc) := h404.ext E407
      have h423 : Vec Z h407 b231 .char (2 : Int32) (ints (lst [ci0, ci1])) := h405.ext E407
      have h424 : Exa Z h407 b374 "java/lang/String" := h406.ext E407
      have Gb407 : n0 ≤ b407 := Nat.le_trans (Nat.le_trans Z0 K392.1) (Nat.le_of_eq g407.symm)
      have szb407 : h0.size ≤ b407 := Nat.le_trans K392.1 (Nat.le_of_eq g407.symm)
      have K407 : Keep h0 h407 [] := K392.ext E407
      have h425 : Fld Z h407 b407 "com/example/graf/graf/routes/Match" "node" "Ljava/lang/String;" .null := D407 (Or.inr (hw _ (List.mem_of_getElem? (i := 45) rfl))) (ty := (.object "java/lang/String")) (by decide)
      have h426 : Fld Z h407 b407 "com/example/graf/graf/routes/Match" "kind" "Lcom/example/graf/graf/routes/RouteKind;" .null := D407 (Or.inr (hw _ (List.mem_of_getElem? (i := 47) rfl))) (ty := (.object "com/example/graf/graf/routes/RouteKind")) (by decide)
      refine GoW.st st407 ?_
      show GoW p e below s Q 4 10 (T407.setTop (mkF m 74 #[.val (.int k0), .val (.int c0), .val (.int c1), .val (.int sh), .val (.int (1 : Int32)), .val (.ref aPUBLIC), .val (.ref b231), .val (.ref b374), .unset, .unset] [(.ref b407)]))
      refine GoW.st (fun _ k => XS.dup X407.here hx rfl (hb hby at_74) rfl rfl k) ?_
      refine GoW.st (fun _ k => XS.aload X407.here hx rfl (hb hby at_75) rfl rfl k) ?_
      refine GoW.st (fun _ k => XS.aload X407.here hx rfl (hb hby at_77) rfl rfl k) ?_
      obtain ⟨_, _, ⟨T427, L427, k427, n427⟩, -, X427, ⟨Lc427, hQ427, l427, y427, z427⟩, st427⟩ := X407.specialBack hx (y := (⟨"com/example/graf/graf/routes/Match", "<init>", "(Ljava/lang/String;Lcom/example/graf/graf/routes/RouteKind;)V"⟩ : MethodName)) rfl hown (mvT hZ (hw _ (List.mem_of_getElem? (i := 40) rfl))) (mvT hZ (hw _ (List.mem_of_getElem? (i := 41) rfl))) (mvT hZ (hw _ (List.mem_of_getElem? (i := 42) rfl))) (by decide) (backOf (W := 1) (rmm11 l Z a0 hw [] b407 b374 aPUBLIC h407 n0 (Nat.le_trans Z0 K407.1) h425 h426 A407 Gb407) hZ (hw _ (List.mem_of_getElem? (i := 42) rfl)) (hw _ (List.mem_of_getElem? (i := 39) rfl)) (by decide) (by decide)) (g := (mkF m 79 #[.val (.int k0), .val (.int c0), .val (.int c1), .val (.int sh), .val (.int (1 : Int32)), .val (.ref aPUBLIC), .val (.ref b231), .val (.ref b374), .unset, .unset] [(.ref aPUBLIC), (.ref b374), (.ref b407), (.ref b407)])) rfl (by rw [hml]; rfl) (Steps.refl _) (a := b407) (argsL := [(.ref b374), (.ref aPUBLIC)]) (rest := [(.ref b407)]) (lenOf pd_5 rfl) rfl (by show 2 * 0 + _ ≤ _; exact Nat.le_of_eq rfl) (hb hby at_79) (fun _ _ => ⟨rfl, e407, (by decide : 4 + 0 ≤ _), (by decide : 10 + 0 ≤ _)⟩)
      dsimp only [Pt.U, Pt.locs, Pt.cells, Pt.slots] at X427 l427 y427 z427 st427 hQ427
      subst l427 y427 z427
      obtain ⟨rfl, N427q, K427q, h428, h429⟩ := hQ427
      have N427 := Fr.app N392 N427q
      have h430 : Sta Z T427.heap "com/example/graf/graf/routes/RouteKind" "GUARDED" "Lcom/example/graf/graf/routes/RouteKind;" (.ref aGUARDED) := Jvm.OwnGo.sta_keep h413 K427q (fun x hx => (allS (P := fun x => Exi h407 x) (exi_exa A407) all0) x hx)
      have h431 : Exa Z T427.heap aGUARDED "com/example/graf/graf/routes/RouteKind" := h414.keep K427q
      have h432 : Sta Z T427.heap "com/example/graf/graf/routes/RouteKind" "LOGOUT" "Lcom/example/graf/graf/routes/RouteKind;" (.ref aLOGOUT) := Jvm.OwnGo.sta_keep h415 K427q (fun x hx => (allS (P := fun x => Exi h407 x) (exi_exa A407) all0) x hx)
      have h433 : Exa Z T427.heap aLOGOUT "com/example/graf/graf/routes/RouteKind" := h416.keep K427q
      have h434 : Fld Z T427.heap aGUARDED "java/lang/Enum" "ordinal" "I" (.int (0 : Int32)) := h417.keep K427q (ninS q408 nin0)
      have h435 : Fld Z T427.heap aLOGOUT "java/lang/Enum" "ordinal" "I" (.int (2 : Int32)) := h418.keep K427q (ninS q409 nin0)
      have h436 : Sta Z T427.heap "com/example/graf/graf/routes/RouteKind" "PUBLIC" "Lcom/example/graf/graf/routes/RouteKind;" (.ref aPUBLIC) := Jvm.OwnGo.sta_keep h419 K427q (fun x hx => (allS (P := fun x => Exi h407 x) (exi_exa A407) all0) x hx)
      have h437 : Exa Z T427.heap aPUBLIC "com/example/graf/graf/routes/RouteKind" := h420.keep K427q
      have h438 : Fld Z T427.heap aPUBLIC "java/lang/Enum" "ordinal" "I" (.int (1 : Int32)) := h421.keep K427q (ninS q410 nin0)
      have h439 : Sta Z T427.heap "java/lang/String" "COMPACT_STRINGS" "Z" (.int zc) := Jvm.OwnGo.sta_keep h422 K427q (fun x hx => (allS (P := fun x => Exi h407 x) (exi_exa A407) all0) x hx)
      have h440 : Vec Z T427.heap b231 .char (2 : Int32) (ints (lst [ci0, ci1])) := h423.keep K427q (ninS q411 nin0)
      have h441 : Exa Z T427.heap b374 "java/lang/String" := h424.keep K427q
      have K427 : Keep h0 T427.heap [] := K407.trans K427q (fun x hx => (show ∀ x ∈ ([b407] : List Addr), x ∈ ([] : List Addr) ∨ h0.size ≤ x from (allS (Or.inr szb407) all0)) x hx)
      refine GoW.tr  st427 ?_
      show GoW p e below s Q 4 10 (T427.setTop (mkF m 82 #[.val (.int k0), .val (.int c0), .val (.int c1), .val (.int sh), .val (.int (1 : Int32)), .val (.ref aPUBLIC), .val (.ref b231), .val (.ref b374), .unset, .unset] [(.ref b407)]))
      refine GoW.st (fun _ k => XS.astore X427.here hx rfl (hb hby at_82) rfl rfl (l' := #[.val (.int k0), .val (.int c0), .val (.int c1), .val (.int sh), .val (.int (1 : Int32)), .val (.ref aPUBLIC), .val (.ref b231), .val (.ref b374), .val (.ref b407), .unset]) rfl k) ?_
      refine GoW.st (fun _ k => XS.iload X427.here hx rfl (hb hby at_84) rfl k) ?_
      refine GoW.st (fun _ k => XS.iconst X427.here hx rfl (hb hby at_86) k) ?_
      refine GoW.st (fun _ k => XS.icmpYes X427.here hx rfl (pc0 := 87) (pc' := 94) rfl (hb hby at_87) rfl (feq (neI liI_1 liI_2 (by decide))).2 (by decide) (by decide) k) ?_
      refine GoW.st (fun _ k => XS.iconst X427.here hx rfl (hb hby at_94) k) ?_
      refine GoW.st (fun _ k => XS.istore X427.here hx rfl (hb hby at_95) rfl (l' := #[.val (.int k0), .val (.int c0), .val (.int c1), .val (.int sh), .val (.int (1 : Int32)), .val (.ref aPUBLIC), .val (.ref b231), .val (.ref b374), .val (.ref b407), .val (.int (0 : Int32))]) rfl k) ?_
      show GoW p e below s Q 4 10 (T427.setTop (mkF m 97 #[.val (.int k0), .val (.int c0), .val (.int c1), .val (.int sh), .val (.int (1 : Int32)), .val (.ref aPUBLIC), .val (.ref b231), .val (.ref b374), .val (.ref b407), .val (.int (0 : Int32))] []))
      refine GoW.st (fun _ k => XS.aload X427.here hx rfl (hb hby at_97) rfl rfl k) ?_
      obtain ⟨cq442, kq442, q442a, q442b, q442c⟩ := isOf hZ rfl h429
      obtain ⟨_, _, ⟨T442, L442, k442, n442⟩, -, X442, ⟨Lc442, hQ442, l442, y442, z442⟩, st442⟩ := X427.virtualBack hx (y := (⟨"com/example/graf/graf/routes/Match", "isLogout", "()Z"⟩ : MethodName)) (z := (⟨"com/example/graf/graf/routes/Match", "isLogout", "()Z"⟩ : MethodName)) hown (mvT hZ (hw _ (List.mem_of_getElem? (i := 48) rfl))) (mvT hZ (hw _ (List.mem_of_getElem? (i := 49) rfl))) (notFace_of_selects (args := #[]) (mvT hZ (hw _ (List.mem_of_getElem? (i := 51) rfl)))) (mvT hZ (hw _ (List.mem_of_getElem? (i := 51) rfl))) (mvT hZ (hw _ (List.mem_of_getElem? (i := 50) rfl))) (by decide) (backOf (W := 0) (rmlo l Z a0 hw [] b407 aLOGOUT aPUBLIC T427.heap n0 (Nat.le_trans Z0 K427.1) h428 h432 (Ne.symm ne_aLOGOUT_aPUBLIC)) hZ (hw _ (List.mem_of_getElem? (i := 52) rfl)) (hw _ (List.mem_of_getElem? (i := 39) rfl)) (by decide) (by decide)) q442a q442c (g := (mkF m 99 #[.val (.int k0), .val (.int c0), .val (.int c1), .val (.int sh), .val (.int (1 : Int32)), .val (.ref aPUBLIC), .val (.ref b231), .val (.ref b374), .val (.ref b407), .val (.int (0 : Int32))] [(.ref b407)])) rfl (by rw [hml]; rfl) (Steps.refl _) (argsL := []) (rest := []) (lenOf pd_6 rfl) rfl (by show 2 * 0 + _ ≤ _; exact Nat.le_of_eq rfl) (hb hby at_99) (fun _ _ => ⟨rfl, rfl, (by decide : 4 + 0 ≤ _), (by decide : 10 + 0 ≤ _)⟩)
      dsimp only [Pt.U, Pt.locs, Pt.cells, Pt.slots] at X442 l442 y442 z442 st442 hQ442
      subst l442 y442 z442
      obtain ⟨rfl, N442q, e442⟩ := hQ442
      have N442 := Fr.app N427 N442q
      refine GoW.tr  st442 ?_
      show GoW p e below s Q 4 10 (T442.setTop (mkF m 102 #[.val (.int k0), .val (.int c0), .val (.int c1), .val (.int sh), .val (.int (1 : Int32)), .val (.ref aPUBLIC), .val (.ref b231), .val (.ref b374), .val (.ref b407), .val (.int (0 : Int32))] [(.int (0 : Int32))]))
      refine GoW.st (fun _ k => XS.iload X442.here hx rfl (hb hby at_102) rfl k) ?_
      refine GoW.st (fun _ k => XS.icmpNo X442.here hx rfl (hb hby at_104) rfl (teq (eqI liI_0 liI_0 (by decide))).2 k) ?_
      refine GoW.st (fun _ k => XS.iconst X442.here hx rfl (hb hby at_107) k) ?_
      refine GoW.st (fun _ k => XS.goto X442.here hx rfl (pc0 := 108) (pc' := 112) rfl (hb hby at_108) (by decide) (by decide) k) ?_
      show GoW p e below s Q 4 10 (T442.setTop (mkF m 112 #[.val (.int k0), .val (.int c0), .val (.int c1), .val (.int sh), .val (.int (1 : Int32)), .val (.ref aPUBLIC), .val (.ref b231), .val (.ref b374), .val (.ref b407), .val (.int (0 : Int32))] [(.int (1 : Int32))]))
      exact GoW.retN (since0 s) (vm0 := s.vm) X442 (Nat.zero_le _) hx hlk (by simp) Bd.returns (hb hby at_112) (z' := (1 : Int32)) (by decide) (by rw [← hQ, e442]; exact ⟨rfl, N442, K427⟩) (by decide) (by decide)
  ·
    have cs11' : v7 = (2 : Int32) := eqI cs11 liI_2 rfl
    subst cs11'
    have f443 := liI_2
    show GoW p e below s Q 4 10 (s₁.setTop (mkF m 5 #[.val (.int k0), .val (.int c0), .val (.int c1), .val (.int sh), .val (.int (2 : Int32)), .unset, .unset, .unset, .unset, .unset] []))
    clear f1 f2 f3 f4 f5 f6 f443
    refine GoW.st (fun _ k => XS.iload X0.here hx rfl (hb hby at_5) rfl k) ?_
    have f445 := liI_2
    obtain ⟨_, _, ⟨T444, L444, k444, n444⟩, -, X444, ⟨Lc444, hQ444, l444, y444, z444⟩, st444⟩ := Jvm.LawKit.callS X0 hx (y := (⟨"com/example/graf/graf/routes/MatchIsLogoutPinLaw", "kindOf", "(I)Lcom/example/graf/graf/routes/RouteKind;"⟩ : MethodName)) hown (mvT hZ (hw _ (List.mem_of_getElem? (i := 0) rfl))) (mvT hZ (hw _ (List.mem_of_getElem? (i := 1) rfl))) (mvT hZ (hw _ (List.mem_of_getElem? (i := 2) rfl))) (mvT hZ (hw _ (List.mem_of_getElem? (i := 3) rfl))) (by decide) (backOf (W := 0) (rmk2 l Z a0 hw [] aLOGOUT h0 n0 (Nat.le_trans Z0 K0.1) S_aLOGOUT) hZ (hw _ (List.mem_of_getElem? (i := 3) rfl)) (hw _ (List.mem_of_getElem? (i := 2) rfl)) (by decide) (by decide)) (g := (mkF m 7 #[.val (.int k0), .val (.int c0), .val (.int c1), .val (.int sh), .val (.int (2 : Int32)), .unset, .unset, .unset, .unset, .unset] [(.int (2 : Int32))])) rfl (by rw [hml]; rfl) (argsL := [(.int (2 : Int32))]) (rest := []) (lenOf pd_4 rfl) rfl (by show 2 * 0 + _ ≤ _; exact Nat.le_of_eq rfl) (hb hby at_7) (fun _ _ => ⟨rfl, e0, (by decide : 0 + 0 ≤ _), (by decide : 0 + 0 ≤ _)⟩)
    dsimp only [Pt.U, Pt.locs, Pt.cells, Pt.slots] at X444 l444 y444 z444 st444 hQ444
    subst l444 y444 z444
    obtain ⟨rfl, N444q, e444⟩ := hQ444
    have N444 := Fr.app N0 N444q
    refine GoW.st st444 ?_
    show GoW p e below s Q 4 10 (T444.setTop (mkF m 10 #[.val (.int k0), .val (.int c0), .val (.int c1), .val (.int sh), .val (.int (2 : Int32)), .unset, .unset, .unset, .unset, .unset] [(.ref aLOGOUT)]))
    refine GoW.st (fun _ k => XS.astore X444.here hx rfl (hb hby at_10) rfl rfl (l' := #[.val (.int k0), .val (.int c0), .val (.int c1), .val (.int sh), .val (.int (2 : Int32)), .val (.ref aLOGOUT), .unset, .unset, .unset, .unset]) rfl k) ?_
    refine GoW.st (fun _ k => XS.iconst X444.here hx rfl (hb hby at_12) k) ?_
    have r447 : 0 ≤ (2 : Int32).toInt := by decide
    have r448 : (2 : Int32).toNatClampNeg ≤ 2 := by decide
    obtain ⟨T446, h446, k446, X446, e446, E446, A446, st446⟩ := newP X444 hx hZ (hw _ (List.mem_of_getElem? (i := 7) rfl)) e444 (g := (mkF m 13 #[.val (.int k0), .val (.int c0), .val (.int c1), .val (.int sh), .val (.int (2 : Int32)), .val (.ref aLOGOUT), .unset, .unset, .unset, .unset] [(.int (2 : Int32))])) rfl (hb hby at_13) rfl (not_neg r447) (cap := 2) r448 (by decide) (by decide) (by decide)
    obtain ⟨b446, g446⟩ : ∃ z, z = h0.size := ⟨_, rfl⟩
    rw [← g446] at A446 st446
    have q449 : aGUARDED ≠ b446 := Nat.ne_of_lt (Nat.lt_of_lt_of_le E_aGUARDED.lt (Nat.le_of_eq g446.symm))
    have q450 : aLOGOUT ≠ b446 := Nat.ne_of_lt (Nat.lt_of_lt_of_le E_aLOGOUT.lt (Nat.le_of_eq g446.symm))
    have q451 : aPUBLIC ≠ b446 := Nat.ne_of_lt (Nat.lt_of_lt_of_le E_aPUBLIC.lt (Nat.le_of_eq g446.symm))
    have h452 : Sta Z h446 "com/example/graf/graf/routes/RouteKind" "GUARDED" "Lcom/example/graf/graf/routes/RouteKind;" (.ref aGUARDED) := S_aGUARDED.ext E446
    have h453 : Exa Z h446 aGUARDED "com/example/graf/graf/routes/RouteKind" := E_aGUARDED.ext E446
    have h454 : Sta Z h446 "com/example/graf/graf/routes/RouteKind" "LOGOUT" "Lcom/example/graf/graf/routes/RouteKind;" (.ref aLOGOUT) := S_aLOGOUT.ext E446
    have h455 : Exa Z h446 aLOGOUT "com/example/graf/graf/routes/RouteKind" := E_aLOGOUT.ext E446
    have h456 : Fld Z h446 aGUARDED "java/lang/Enum" "ordinal" "I" (.int (0 : Int32)) := F_aGUARDED_ordinal.ext E446
    have h457 : Fld Z h446 aLOGOUT "java/lang/Enum" "ordinal" "I" (.int (2 : Int32)) := F_aLOGOUT_ordinal.ext E446
    have h458 : Sta Z h446 "com/example/graf/graf/routes/RouteKind" "PUBLIC" "Lcom/example/graf/graf/routes/RouteKind;" (.ref aPUBLIC) := S_aPUBLIC.ext E446
    have h459 : Exa Z h446 aPUBLIC "com/example/graf/graf/routes/RouteKind" := E_aPUBLIC.ext E446
    have h460 : Fld Z h446 aPUBLIC "java/lang/Enum" "ordinal" "I" (.int (1 : Int32)) := F_aPUBLIC_ordinal.ext E446
    have h461 : Sta Z h446 "java/lang/String" "COMPACT_STRINGS" "Z" (.int zc) := S_CS.ext E446
    have Gb446 : n0 ≤ b446 := Nat.le_trans (Nat.le_trans Z0 K0.1) (Nat.le_of_eq g446.symm)
    have szb446 : h0.size ≤ b446 := Nat.le_trans K0.1 (Nat.le_of_eq g446.symm)
    have K446 : Keep h0 h446 [] := K0.ext E446
    have h462 : Vec Z h446 b446 .char (2 : Int32) (ints (lst [(0 : Int32), (0 : Int32)])) := Vec.zerosI 2 (Vec.new A446 r447)
    refine GoW.st st446 ?_
    show GoW p e below s Q 4 10 (T446.setTop (mkF m 15 #[.val (.int k0), .val (.int c0), .val (.int c1), .val (.int sh), .val (.int (2 : Int32)), .val (.ref aLOGOUT), .unset, .unset, .unset, .unset] [(.ref b446)]))
    refine GoW.st (fun _ k => XS.dup X446.here hx rfl (hb hby at_15) rfl rfl k) ?_
    refine GoW.st (fun _ k => XS.iconst X446.here hx rfl (hb hby at_16) k) ?_
    refine GoW.st (fun _ k => XS.iloadN X446.here hx rfl (hb hby at_17) rfl k) ?_
    refine GoW.st (fun _ k => XS.sipush X446.here hx rfl (hb hby at_18) k) ?_
    refine GoW.st (fun _ k => XS.iand X446.here hx rfl (hb hby at_21) rfl k) ?_
    show GoW p e below s Q 4 10 (T446.setTop (mkF m 22 #[.val (.int k0), .val (.int c0), .val (.int c1), .val (.int sh), .val (.int (2 : Int32)), .val (.ref aLOGOUT), .unset, .unset, .unset, .unset] [(.int (c0 &&& (255 : Int32))), (.int (0 : Int32)), (.ref b446), (.ref b446)]))
    have f463 := rng32 c0
    have f464 := liI_255
    have f465 : (c0 &&& (255 : Int32)).toInt = c0.toInt % 256 := c_mask c0 (255 : Int32) 8 (by decide) (by decide)
    generalize hv_ca0 : (c0 &&& (255 : Int32)) = ca0 at f465 ⊢
    refine GoW.st (fun _ k => XS.i2c X446.here hx rfl (hb hby at_22) rfl k) ?_
    obtain ⟨T466, h466, X466, e466, W466, V466, st466⟩ := Vec.istC X446 hx hZ e446 h462 (j := (0 : Int32)) (by decide) (by decide) (g := (mkF m 23 #[.val (.int k0), .val (.int c0), .val (.int c1), .val (.int sh), .val (.int (2 : Int32)), .val (.ref aLOGOUT), .unset, .unset, .unset, .unset] [(.int (ca0.toUInt32.toUInt16.toUInt32.toInt32)), (.int (0 : Int32)), (.ref b446), (.ref b446)])) rfl rfl (hb hby at_23)
    have h467 : Sta Z h466 "com/example/graf/graf/routes/RouteKind" "GUARDED" "Lcom/example/graf/graf/routes/RouteKind;" (.ref aGUARDED) := h452.wr W466
    have h468 : Exa Z h466 aGUARDED "com/example/graf/graf/routes/RouteKind" := h453.wr W466
    have h469 : Sta Z h466 "com/example/graf/graf/routes/RouteKind" "LOGOUT" "Lcom/example/graf/graf/routes/RouteKind;" (.ref aLOGOUT) := h454.wr W466
    have h470 : Exa Z h466 aLOGOUT "com/example/graf/graf/routes/RouteKind" := h455.wr W466
    have h471 : Fld Z h466 aGUARDED "java/lang/Enum" "ordinal" "I" (.int (0 : Int32)) := h456.other W466 (Or.inl q449)
    have h472 : Fld Z h466 aLOGOUT "java/lang/Enum" "ordinal" "I" (.int (2 : Int32)) := h457.other W466 (Or.inl q450)
    have h473 : Sta Z h466 "com/example/graf/graf/routes/RouteKind" "PUBLIC" "Lcom/example/graf/graf/routes/RouteKind;" (.ref aPUBLIC) := h458.wr W466
    have h474 : Exa Z h466 aPUBLIC "com/example/graf/graf/routes/RouteKind" := h459.wr W466
    have h475 : Fld Z h466 aPUBLIC "java/lang/Enum" "ordinal" "I" (.int (1 : Int32)) := h460.other W466 (Or.inl q451)
    have h476 : Sta Z h466 "java/lang/String" "COMPACT_STRINGS" "Z" (.int zc) := h461.wr W466
    have h477 : Vec Z h466 b446 .char (2 : Int32) (ints (lst [((ca0.toUInt32.toUInt16.toUInt32.toInt32).toUInt32.toUInt16.toUInt32.toInt32), (0 : Int32)])) := Vec.of_eq V466 (congrArg ints (upd_lst _ 0 _ (Nat.le_of_ble_eq_true rfl)))
    have K466 : Keep h0 h466 [] := K446.wr W466 (Or.inr szb446)
    have N466 := Fr.snoc X466 N444 Gb446
    refine GoW.st st466 ?_
    show GoW p e below s Q 4 10 (T466.setTop (mkF m 24 #[.val (.int k0), .val (.int c0), .val (.int c1), .val (.int sh), .val (.int (2 : Int32)), .val (.ref aLOGOUT), .unset, .unset, .unset, .unset] [(.ref b446)]))
    have f478 := c_i2c ca0
    have f479 := rng32 (ca0.toUInt32.toUInt16.toUInt32.toInt32)
    have f480 := c_i2c (ca0.toUInt32.toUInt16.toUInt32.toInt32)
    have f481 := rng32 ((ca0.toUInt32.toUInt16.toUInt32.toInt32).toUInt32.toUInt16.toUInt32.toInt32)
    generalize hv_ci0 : ((ca0.toUInt32.toUInt16.toUInt32.toInt32).toUInt32.toUInt16.toUInt32.toInt32) = ci0 at f480 f481 h477
    have hci0 : 0 ≤ ci0.toInt ∧ ci0.toInt ≤ 255 := by omega
    refine GoW.st (fun _ k => XS.dup X466.here hx rfl (hb hby at_24) rfl rfl k) ?_
    refine GoW.st (fun _ k => XS.iconst X466.here hx rfl (hb hby at_25) k) ?_
    refine GoW.st (fun _ k => XS.iloadN X466.here hx rfl (hb hby at_26) rfl k) ?_
    refine GoW.st (fun _ k => XS.sipush X466.here hx rfl (hb hby at_27) k) ?_
    refine GoW.st (fun _ k => XS.iand X466.here hx rfl (hb hby at_30) rfl k) ?_
    show GoW p e below s Q 4 10 (T466.setTop (mkF m 31 #[.val (.int k0), .val (.int c0), .val (.int c1), .val (.int sh), .val (.int (2 : Int32)), .val (.ref aLOGOUT), .unset, .unset, .unset, .unset] [(.int (c1 &&& (255 : Int32))), (.int (1 : Int32)), (.ref b446), (.ref b446)]))
    have f482 := rng32 c1
    have f483 : (c1 &&& (255 : Int32)).toInt = c1.toInt % 256 := c_mask c1 (255 : Int32) 8 (by decide) (by decide)
    generalize hv_ca1 : (c1 &&& (255 : Int32)) = ca1 at f483 ⊢
    refine GoW.st (fun _ k => XS.i2c X466.here hx rfl (hb hby at_31) rfl k) ?_
    obtain ⟨T484, h484, X484, e484, W484, V484, st484⟩ := Vec.istC X466 hx hZ e466 h477 (j := (1 : Int32)) (by decide) (by decide) (g := (mkF m 32 #[.val (.int k0), .val (.int c0), .val (.int c1), .val (.int sh), .val (.int (2 : Int32)), .val (.ref aLOGOUT), .unset, .unset, .unset, .unset] [(.int (ca1.toUInt32.toUInt16.toUInt32.toInt32)), (.int (1 : Int32)), (.ref b446), (.ref b446)])) rfl rfl (hb hby at_32)
    have h485 : Sta Z h484 "com/example/graf/graf/routes/RouteKind" "GUARDED" "Lcom/example/graf/graf/routes/RouteKind;" (.ref aGUARDED) := h467.wr W484
    have h486 : Exa Z h484 aGUARDED "com/example/graf/graf/routes/RouteKind" := h468.wr W484
    have h487 : Sta Z h484 "com/example/graf/graf/routes/RouteKind" "LOGOUT" "Lcom/example/graf/graf/routes/RouteKind;" (.ref aLOGOUT) := h469.wr W484
    have h488 : Exa Z h484 aLOGOUT "com/example/graf/graf/routes/RouteKind" := h470.wr W484
    have h489 : Fld Z h484 aGUARDED "java/lang/Enum" "ordinal" "I" (.int (0 : Int32)) := h471.other W484 (Or.inl q449)
    have h490 : Fld Z h484 aLOGOUT "java/lang/Enum" "ordinal" "I" (.int (2 : Int32)) := h472.other W484 (Or.inl q450)
    have h491 : Sta Z h484 "com/example/graf/graf/routes/RouteKind" "PUBLIC" "Lcom/example/graf/graf/routes/RouteKind;" (.ref aPUBLIC) := h473.wr W484
    have h492 : Exa Z h484 aPUBLIC "com/example/graf/graf/routes/RouteKind" := h474.wr W484
    have h493 : Fld Z h484 aPUBLIC "java/lang/Enum" "ordinal" "I" (.int (1 : Int32)) := h475.other W484 (Or.inl q451)
    have h494 : Sta Z h484 "java/lang/String" "COMPACT_STRINGS" "Z" (.int zc) := h476.wr W484
    have h495 : Vec Z h484 b446 .char (2 : Int32) (ints (lst [ci0, ((ca1.toUInt32.toUInt16.toUInt32.toInt32).toUInt32.toUInt16.toUInt32.toInt32)])) := Vec.of_eq V484 (congrArg ints (upd_lst _ 1 _ (Nat.le_of_ble_eq_true rfl)))
    have K484 : Keep h0 h484 [] := K466.wr W484 (Or.inr szb446)
    have N484 := Fr.snoc X484 N466 Gb446
    refine GoW.st st484 ?_
    show GoW p e below s Q 4 10 (T484.setTop (mkF m 33 #[.val (.int k0), .val (.int c0), .val (.int c1), .val (.int sh), .val (.int (2 : Int32)), .val (.ref aLOGOUT), .unset, .unset, .unset, .unset] [(.ref b446)]))
    have f496 := c_i2c ca1
    have f497 := rng32 (ca1.toUInt32.toUInt16.toUInt32.toInt32)
    have f498 := c_i2c (ca1.toUInt32.toUInt16.toUInt32.toInt32)
    have f499 := rng32 ((ca1.toUInt32.toUInt16.toUInt32.toInt32).toUInt32.toUInt16.toUInt32.toInt32)
    generalize hv_ci1 : ((ca1.toUInt32.toUInt16.toUInt32.toInt32).toUInt32.toUInt16.toUInt32.toInt32) = ci1 at f498 f499 h495
    have hci1 : 0 ≤ ci1.toInt ∧ ci1.toInt ≤ 255 := by omega
    have hcs : ∀ j : Nat, 0 ≤ ((lst [ci0, ci1]) j).toInt ∧ ((lst [ci0, ci1]) j).toInt ≤ 255 := fun j => match j with | 0 => hci0 | 1 => hci1 | (n + 2) => by have q : (lst [ci0, ci1]) (n + 2) = 0 := rfl; rw [q]; decide
    clear f445 f463 f464 f465 f478 f479 f480 f481 f482 f483 f496 f497 f498 f499
    refine GoW.st (fun _ k => XS.astore X484.here hx rfl (hb hby at_33) rfl rfl (l' := #[.val (.int k0), .val (.int c0), .val (.int c1), .val (.int sh), .val (.int (2 : Int32)), .val (.ref aLOGOUT), .val (.ref b446), .unset, .unset, .unset]) rfl k) ?_
    refine GoW.st (fun _ k => XS.iloadN X484.here hx rfl (hb hby at_35) rfl k) ?_
    refine GoW.st (fun _ k => XS.iconst X484.here hx rfl (hb hby at_36) k) ?_
    refine GoW.st (fun _ k => XS.iand X484.here hx rfl (hb hby at_37) rfl k) ?_
    have f500 := rng32 sh
    have f501 := liI_1
    have f502 : (sh &&& (1 : Int32)).toInt = sh.toInt % 2 := c_mask sh (1 : Int32) 1 (by decide) (by decide)
    have f503 := liI_0
    by_cases c504 : (sh &&& (1 : Int32)).toInt = 0
    ·
      refine GoW.st (fun _ k => XS.ifYes X484.here hx rfl (pc0 := 38) (pc' := 55) rfl (hb hby at_38) rfl ((if0 _ _).trans (teq (eqI rfl liI_0 c504)).1) (by decide) (by decide) k) ?_
      refine GoW.st (fun _ k => XS.iloadN X484.here hx rfl (hb hby at_55) rfl k) ?_
      show GoW p e below s Q 4 10 (T484.setTop (mkF m 56 #[.val (.int k0), .val (.int c0), .val (.int c1), .val (.int sh), .val (.int (2 : Int32)), .val (.ref aLOGOUT), .val (.ref b446), .unset, .unset, .unset] [(.int sh)]))
      refine GoW.st (fun _ k => XS.iconst X484.here hx rfl (hb hby at_56) k) ?_
      refine GoW.st (fun _ k => XS.iand X484.here hx rfl (hb hby at_57) rfl k) ?_
      have f505 := liI_2
      have f506 := c_and sh (2 : Int32) (by decide)
      by_cases c507 : (sh &&& (2 : Int32)).toInt = 0
      ·
        refine GoW.st (fun _ k => XS.ifYes X484.here hx rfl (pc0 := 58) (pc' := 68) rfl (hb hby at_58) rfl ((if0 _ _).trans (teq (eqI rfl liI_0 c507)).1) (by decide) (by decide) k) ?_
        refine GoW.st (fun _ k => XS.aconstNull X484.here hx rfl (hb hby at_68) k) ?_
        refine GoW.st (fun _ k => XS.astore X484.here hx rfl (hb hby at_69) rfl rfl (l' := #[.val (.int k0), .val (.int c0), .val (.int c1), .val (.int sh), .val (.int (2 : Int32)), .val (.ref aLOGOUT), .val (.ref b446), .val .null, .unset, .unset]) rfl k) ?_
        obtain ⟨T508, h508, X508, e508, E508, A508, D508, -, st508⟩ := newO X484 hx hZ hown (hw _ (List.mem_of_getElem? (i := 37) rfl)) (hw _ (List.mem_of_getElem? (i := 38) rfl)) (hw _ (List.mem_of_getElem? (i := 39) rfl)) e484 (g := (mkF m 71 #[.val (.int k0), .val (.int c0), .val (.int c1), .val (.int sh), .val (.int (2 : Int32)), .val (.ref aLOGOUT), .val (.ref b446), .val .null, .unset, .unset] [])) rfl (hb hby at_71) (by decide) (by decide)
        obtain ⟨b508, g508⟩ : ∃ z, z = h484.size := ⟨_, rfl⟩
        rw [← g508] at A508 D508 st508
        have q509 : aGUARDED ≠ b508 := Nat.ne_of_lt (Nat.lt_of_lt_of_le h486.lt (Nat.le_of_eq g508.symm))
        have q510 : aLOGOUT ≠ b508 := Nat.ne_of_lt (Nat.lt_of_lt_of_le h488.lt (Nat.le_of_eq g508.symm))
        have q511 : aPUBLIC ≠ b508 := Nat.ne_of_lt (Nat.lt_of_lt_of_le h492.lt (Nat.le_of_eq g508.symm))
        have q512 : b446 ≠ b508 := Nat.ne_of_lt (Nat.lt_of_lt_of_le h495.lt (Nat.le_of_eq g508.symm))
        have h513 : Sta Z h508 "com/example/graf/graf/routes/RouteKind" "GUARDED" "Lcom/example/graf/graf/routes/RouteKind;" (.ref aGUARDED) := h485.ext E508
        have h514 : Exa Z h508 aGUARDED "com/example/graf/graf/routes/RouteKind" := h486.ext E508
        have h515 : Sta Z h508 "com/example/graf/graf/routes/RouteKind" "LOGOUT" "Lcom/example/graf/graf/routes/RouteKind;" (.ref aLOGOUT) := h487.ext E508
        have h516 : Exa Z h508 aLOGOUT "com/example/graf/graf/routes/RouteKind" := h488.ext E508
        have h517 : Fld Z h508 aGUARDED "java/lang/Enum" "ordinal" "I" (.int (0 : Int32)) := h489.ext E508
        have h518 : Fld Z h508 aLOGOUT "java/lang/Enum" "ordinal" "I" (.int (2 : Int32)) := h490.ext E508
        have h519 : Sta Z h508 "com/example/graf/graf/routes/RouteKind" "PUBLIC" "Lcom/example/graf/graf/routes/RouteKind;" (.ref aPUBLIC) := h491.ext E508
        have h520 : Exa Z h508 aPUBLIC "com/example/graf/graf/routes/RouteKind" := h492.ext E508
        have h521 : Fld Z h508 aPUBLIC "java/lang/Enum" "ordinal" "I" (.int (1 : Int32)) := h493.ext E508
        have h522 : Sta Z h508 "java/lang/String" "COMPACT_STRINGS" "Z" (.int zc) := h494.ext E508
        have h523 : Vec Z h508 b446 .char (2 : Int32) (ints (lst [ci0, ci1])) := h495.ext E508
        have Gb508 : n0 ≤ b508 := Nat.le_trans (Nat.le_trans Z0 K484.1) (Nat.le_of_eq g508.symm)
        have szb508 : h0.size ≤ b508 := Nat.le_trans K484.1 (Nat.le_of_eq g508.symm)
        have K508 : Keep h0 h508 [] := K484.ext E508
        have h524 : Fld Z h508 b508 "com/example/graf/graf/routes/Match" "node" "Ljava/lang/String;" .null := D508 (Or.inr (hw _ (List.mem_of_getElem? (i := 45) rfl))) (ty := (.object "java/lang/String")) (by decide)
        have h525 : Fld Z h508 b508 "com/example/graf/graf/routes/Match" "kind" "Lcom/example/graf/graf/routes/RouteKind;" .null := D508 (Or.inr (hw _ (List.mem_of_getElem? (i := 47) rfl))) (ty := (.object "com/example/graf/graf/routes/RouteKind")) (by decide)
        refine GoW.st st508 ?_
        show GoW p e below s Q 4 10 (T508.setTop (mkF m 74 #[.val (.int k0), .val (.int c0), .val (.int c1), .val (.int sh), .val (.int (2 : Int32)), .val (.ref aLOGOUT), .val (.ref b446), .val .null, .unset, .unset] [(.ref b508)]))
        refine GoW.st (fun _ k => XS.dup X508.here hx rfl (hb hby at_74) rfl rfl k) ?_
        refine GoW.st (fun _ k => XS.aload X508.here hx rfl (hb hby at_75) rfl rfl k) ?_
        refine GoW.st (fun _ k => XS.aload X508.here hx rfl (hb hby at_77) rfl rfl k) ?_
        obtain ⟨_, _, ⟨T526, L526, k526, n526⟩, -, X526, ⟨Lc526, hQ526, l526, y526, z526⟩, st526⟩ := X508.specialBack hx (y := (⟨"com/example/graf/graf/routes/Match", "<init>", "(Ljava/lang/String;Lcom/example/graf/graf/routes/RouteKind;)V"⟩ : MethodName)) rfl hown (mvT hZ (hw _ (List.mem_of_getElem? (i := 40) rfl))) (mvT hZ (hw _ (List.mem_of_getElem? (i := 41) rfl))) (mvT hZ (hw _ (List.mem_of_getElem? (i := 42) rfl))) (by decide) (backOf (W := 1) (rmm01 l Z a0 hw [] b508 aLOGOUT h508 n0 (Nat.le_trans Z0 K508.1) h524 h525 A508 Gb508) hZ (hw _ (List.mem_of_getElem? (i := 42) rfl)) (hw _ (List.mem_of_getElem? (i := 39) rfl)) (by decide) (by decide)) (g := (mkF m 79 #[.val (.int k0), .val (.int c0), .val (.int c1), .val (.int sh), .val (.int (2 : Int32)), .val (.ref aLOGOUT), .val (.ref b446), .val .null, .unset, .unset] [(.ref aLOGOUT), .null, (.ref b508), (.ref b508)])) rfl (by rw [hml]; rfl) (Steps.refl _) (a := b508) (argsL := [.null, (.ref aLOGOUT)]) (rest := [(.ref b508)]) (lenOf pd_5 rfl) rfl (by show 2 * 0 + _ ≤ _; exact Nat.le_of_eq rfl) (hb hby at_79) (fun _ _ => ⟨rfl, e508, (by decide : 2 + 0 ≤ _), (by decide : 4 + 0 ≤ _)⟩)
        dsimp only [Pt.U, Pt.locs, Pt.cells, Pt.slots] at X526 l526 y526 z526 st526 hQ526
        subst l526 y526 z526
        obtain ⟨rfl, N526q, K526q, h527, h528⟩ := hQ526
        have N526 := Fr.app N484 N526q
        have h529 : Sta Z T526.heap "com/example/graf/graf/routes/RouteKind" "GUARDED" "Lcom/example/graf/graf/routes/RouteKind;" (.ref aGUARDED) := Jvm.OwnGo.sta_keep h513 K526q (fun x hx => (allS (P := fun x => Exi h508 x) (exi_exa A508) all0) x hx)
        have h530 : Exa Z T526.heap aGUARDED "com/example/graf/graf/routes/RouteKind" := h514.keep K526q
        have h531 : Sta Z T526.heap "com/example/graf/graf/routes/RouteKind" "LOGOUT" "Lcom/example/graf/graf/routes/RouteKind;" (.ref aLOGOUT) := Jvm.OwnGo.sta_keep h515 K526q (fun x hx => (allS (P := fun x => Exi h508 x) (exi_exa A508) all0) x hx)
        have h532 : Exa Z T526.heap aLOGOUT "com/example/graf/graf/routes/RouteKind" := h516.keep K526q
        have h533 : Fld Z T526.heap aGUARDED "java/lang/Enum" "ordinal" "I" (.int (0 : Int32)) := h517.keep K526q (ninS q509 nin0)
        have h534 : Fld Z T526.heap aLOGOUT "java/lang/Enum" "ordinal" "I" (.int (2 : Int32)) := h518.keep K526q (ninS q510 nin0)
        have h535 : Sta Z T526.heap "com/example/graf/graf/routes/RouteKind" "PUBLIC" "Lcom/example/graf/graf/routes/RouteKind;" (.ref aPUBLIC) := Jvm.OwnGo.sta_keep h519 K526q (fun x hx => (allS (P := fun x => Exi h508 x) (exi_exa A508) all0) x hx)
        have h536 : Exa Z T526.heap aPUBLIC "com/example/graf/graf/routes/RouteKind" := h520.keep K526q
        have h537 : Fld Z T526.heap aPUBLIC "java/lang/Enum" "ordinal" "I" (.int (1 : Int32)) := h521.keep K526q (ninS q511 nin0)
        have h538 : Sta Z T526.heap "java/lang/String" "COMPACT_STRINGS" "Z" (.int zc) := Jvm.OwnGo.sta_keep h522 K526q (fun x hx => (allS (P := fun x => Exi h508 x) (exi_exa A508) all0) x hx)
        have h539 : Vec Z T526.heap b446 .char (2 : Int32) (ints (lst [ci0, ci1])) := h523.keep K526q (ninS q512 nin0)
        have K526 : Keep h0 T526.heap [] := K508.trans K526q (fun x hx => (show ∀ x ∈ ([b508] : List Addr), x ∈ ([] : List Addr) ∨ h0.size ≤ x from (allS (Or.inr szb508) all0)) x hx)
        refine GoW.tr  st526 ?_
        show GoW p e below s Q 4 10 (T526.setTop (mkF m 82 #[.val (.int k0), .val (.int c0), .val (.int c1), .val (.int sh), .val (.int (2 : Int32)), .val (.ref aLOGOUT), .val (.ref b446), .val .null, .unset, .unset] [(.ref b508)]))
        refine GoW.st (fun _ k => XS.astore X526.here hx rfl (hb hby at_82) rfl rfl (l' := #[.val (.int k0), .val (.int c0), .val (.int c1), .val (.int sh), .val (.int (2 : Int32)), .val (.ref aLOGOUT), .val (.ref b446), .val .null, .val (.ref b508), .unset]) rfl k) ?_
        refine GoW.st (fun _ k => XS.iload X526.here hx rfl (hb hby at_84) rfl k) ?_
        refine GoW.st (fun _ k => XS.iconst X526.here hx rfl (hb hby at_86) k) ?_
        refine GoW.st (fun _ k => XS.icmpNo X526.here hx rfl (hb hby at_87) rfl (teq (eqI liI_2 liI_2 (by decide))).2 k) ?_
        refine GoW.st (fun _ k => XS.iconst X526.here hx rfl (hb hby at_90) k) ?_
        refine GoW.st (fun _ k => XS.goto X526.here hx rfl (pc0 := 91) (pc' := 95) rfl (hb hby at_91) (by decide) (by decide) k) ?_
        show GoW p e below s Q 4 10 (T526.setTop (mkF m 95 #[.val (.int k0), .val (.int c0), .val (.int c1), .val (.int sh), .val (.int (2 : Int32)), .val (.ref aLOGOUT), .val (.ref b446), .val .null, .val (.ref b508), .unset] [(.int (1 : Int32))]))
        refine GoW.st (fun _ k => XS.istore X526.here hx rfl (hb hby at_95) rfl (l' := #[.val (.int k0), .val (.int c0), .val (.int c1), .val (.int sh), .val (.int (2 : Int32)), .val (.ref aLOGOUT), .val (.ref b446), .val .null, .val (.ref b508), .val (.int (1 : Int32))]) rfl k) ?_
        refine GoW.st (fun _ k => XS.aload X526.here hx rfl (hb hby at_97) rfl rfl k) ?_
        obtain ⟨cq540, kq540, q540a, q540b, q540c⟩ := isOf hZ rfl h528
        obtain ⟨_, _, ⟨T540, L540, k540, n540⟩, -, X540, ⟨Lc540, hQ540, l540, y540, z540⟩, st540⟩ := X526.virtualBack hx (y := (⟨"com/example/graf/graf/routes/Match", "isLogout", "()Z"⟩ : MethodName)) (z := (⟨"com/example/graf/graf/routes/Match", "isLogout", "()Z"⟩ : MethodName)) hown (mvT hZ (hw _ (List.mem_of_getElem? (i := 48) rfl))) (mvT hZ (hw _ (List.mem_of_getElem? (i := 49) rfl))) (notFace_of_selects (args := #[]) (mvT hZ (hw _ (List.mem_of_getElem? (i := 51) rfl)))) (mvT hZ (hw _ (List.mem_of_getElem? (i := 51) rfl))) (mvT hZ (hw _ (List.mem_of_getElem? (i := 50) rfl))) (by decide) (backOf (W := 0) (rmls l Z a0 hw [] b508 aLOGOUT T526.heap n0 (Nat.le_trans Z0 K526.1) h527 h531) hZ (hw _ (List.mem_of_getElem? (i := 52) rfl)) (hw _ (List.mem_of_getElem? (i := 39) rfl)) (by decide) (by decide)) q540a q540c (g := (mkF m 99 #[.val (.int k0), .val (.int c0), .val (.int c1), .val (.int sh), .val (.int (2 : Int32)), .val (.ref aLOGOUT), .val (.ref b446), .val .null, .val (.ref b508), .val (.int (1 : Int32))] [(.ref b508)])) rfl (by rw [hml]; rfl) (Steps.refl _) (argsL := []) (rest := []) (lenOf pd_6 rfl) rfl (by show 2 * 0 + _ ≤ _; exact Nat.le_of_eq rfl) (hb hby at_99) (fun _ _ => ⟨rfl, rfl, (by decide : 2 + 0 ≤ _), (by decide : 4 + 0 ≤ _)⟩)
        dsimp only [Pt.U, Pt.locs, Pt.cells, Pt.slots] at X540 l540 y540 z540 st540 hQ540
        subst l540 y540 z540
        obtain ⟨rfl, N540q, e540⟩ := hQ540
        have N540 := Fr.app N526 N540q
        refine GoW.tr  st540 ?_
        show GoW p e below s Q 4 10 (T540.setTop (mkF m 102 #[.val (.int k0), .val (.int c0), .val (.int c1), .val (.int sh), .val (.int (2 : Int32)), .val (.ref aLOGOUT), .val (.ref b446), .val .null, .val (.ref b508), .val (.int (1 : Int32))] [(.int (1 : Int32))]))
        refine GoW.st (fun _ k => XS.iload X540.here hx rfl (hb hby at_102) rfl k) ?_
        refine GoW.st (fun _ k => XS.icmpNo X540.here hx rfl (hb hby at_104) rfl (teq (eqI liI_1 liI_1 (by decide))).2 k) ?_
        refine GoW.st (fun _ k => XS.iconst X540.here hx rfl (hb hby at_107) k) ?_
        refine GoW.st (fun _ k => XS.goto X540.here hx rfl (pc0 := 108) (pc' := 112) rfl (hb hby at_108) (by decide) (by decide) k) ?_
        show GoW p e below s Q 4 10 (T540.setTop (mkF m 112 #[.val (.int k0), .val (.int c0), .val (.int c1), .val (.int sh), .val (.int (2 : Int32)), .val (.ref aLOGOUT), .val (.ref b446), .val .null, .val (.ref b508), .val (.int (1 : Int32))] [(.int (1 : Int32))]))
        exact GoW.retN (since0 s) (vm0 := s.vm) X540 (Nat.zero_le _) hx hlk (by simp) Bd.returns (hb hby at_112) (z' := (1 : Int32)) (by decide) (by rw [← hQ, e540]; exact ⟨rfl, N540, K526⟩) (by decide) (by decide)
      ·
        refine GoW.st (fun _ k => XS.ifNo X484.here hx rfl (hb hby at_58) rfl ((if0 _ _).trans (feq (neI rfl liI_0 c507)).1) k) ?_
        obtain ⟨b541, T541, h541, k541, X541, e541, E541, hS541, hk541, hZ541, hown541, st541⟩ := ldcS (s := s) (vm0 := s.vm) X484 hx hZ hown (hw _ (List.mem_of_getElem? (i := 55) rfl)) (wStr hw) e484 (since0 s) (Nat.zero_le _) (g := (mkF m 61 #[.val (.int k0), .val (.int c0), .val (.int c1), .val (.int sh), .val (.int (2 : Int32)), .val (.ref aLOGOUT), .val (.ref b446), .unset, .unset, .unset] [])) rfl (hb hby at_61) (n := 0) (by decide) (by decide) (by decide) (by decide)
        have h542 : Sta Z h541 "com/example/graf/graf/routes/RouteKind" "GUARDED" "Lcom/example/graf/graf/routes/RouteKind;" (.ref aGUARDED) := h485.ext E541
        have h543 : Exa Z h541 aGUARDED "com/example/graf/graf/routes/RouteKind" := h486.ext E541
        have h544 : Sta Z h541 "com/example/graf/graf/routes/RouteKind" "LOGOUT" "Lcom/example/graf/graf/routes/RouteKind;" (.ref aLOGOUT) := h487.ext E541
        have h545 : Exa Z h541 aLOGOUT "com/example/graf/graf/routes/RouteKind" := h488.ext E541
        have h546 : Fld Z h541 aGUARDED "java/lang/Enum" "ordinal" "I" (.int (0 : Int32)) := h489.ext E541
        have h547 : Fld Z h541 aLOGOUT "java/lang/Enum" "ordinal" "I" (.int (2 : Int32)) := h490.ext E541
        have h548 : Sta Z h541 "com/example/graf/graf/routes/RouteKind" "PUBLIC" "Lcom/example/graf/graf/routes/RouteKind;" (.ref aPUBLIC) := h491.ext E541
        have h549 : Exa Z h541 aPUBLIC "com/example/graf/graf/routes/RouteKind" := h492.ext E541
        have h550 : Fld Z h541 aPUBLIC "java/lang/Enum" "ordinal" "I" (.int (1 : Int32)) := h493.ext E541
        have h551 : Sta Z h541 "java/lang/String" "COMPACT_STRINGS" "Z" (.int zc) := h494.ext E541
        have h552 : Vec Z h541 b446 .char (2 : Int32) (ints (lst [ci0, ci1])) := h495.ext E541
        have K541 : Keep h0 h541 [] := K484.ext E541
        refine GoW.st st541 ?_
        show GoW p e below s Q 4 10 (T541.setTop (mkF m 63 #[.val (.int k0), .val (.int c0), .val (.int c1), .val (.int sh), .val (.int (2 : Int32)), .val (.ref aLOGOUT), .val (.ref b446), .unset, .unset, .unset] [(.ref b541)]))
        refine GoW.st (fun _ k => XS.astore X541.here hx rfl (hb hby at_63) rfl rfl (l' := #[.val (.int k0), .val (.int c0), .val (.int c1), .val (.int sh), .val (.int (2 : Int32)), .val (.ref aLOGOUT), .val (.ref b446), .val (.ref b541), .unset, .unset]) rfl k) ?_
        refine GoW.st (fun _ k => XS.goto X541.here hx rfl (pc0 := 65) (pc' := 71) rfl (hb hby at_65) (by decide) (by decide) k) ?_
        obtain ⟨T553, h553, X553, e553, E553, A553, D553, -, st553⟩ := newO X541 hx hZ541 hown541 (hw _ (List.mem_of_getElem? (i := 37) rfl)) (hw _ (List.mem_of_getElem? (i := 38) rfl)) (hw _ (List.mem_of_getElem? (i := 39) rfl)) e541 (g := (mkF m 71 #[.val (.int k0), .val (.int c0), .val (.int c1), .val (.int sh), .val (.int (2 : Int32)), .val (.ref aLOGOUT), .val (.ref b446), .val (.ref b541), .unset, .unset] [])) rfl (hb hby at_71) (by decide) (by decide)
        obtain ⟨b553, g553⟩ : ∃ z, z = h541.size := ⟨_, rfl⟩
        rw [← g553] at A553 D553 st553
        have q554 : aGUARDED ≠ b553 := Nat.ne_of_lt (Nat.lt_of_lt_of_le h543.lt (Nat.le_of_eq g553.symm))
        have q555 : aLOGOUT ≠ b553 := Nat.ne_of_lt (Nat.lt_of_lt_of_le h545.lt (Nat.le_of_eq g553.symm))
        have q556 : aPUBLIC ≠ b553 := Nat.ne_of_lt (Nat.lt_of_lt_of_le h549.lt (Nat.le_of_eq g553.symm))
        have q557 : b446 ≠ b553 := Nat.ne_of_lt (Nat.lt_of_lt_of_le h552.lt (Nat.le_of_eq g553.symm))
        have h558 : Sta Z h553 "com/example/graf/graf/routes/RouteKind" "GUARDED" "Lcom/example/graf/graf/routes/RouteKind;" (.ref aGUARDED) := h542.ext E553
        have h559 : Exa Z h553 aGUARDED "com/example/graf/graf/routes/RouteKind" := h543.ext E553
        have h560 : Sta Z h553 "com/example/graf/graf/routes/RouteKind" "LOGOUT" "Lcom/example/graf/graf/routes/RouteKind;" (.ref aLOGOUT) := h544.ext E553
        have h561 : Exa Z h553 aLOGOUT "com/example/graf/graf/routes/RouteKind" := h545.ext E553
        have h562 : Fld Z h553 aGUARDED "java/lang/Enum" "ordinal" "I" (.int (0 : Int32)) := h546.ext E553
        have h563 : Fld Z h553 aLOGOUT "java/lang/Enum" "ordinal" "I" (.int (2 : Int32)) := h547.ext E553
        have h564 : Sta Z h553 "com/example/graf/graf/routes/RouteKind" "PUBLIC" "Lcom/example/graf/graf/routes/RouteKind;" (.ref aPUBLIC) := h548.ext E553
        have h565 : Exa Z h553 aPUBLIC "com/example/graf/graf/routes/RouteKind" := h549.ext E553
        have h566 : Fld Z h553 aPUBLIC "java/lang/Enum" "ordinal" "I" (.int (1 : Int32)) := h550.ext E553
        have h567 : Sta Z h553 "java/lang/String" "COMPACT_STRINGS" "Z" (.int zc) := h551.ext E553
        have h568 : Vec Z h553 b446 .char (2 : Int32) (ints (lst [ci0, ci1])) := h552.ext E553
        have h569 : k541 ≤ h553.size := Nat.le_trans hk541 E553.1
        have Gb553 : n0 ≤ b553 := Nat.le_trans (Nat.le_trans Z0 K541.1) (Nat.le_of_eq g553.symm)
        have szb553 : h0.size ≤ b553 := Nat.le_trans K541.1 (Nat.le_of_eq g553.symm)
        have K553 : Keep h0 h553 [] := K541.ext E553
        have h570 : Fld Z h553 b553 "com/example/graf/graf/routes/Match" "node" "Ljava/lang/String;" .null := D553 (Or.inr (hw _ (List.mem_of_getElem? (i := 45) rfl))) (ty := (.object "java/lang/String")) (by decide)
        have h571 : Fld Z h553 b553 "com/example/graf/graf/routes/Match" "kind" "Lcom/example/graf/graf/routes/RouteKind;" .null := D553 (Or.inr (hw _ (List.mem_of_getElem? (i := 47) rfl))) (ty := (.object "com/example/graf/graf/routes/RouteKind")) (by decide)
        refine GoW.st st553 ?_
        show GoW p e below s Q 4 10 (T553.setTop (mkF m 74 #[.val (.int k0), .val (.int c0), .val (.int c1), .val (.int sh), .val (.int (2 : Int32)), .val (.ref aLOGOUT), .val (.ref b446), .val (.ref b541), .unset, .unset] [(.ref b553)]))
        refine GoW.st (fun _ k => XS.dup X553.here hx rfl (hb hby at_74) rfl rfl k) ?_
        refine GoW.st (fun _ k => XS.aload X553.here hx rfl (hb hby at_75) rfl rfl k) ?_
        refine GoW.st (fun _ k => XS.aload X553.here hx rfl (hb hby at_77) rfl rfl k) ?_
        obtain ⟨_, _, ⟨T572, L572, k572, n572⟩, -, X572, ⟨Lc572, hQ572, l572, y572, z572⟩, st572⟩ := X553.specialBack hx (y := (⟨"com/example/graf/graf/routes/Match", "<init>", "(Ljava/lang/String;Lcom/example/graf/graf/routes/RouteKind;)V"⟩ : MethodName)) rfl hown541 (mvT hZ541 (hw _ (List.mem_of_getElem? (i := 40) rfl))) (mvT hZ541 (hw _ (List.mem_of_getElem? (i := 41) rfl))) (mvT hZ541 (hw _ (List.mem_of_getElem? (i := 42) rfl))) (by decide) (backOf (W := 1) (rmm11 l Z a0 hw [] b553 b541 aLOGOUT h553 n0 (Nat.le_trans Z0 K553.1) h570 h571 A553 Gb553) hZ541 (hw _ (List.mem_of_getElem? (i := 42) rfl)) (hw _ (List.mem_of_getElem? (i := 39) rfl)) (by decide) (by decide)) (g := (mkF m 79 #[.val (.int k0), .val (.int c0), .val (.int c1), .val (.int sh), .val (.int (2 : Int32)), .val (.ref aLOGOUT), .val (.ref b446), .val (.ref b541), .unset, .unset] [(.ref aLOGOUT), (.ref b541), (.ref b553), (.ref b553)])) rfl (by rw [hml]; rfl) (Steps.refl _) (a := b553) (argsL := [(.ref b541), (.ref aLOGOUT)]) (rest := [(.ref b553)]) (lenOf pd_5 rfl) rfl (by show 2 * 0 + _ ≤ _; exact Nat.le_of_eq rfl) (hb hby at_79) (fun _ _ => ⟨rfl, e553, (by decide : 4 + 0 ≤ _), (by decide : 8 + 0 ≤ _)⟩)
        dsimp only [Pt.U, Pt.locs, Pt.cells, Pt.slots] at X572 l572 y572 z572 st572 hQ572
        subst l572 y572 z572
        obtain ⟨rfl, N572q, K572q, h573, h574⟩ := hQ572
        have N572 := Fr.app N484 N572q
        have h575 : Sta Z T572.heap "com/example/graf/graf/routes/RouteKind" "GUARDED" "Lcom/example/graf/graf/routes/RouteKind;" (.ref aGUARDED) := Jvm.OwnGo.sta_keep h558 K572q (fun x hx => (allS (P := fun x => Exi h553 x) (exi_exa A553) all0) x hx)
        have h576 : Exa Z T572.heap aGUARDED "com/example/graf/graf/routes/RouteKind" := h559.keep K572q
        have h577 : Sta Z T572.heap "com/example/graf/graf/routes/RouteKind" "LOGOUT" "Lcom/example/graf/graf/routes/RouteKind;" (.ref aLOGOUT) := Jvm.OwnGo.sta_keep h560 K572q (fun x hx => (allS (P := fun x => Exi h553 x) (exi_exa A553) all0) x hx)
        have h578 : Exa Z T572.heap aLOGOUT "com/example/graf/graf/routes/RouteKind" := h561.keep K572q
        have h579 : Fld Z T572.heap aGUARDED "java/lang/Enum" "ordinal" "I" (.int (0 : Int32)) := h562.keep K572q (ninS q554 nin0)
        have h580 : Fld Z T572.heap aLOGOUT "java/lang/Enum" "ordinal" "I" (.int (2 : Int32)) := h563.keep K572q (ninS q555 nin0)
        have h581 : Sta Z T572.heap "com/example/graf/graf/routes/RouteKind" "PUBLIC" "Lcom/example/graf/graf/routes/RouteKind;" (.ref aPUBLIC) := Jvm.OwnGo.sta_keep h564 K572q (fun x hx => (allS (P := fun x => Exi h553 x) (exi_exa A553) all0) x hx)
        have h582 : Exa Z T572.heap aPUBLIC "com/example/graf/graf/routes/RouteKind" := h565.keep K572q
        have h583 : Fld Z T572.heap aPUBLIC "java/lang/Enum" "ordinal" "I" (.int (1 : Int32)) := h566.keep K572q (ninS q556 nin0)
        have h584 : Sta Z T572.heap "java/lang/String" "COMPACT_STRINGS" "Z" (.int zc) := Jvm.OwnGo.sta_keep h567 K572q (fun x hx => (allS (P := fun x => Exi h553 x) (exi_exa A553) all0) x hx)
        have h585 : Vec Z T572.heap b446 .char (2 : Int32) (ints (lst [ci0, ci1])) := h568.keep K572q (ninS q557 nin0)
        have h586 : k541 ≤ T572.heap.size := Nat.le_trans h569 K572q.1
        have K572 : Keep h0 T572.heap [] := K553.trans K572q (fun x hx => (show ∀ x ∈ ([b553] : List Addr), x ∈ ([] : List Addr) ∨ h0.size ≤ x from (allS (Or.inr szb553) all0)) x hx)
        refine GoW.tr  st572 ?_
        show GoW p e below s Q 4 10 (T572.setTop (mkF m 82 #[.val (.int k0), .val (.int c0), .val (.int c1), .val (.int sh), .val (.int (2 : Int32)), .val (.ref aLOGOUT), .val (.ref b446), .val (.ref b541), .unset, .unset] [(.ref b553)]))
        refine GoW.st (fun _ k => XS.astore X572.here hx rfl (hb hby at_82) rfl rfl (l' := #[.val (.int k0), .val (.int c0), .val (.int c1), .val (.int sh), .val (.int (2 : Int32)), .val (.ref aLOGOUT), .val (.ref b446), .val (.ref b541), .val (.ref b553), .unset]) rfl k) ?_
        refine GoW.st (fun _ k => XS.iload X572.here hx rfl (hb hby at_84) rfl k) ?_
        refine GoW.st (fun _ k => XS.iconst X572.here hx rfl (hb hby at_86) k) ?_
        refine GoW.st (fun _ k => XS.icmpNo X572.here hx rfl (hb hby at_87) rfl (teq (eqI liI_2 liI_2 (by decide))).2 k) ?_
        refine GoW.st (fun _ k => XS.iconst X572.here hx rfl (hb hby at_90) k) ?_
        refine GoW.st (fun _ k => XS.goto X572.here hx rfl (pc0 := 91) (pc' := 95) rfl (hb hby at_91) (by decide) (by decide) k) ?_
        show GoW p e below s Q 4 10 (T572.setTop (mkF m 95 #[.val (.int k0), .val (.int c0), .val (.int c1), .val (.int sh), .val (.int (2 : Int32)), .val (.ref aLOGOUT), .val (.ref b446), .val (.ref b541), .val (.ref b553), .unset] [(.int (1 : Int32))]))
        refine GoW.st (fun _ k => XS.istore X572.here hx rfl (hb hby at_95) rfl (l' := #[.val (.int k0), .val (.int c0), .val (.int c1), .val (.int sh), .val (.int (2 : Int32)), .val (.ref aLOGOUT), .val (.ref b446), .val (.ref b541), .val (.ref b553), .val (.int (1 : Int32))]) rfl k) ?_
        refine GoW.st (fun _ k => XS.aload X572.here hx rfl (hb hby at_97) rfl rfl k) ?_
        obtain ⟨cq587, kq587, q587a, q587b, q587c⟩ := isOf hZ541 rfl h574
        obtain ⟨_, _, ⟨T587, L587, k587, n587⟩, -, X587, ⟨Lc587, hQ587, l587, y587, z587⟩, st587⟩ := X572.virtualBack hx (y := (⟨"com/example/graf/graf/routes/Match", "isLogout", "()Z"⟩ : MethodName)) (z := (⟨"com/example/graf/graf/routes/Match", "isLogout", "()Z"⟩ : MethodName)) hown541 (mvT hZ541 (hw _ (List.mem_of_getElem? (i := 48) rfl))) (mvT hZ541 (hw _ (List.mem_of_getElem? (i := 49) rfl))) (notFace_of_selects (args := #[]) (mvT hZ541 (hw _ (List.mem_of_getElem? (i := 51) rfl)))) (mvT hZ541 (hw _ (List.mem_of_getElem? (i := 51) rfl))) (mvT hZ541 (hw _ (List.mem_of_getElem? (i := 50) rfl))) (by decide) (backOf (W := 0) (rmls l Z a0 hw [] b553 aLOGOUT T572.heap n0 (Nat.le_trans Z0 K572.1) h573 h577) hZ541 (hw _ (List.mem_of_getElem? (i := 52) rfl)) (hw _ (List.mem_of_getElem? (i := 39) rfl)) (by decide) (by decide)) q587a q587c (g := (mkF m 99 #[.val (.int k0), .val (.int c0), .val (.int c1), .val (.int sh), .val (.int (2 : Int32)), .val (.ref aLOGOUT), .val (.ref b446), .val (.ref b541), .val (.ref b553), .val (.int (1 : Int32))] [(.ref b553)])) rfl (by rw [hml]; rfl) (Steps.refl _) (argsL := []) (rest := []) (lenOf pd_6 rfl) rfl (by show 2 * 0 + _ ≤ _; exact Nat.le_of_eq rfl) (hb hby at_99) (fun _ _ => ⟨rfl, rfl, (by decide : 4 + 0 ≤ _), (by decide : 8 + 0 ≤ _)⟩)
        dsimp only [Pt.U, Pt.locs, Pt.cells, Pt.slots] at X587 l587 y587 z587 st587 hQ587
        subst l587 y587 z587
        obtain ⟨rfl, N587q, e587⟩ := hQ587
        have N587 := Fr.app N572 N587q
        refine GoW.tr  st587 ?_
        show GoW p e below s Q 4 10 (T587.setTop (mkF m 102 #[.val (.int k0), .val (.int c0), .val (.int c1), .val (.int sh), .val (.int (2 : Int32)), .val (.ref aLOGOUT), .val (.ref b446), .val (.ref b541), .val (.ref b553), .val (.int (1 : Int32))] [(.int (1 : Int32))]))
        refine GoW.st (fun _ k => XS.iload X587.here hx rfl (hb hby at_102) rfl k) ?_
        refine GoW.st (fun _ k => XS.icmpNo X587.here hx rfl (hb hby at_104) rfl (teq (eqI liI_1 liI_1 (by decide))).2 k) ?_
        refine GoW.st (fun _ k => XS.iconst X587.here hx rfl (hb hby at_107) k) ?_
        refine GoW.st (fun _ k => XS.goto X587.here hx rfl (pc0 := 108) (pc' := 112) rfl (hb hby at_108) (by decide) (by decide) k) ?_
        show GoW p e below s Q 4 10 (T587.setTop (mkF m 112 #[.val (.int k0), .val (.int c0), .val (.int c1), .val (.int sh), .val (.int (2 : Int32)), .val (.ref aLOGOUT), .val (.ref b446), .val (.ref b541), .val (.ref b553), .val (.int (1 : Int32))] [(.int (1 : Int32))]))
        exact GoW.retN hS541 (vm0 := T541.vm) X587 (by rw [e587]; exact h586) hx hlk (by simp) Bd.returns (hb hby at_112) (z' := (1 : Int32)) (by decide) (by rw [← hQ, e587]; exact ⟨rfl, N587, K572⟩) (by decide) (by decide)
    ·
      refine GoW.st (fun _ k => XS.ifNo X484.here hx rfl (hb hby at_38) rfl ((if0 _ _).trans (feq (neI rfl liI_0 c504)).1) k) ?_
      obtain ⟨T588, h588, X588, e588, E588, A588, D588, -, st588⟩ := newO X484 hx hZ hown (hw _ (List.mem_of_getElem? (i := 8) rfl)) (hw _ (List.mem_of_getElem? (i := 9) rfl)) (hw _ (List.mem_of_getElem? (i := 10) rfl)) e484 (g := (mkF m 41 #[.val (.int k0), .val (.int c0), .val (.int c1), .val (.int sh), .val (.int (2 : Int32)), .val (.ref aLOGOUT), .val (.ref b446), .unset, .unset, .unset] [])) rfl (hb hby at_41) (by decide) (by decide)
      obtain ⟨b588, g588⟩ : ∃ z, z = h484.size := ⟨_, rfl⟩
      rw [← g588] at A588 D588 st588
      have q589 : aGUARDED ≠ b588 := Nat.ne_of_lt (Nat.lt_of_lt_of_le h486.lt (Nat.le_of_eq g588.symm))
      have q590 : aLOGOUT ≠ b588 := Nat.ne_of_lt (Nat.lt_of_lt_of_le h488.lt (Nat.le_of_eq g588.symm))
      have q591 : aPUBLIC ≠ b588 := Nat.ne_of_lt (Nat.lt_of_lt_of_le h492.lt (Nat.le_of_eq g588.symm))
      have q592 : b446 ≠ b588 := Nat.ne_of_lt (Nat.lt_of_lt_of_le h495.lt (Nat.le_of_eq g588.symm))
      have h593 : Sta Z h588 "com/example/graf/graf/routes/RouteKind" "GUARDED" "Lcom/example/graf/graf/routes/RouteKind;" (.ref aGUARDED) := h485.ext E588
      have h594 : Exa Z h588 aGUARDED "com/example/graf/graf/routes/RouteKind" := h486.ext E588
      have h595 : Sta Z h588 "com/example/graf/graf/routes/RouteKind" "LOGOUT" "Lcom/example/graf/graf/routes/RouteKind;" (.ref aLOGOUT) := h487.ext E588
      have h596 : Exa Z h588 aLOGOUT "com/example/graf/graf/routes/RouteKind" := h488.ext E588
      have h597 : Fld Z h588 aGUARDED "java/lang/Enum" "ordinal" "I" (.int (0 : Int32)) := h489.ext E588
      have h598 : Fld Z h588 aLOGOUT "java/lang/Enum" "ordinal" "I" (.int (2 : Int32)) := h490.ext E588
      have h599 : Sta Z h588 "com/example/graf/graf/routes/RouteKind" "PUBLIC" "Lcom/example/graf/graf/routes/RouteKind;" (.ref aPUBLIC) := h491.ext E588
      have h600 : Exa Z h588 aPUBLIC "com/example/graf/graf/routes/RouteKind" := h492.ext E588
      have h601 : Fld Z h588 aPUBLIC "java/lang/Enum" "ordinal" "I" (.int (1 : Int32)) := h493.ext E588
      have h602 : Sta Z h588 "java/lang/String" "COMPACT_STRINGS" "Z" (.int zc) := h494.ext E588
      have h603 : Vec Z h588 b446 .char (2 : Int32) (ints (lst [ci0, ci1])) := h495.ext E588
      have Gb588 : n0 ≤ b588 := Nat.le_trans (Nat.le_trans Z0 K484.1) (Nat.le_of_eq g588.symm)
      have szb588 : h0.size ≤ b588 := Nat.le_trans K484.1 (Nat.le_of_eq g588.symm)
      have K588 : Keep h0 h588 [] := K484.ext E588
      have h604 : Fld Z h588 b588 "java/lang/String" "coder" "B" (.int (0 : Int32)) := D588 (Or.inr (hw _ (List.mem_of_getElem? (i := 34) rfl))) (ty := .byte) (by decide)
      have h605 : Fld Z h588 b588 "java/lang/String" "value" "[B" .null := D588 (Or.inr (hw _ (List.mem_of_getElem? (i := 36) rfl))) (ty := (.array .byte)) (by decide)
      refine GoW.st st588 ?_
      show GoW p e below s Q 4 10 (T588.setTop (mkF m 44 #[.val (.int k0), .val (.int c0), .val (.int c1), .val (.int sh), .val (.int (2 : Int32)), .val (.ref aLOGOUT), .val (.ref b446), .unset, .unset, .unset] [(.ref b588)]))
      refine GoW.st (fun _ k => XS.dup X588.here hx rfl (hb hby at_44) rfl rfl k) ?_
      refine GoW.st (fun _ k => XS.aload X588.here hx rfl (hb hby at_45) rfl rfl k) ?_
      have f607 := rng32 zc
      have p608 : ¬ zc.toInt = 0 := by omega
      obtain ⟨_, _, ⟨T606, L606, k606, n606⟩, -, X606, ⟨Lc606, hQ606, l606, y606, z606⟩, st606⟩ := X588.specialBack hx (y := (⟨"java/lang/String", "<init>", "([C)V"⟩ : MethodName)) rfl hown (mvT hZ (hw _ (List.mem_of_getElem? (i := 11) rfl))) (mvT hZ (hw _ (List.mem_of_getElem? (i := 12) rfl))) (mvT hZ (hw _ (List.mem_of_getElem? (i := 13) rfl))) (by decide) (backOf (W := 1) (rm2 l Z a0 hw [] b588 b446 (lst [ci0, ci1]) zc h588 n0 (Nat.le_trans Z0 K588.1) h605 h604 A588 Gb588 h603 hcs q592 h602 p608) hZ (hw _ (List.mem_of_getElem? (i := 13) rfl)) (hw _ (List.mem_of_getElem? (i := 10) rfl)) (by decide) (by decide)) (g := (mkF m 47 #[.val (.int k0), .val (.int c0), .val (.int c1), .val (.int sh), .val (.int (2 : Int32)), .val (.ref aLOGOUT), .val (.ref b446), .unset, .unset, .unset] [(.ref b446), (.ref b588), (.ref b588)])) rfl (by rw [hml]; rfl) (Steps.refl _) (a := b588) (argsL := [(.ref b446)]) (rest := [(.ref b588)]) (lenOf pd_7 rfl) rfl (by show 2 * 0 + _ ≤ _; exact Nat.le_of_eq rfl) (hb hby at_47) (fun _ _ => ⟨rfl, e588, (by decide : 2 + 1 ≤ _), (by decide : 6 + 2 ≤ _)⟩)
      dsimp only [Pt.U, Pt.locs, Pt.cells, Pt.slots] at X606 l606 y606 z606 st606 hQ606
      subst l606 y606 z606
      obtain ⟨rfl, N606q, K606q⟩ := hQ606
      have N606 := Fr.app N484 N606q
      have h609 : Sta Z T606.heap "com/example/graf/graf/routes/RouteKind" "GUARDED" "Lcom/example/graf/graf/routes/RouteKind;" (.ref aGUARDED) := Jvm.OwnGo.sta_keep h593 K606q (fun x hx => (allS (P := fun x => Exi h588 x) (exi_exa A588) all0) x hx)
      have h610 : Exa Z T606.heap aGUARDED "com/example/graf/graf/routes/RouteKind" := h594.keep K606q
      have h611 : Sta Z T606.heap "com/example/graf/graf/routes/RouteKind" "LOGOUT" "Lcom/example/graf/graf/routes/RouteKind;" (.ref aLOGOUT) := Jvm.OwnGo.sta_keep h595 K606q (fun x hx => (allS (P := fun x => Exi h588 x) (exi_exa A588) all0) x hx)
      have h612 : Exa Z T606.heap aLOGOUT "com/example/graf/graf/routes/RouteKind" := h596.keep K606q
      have h613 : Fld Z T606.heap aGUARDED "java/lang/Enum" "ordinal" "I" (.int (0 : Int32)) := h597.keep K606q (ninS q589 nin0)
      have h614 : Fld Z T606.heap aLOGOUT "java/lang/Enum" "ordinal" "I" (.int (2 : Int32)) := h598.keep K606q (ninS q590 nin0)
      have h615 : Sta Z T606.heap "com/example/graf/graf/routes/RouteKind" "PUBLIC" "Lcom/example/graf/graf/routes/RouteKind;" (.ref aPUBLIC) := Jvm.OwnGo.sta_keep h599 K606q (fun x hx => (allS (P := fun x => Exi h588 x) (exi_exa A588) all0) x hx)
      have h616 : Exa Z T606.heap aPUBLIC "com/example/graf/graf/routes/RouteKind" := h600.keep K606q
      have h617 : Fld Z T606.heap aPUBLIC "java/lang/Enum" "ordinal" "I" (.int (1 : Int32)) := h601.keep K606q (ninS q591 nin0)
      have h618 : Sta Z T606.heap "java/lang/String" "COMPACT_STRINGS" "Z" (.int zc) := Jvm.OwnGo.sta_keep h602 K606q (fun x hx => (allS (P := fun x => Exi h588 x) (exi_exa A588) all0) x hx)
      have h619 : Vec Z T606.heap b446 .char (2 : Int32) (ints (lst [ci0, ci1])) := h603.keep K606q (ninS q592 nin0)
      have h620 : Exa Z T606.heap b588 "java/lang/String" := A588.keep K606q
      have K606 : Keep h0 T606.heap [] := K588.trans K606q (fun x hx => (show ∀ x ∈ ([b588] : List Addr), x ∈ ([] : List Addr) ∨ h0.size ≤ x from (allS (Or.inr szb588) all0)) x hx)
      refine GoW.tr  st606 ?_
      show GoW p e below s Q 4 10 (T606.setTop (mkF m 50 #[.val (.int k0), .val (.int c0), .val (.int c1), .val (.int sh), .val (.int (2 : Int32)), .val (.ref aLOGOUT), .val (.ref b446), .unset, .unset, .unset] [(.ref b588)]))
      refine GoW.st (fun _ k => XS.astore X606.here hx rfl (hb hby at_50) rfl rfl (l' := #[.val (.int k0), .val (.int c0), .val (.int c1), .val (.int sh), .val (.int (2 : Int32)), .val (.ref aLOGOUT), .val (.ref b446), .val (.ref b588), .unset, .unset]) rfl k) ?_
      refine GoW.st (fun _ k => XS.goto X606.here hx rfl (pc0 := 52) (pc' := 71) rfl (hb hby at_52) (by decide) (by decide) k) ?_
      obtain ⟨T621, h621, X621, e621, E621, A621, D621, -, st621⟩ := newO X606 hx hZ hown (hw _ (List.mem_of_getElem? (i := 37) rfl)) (hw _ (List.mem_of_getElem? (i := 38) rfl)) (hw _ (List.mem_of_getElem? (i := 39) rfl)) rfl (g := (mkF m 71 #[.val (.int k0), .val (.int c0), .val (.int c1), .val (.int sh), .val (.int (2 : Int32)), .val (.ref aLOGOUT), .val (.ref b446), .val (.ref b588), .unset, .unset] [])) rfl (hb hby at_71) (by decide) (by decide)
      obtain ⟨b621, g621⟩ : ∃ z, z = T606.heap.size := ⟨_, rfl⟩
      rw [← g621] at A621 D621 st621
      have q622 : aGUARDED ≠ b621 := Nat.ne_of_lt (Nat.lt_of_lt_of_le h610.lt (Nat.le_of_eq g621.symm))
      have q623 : aLOGOUT ≠ b621 := Nat.ne_of_lt (Nat.lt_of_lt_of_le h612.lt (Nat.le_of_eq g621.symm))
      have q624 : aPUBLIC ≠ b621 := Nat.ne_of_lt (Nat.lt_of_lt_of_le h616.lt (Nat.le_of_eq g621.symm))
      have q625 : b446 ≠ b621 := Nat.ne_of_lt (Nat.lt_of_lt_of_le h619.lt (Nat.le_of_eq g621.symm))
      have q626 : b588 ≠ b621 := Nat.ne_of_lt (Nat.lt_of_lt_of_le h620.lt (Nat.le_of_eq g621.symm))
      have h627 : Sta Z h621 "com/example/graf/graf/routes/RouteKind" "GUARDED" "Lcom/example/graf/graf/routes/RouteKind;" (.ref aGUARDED) := h609.ext E621
      have h628 : Exa Z h621 aGUARDED "com/example/graf/graf/routes/RouteKind" := h610.ext E621
      have h629 : Sta Z h621 "com/example/graf/graf/routes/RouteKind" "LOGOUT" "Lcom/example/graf/graf/routes/RouteKind;" (.ref aLOGOUT) := h611.ext E621
      have h630 : Exa Z h621 aLOGOUT "com/example/graf/graf/routes/RouteKind" := h612.ext E621
      have h631 : Fld Z h621 aGUARDED "java/lang/Enum" "ordinal" "I" (.int (0 : Int32)) := h613.ext E621
      have h632 : Fld Z h621 aLOGOUT "java/lang/Enum" "ordinal" "I" (.int (2 : Int32)) := h614.ext E621
      have h633 : Sta Z h621 "com/example/graf/graf/routes/RouteKind" "PUBLIC" "Lcom/example/graf/graf/routes/RouteKind;" (.ref aPUBLIC) := h615.ext E621
      have h634 : Exa Z h621 aPUBLIC "com/example/graf/graf/routes/RouteKind" := h616.ext E621
      have h635 : Fld Z h621 aPUBLIC "java/lang/Enum" "ordinal" "I" (.int (1 : Int32)) := h617.ext E621
      have h636 : Sta Z h621 "java/lang/String" "COMPACT_STRINGS" "Z" (.int zc) := h618.ext E621
      have h637 : Vec Z h621 b446 .char (2 : Int32) (ints (lst [ci0, ci1])) := h619.ext E621
      have h638 : Exa Z h621 b588 "java/lang/String" := h620.ext E621
      have Gb621 : n0 ≤ b621 := Nat.le_trans (Nat.le_trans Z0 K606.1) (Nat.le_of_eq g621.symm)
      have szb621 : h0.size ≤ b621 := Nat.le_trans K606.1 (Nat.le_of_eq g621.symm)
      have K621 : Keep h0 h621 [] := K606.ext E621
      have h639 : Fld Z h621 b621 "com/example/graf/graf/routes/Match" "node" "Ljava/lang/String;" .null := D621 (Or.inr (hw _ (List.mem_of_getElem? (i := 45) rfl))) (ty := (.object "java/lang/String")) (by decide)
      have h640 : Fld Z h621 b621 "com/example/graf/graf/routes/Match" "kind" "Lcom/example/graf/graf/routes/RouteKind;" .null := D621 (Or.inr (hw _ (List.mem_of_getElem? (i := 47) rfl))) (ty := (.object "com/example/graf/graf/routes/RouteKind")) (by decide)
      refine GoW.st st621 ?_
      show GoW p e below s Q 4 10 (T621.setTop (mkF m 74 #[.val (.int k0), .val (.int c0), .val (.int c1), .val (.int sh), .val (.int (2 : Int32)), .val (.ref aLOGOUT), .val (.ref b446), .val (.ref b588), .unset, .unset] [(.ref b621)]))
      refine GoW.st (fun _ k => XS.dup X621.here hx rfl (hb hby at_74) rfl rfl k) ?_
      refine GoW.st (fun _ k => XS.aload X621.here hx rfl (hb hby at_75) rfl rfl k) ?_
      refine GoW.st (fun _ k => XS.aload X621.here hx rfl (hb hby at_77) rfl rfl k) ?_
      obtain ⟨_, _, ⟨T641, L641, k641, n641⟩, -, X641, ⟨Lc641, hQ641, l641, y641, z641⟩, st641⟩ := X621.specialBack hx (y := (⟨"com/example/graf/graf/routes/Match", "<init>", "(Ljava/lang/String;Lcom/example/graf/graf/routes/RouteKind;)V"⟩ : MethodName)) rfl hown (mvT hZ (hw _ (List.mem_of_getElem? (i := 40) rfl))) (mvT hZ (hw _ (List.mem_of_getElem? (i := 41) rfl))) (mvT hZ (hw _ (List.mem_of_getElem? (i := 42) rfl))) (by decide) (backOf (W := 1) (rmm11 l Z a0 hw [] b621 b588 aLOGOUT h621 n0 (Nat.le_trans Z0 K621.1) h639 h640 A621 Gb621) hZ (hw _ (List.mem_of_getElem? (i := 42) rfl)) (hw _ (List.mem_of_getElem? (i := 39) rfl)) (by decide) (by decide)) (g := (mkF m 79 #[.val (.int k0), .val (.int c0), .val (.int c1), .val (.int sh), .val (.int (2 : Int32)), .val (.ref aLOGOUT), .val (.ref b446), .val (.ref b588), .unset, .unset] [(.ref aLOGOUT), (.ref b588), (.ref b621), (.ref b621)])) rfl (by rw [hml]; rfl) (Steps.refl _) (a := b621) (argsL := [(.ref b588), (.ref aLOGOUT)]) (rest := [(.ref b621)]) (lenOf pd_5 rfl) rfl (by show 2 * 0 + _ ≤ _; exact Nat.le_of_eq rfl) (hb hby at_79) (fun _ _ => ⟨rfl, e621, (by decide : 4 + 0 ≤ _), (by decide : 10 + 0 ≤ _)⟩)
      dsimp only [Pt.U, Pt.locs, Pt.cells, Pt.slots] at X641 l641 y641 z641 st641 hQ641
      subst l641 y641 z641
      obtain ⟨rfl, N641q, K641q, h642, h643⟩ := hQ641
      have N641 := Fr.app N606 N641q
      have h644 : Sta Z T641.heap "com/example/graf/graf/routes/RouteKind" "GUARDED" "Lcom/example/graf/graf/routes/RouteKind;" (.ref aGUARDED) := Jvm.OwnGo.sta_keep h627 K641q (fun x hx => (allS (P := fun x => Exi h621 x) (exi_exa A621) all0) x hx)
      have h645 : Exa Z T641.heap aGUARDED "com/example/graf/graf/routes/RouteKind" := h628.keep K641q
      have h646 : Sta Z T641.heap "com/example/graf/graf/routes/RouteKind" "LOGOUT" "Lcom/example/graf/graf/routes/RouteKind;" (.ref aLOGOUT) := Jvm.OwnGo.sta_keep h629 K641q (fun x hx => (allS (P := fun x => Exi h621 x) (exi_exa A621) all0) x hx)
      have h647 : Exa Z T641.heap aLOGOUT "com/example/graf/graf/routes/RouteKind" := h630.keep K641q
      have h648 : Fld Z T641.heap aGUARDED "java/lang/Enum" "ordinal" "I" (.int (0 : Int32)) := h631.keep K641q (ninS q622 nin0)
      have h649 : Fld Z T641.heap aLOGOUT "java/lang/Enum" "ordinal" "I" (.int (2 : Int32)) := h632.keep K641q (ninS q623 nin0)
      have h650 : Sta Z T641.heap "com/example/graf/graf/routes/RouteKind" "PUBLIC" "Lcom/example/graf/graf/routes/RouteKind;" (.ref aPUBLIC) := Jvm.OwnGo.sta_keep h633 K641q (fun x hx => (allS (P := fun x => Exi h621 x) (exi_exa A621) all0) x hx)
      have h651 : Exa Z T641.heap aPUBLIC "com/example/graf/graf/routes/RouteKind" := h634.keep K641q
      have h652 : Fld Z T641.heap aPUBLIC "java/lang/Enum" "ordinal" "I" (.int (1 : Int32)) := h635.keep K641q (ninS q624 nin0)
      have h653 : Sta Z T641.heap "java/lang/String" "COMPACT_STRINGS" "Z" (.int zc) := Jvm.OwnGo.sta_keep h636 K641q (fun x hx => (allS (P := fun x => Exi h621 x) (exi_exa A621) all0) x hx)
      have h654 : Vec Z T641.heap b446 .char (2 : Int32) (ints (lst [ci0, ci1])) := h637.keep K641q (ninS q625 nin0)
      have h655 : Exa Z T641.heap b588 "java/lang/String" := h638.keep K641q
      have K641 : Keep h0 T641.heap [] := K621.trans K641q (fun x hx => (show ∀ x ∈ ([b621] : List Addr), x ∈ ([] : List Addr) ∨ h0.size ≤ x from (allS (Or.inr szb621) all0)) x hx)
      refine GoW.tr  st641 ?_
      show GoW p e below s Q 4 10 (T641.setTop (mkF m 82 #[.val (.int k0), .val (.int c0), .val (.int c1), .val (.int sh), .val (.int (2 : Int32)), .val (.ref aLOGOUT), .val (.ref b446), .val (.ref b588), .unset, .unset] [(.ref b621)]))
      refine GoW.st (fun _ k => XS.astore X641.here hx rfl (hb hby at_82) rfl rfl (l' := #[.val (.int k0), .val (.int c0), .val (.int c1), .val (.int sh), .val (.int (2 : Int32)), .val (.ref aLOGOUT), .val (.ref b446), .val (.ref b588), .val (.ref b621), .unset]) rfl k) ?_
      refine GoW.st (fun _ k => XS.iload X641.here hx rfl (hb hby at_84) rfl k) ?_
      refine GoW.st (fun _ k => XS.iconst X641.here hx rfl (hb hby at_86) k) ?_
      refine GoW.st (fun _ k => XS.icmpNo X641.here hx rfl (hb hby at_87) rfl (teq (eqI liI_2 liI_2 (by decide))).2 k) ?_
      refine GoW.st (fun _ k => XS.iconst X641.here hx rfl (hb hby at_90) k) ?_
      refine GoW.st (fun _ k => XS.goto X641.here hx rfl (pc0 := 91) (pc' := 95) rfl (hb hby at_91) (by decide) (by decide) k) ?_
      show GoW p e below s Q 4 10 (T641.setTop (mkF m 95 #[.val (.int k0), .val (.int c0), .val (.int c1), .val (.int sh), .val (.int (2 : Int32)), .val (.ref aLOGOUT), .val (.ref b446), .val (.ref b588), .val (.ref b621), .unset] [(.int (1 : Int32))]))
      refine GoW.st (fun _ k => XS.istore X641.here hx rfl (hb hby at_95) rfl (l' := #[.val (.int k0), .val (.int c0), .val (.int c1), .val (.int sh), .val (.int (2 : Int32)), .val (.ref aLOGOUT), .val (.ref b446), .val (.ref b588), .val (.ref b621), .val (.int (1 : Int32))]) rfl k) ?_
      refine GoW.st (fun _ k => XS.aload X641.here hx rfl (hb hby at_97) rfl rfl k) ?_
      obtain ⟨cq656, kq656, q656a, q656b, q656c⟩ := isOf hZ rfl h643
      obtain ⟨_, _, ⟨T656, L656, k656, n656⟩, -, X656, ⟨Lc656, hQ656, l656, y656, z656⟩, st656⟩ := X641.virtualBack hx (y := (⟨"com/example/graf/graf/routes/Match", "isLogout", "()Z"⟩ : MethodName)) (z := (⟨"com/example/graf/graf/routes/Match", "isLogout", "()Z"⟩ : MethodName)) hown (mvT hZ (hw _ (List.mem_of_getElem? (i := 48) rfl))) (mvT hZ (hw _ (List.mem_of_getElem? (i := 49) rfl))) (notFace_of_selects (args := #[]) (mvT hZ (hw _ (List.mem_of_getElem? (i := 51) rfl)))) (mvT hZ (hw _ (List.mem_of_getElem? (i := 51) rfl))) (mvT hZ (hw _ (List.mem_of_getElem? (i := 50) rfl))) (by decide) (backOf (W := 0) (rmls l Z a0 hw [] b621 aLOGOUT T641.heap n0 (Nat.le_trans Z0 K641.1) h642 h646) hZ (hw _ (List.mem_of_getElem? (i := 52) rfl)) (hw _ (List.mem_of_getElem? (i := 39) rfl)) (by decide) (by decide)) q656a q656c (g := (mkF m 99 #[.val (.int k0), .val (.int c0), .val (.int c1), .val (.int sh), .val (.int (2 : Int32)), .val (.ref aLOGOUT), .val (.ref b446), .val (.ref b588), .val (.ref b621), .val (.int (1 : Int32))] [(.ref b621)])) rfl (by rw [hml]; rfl) (Steps.refl _) (argsL := []) (rest := []) (lenOf pd_6 rfl) rfl (by show 2 * 0 + _ ≤ _; exact Nat.le_of_eq rfl) (hb hby at_99) (fun _ _ => ⟨rfl, rfl, (by decide : 4 + 0 ≤ _), (by decide : 10 + 0 ≤ _)⟩)
      dsimp only [Pt.U, Pt.locs, Pt.cells, Pt.slots] at X656 l656 y656 z656 st656 hQ656
      subst l656 y656 z656
      obtain ⟨rfl, N656q, e656⟩ := hQ656
      have N656 := Fr.app N641 N656q
      refine GoW.tr  st656 ?_
      show GoW p e below s Q 4 10 (T656.setTop (mkF m 102 #[.val (.int k0), .val (.int c0), .val (.int c1), .val (.int sh), .val (.int (2 : Int32)), .val (.ref aLOGOUT), .val (.ref b446), .val (.ref b588), .val (.ref b621), .val (.int (1 : Int32))] [(.int (1 : Int32))]))
      refine GoW.st (fun _ k => XS.iload X656.here hx rfl (hb hby at_102) rfl k) ?_
      refine GoW.st (fun _ k => XS.icmpNo X656.here hx rfl (hb hby at_104) rfl (teq (eqI liI_1 liI_1 (by decide))).2 k) ?_
      refine GoW.st (fun _ k => XS.iconst X656.here hx rfl (hb hby at_107) k) ?_
      refine GoW.st (fun _ k => XS.goto X656.here hx rfl (pc0 := 108) (pc' := 112) rfl (hb hby at_108) (by decide) (by decide) k) ?_
      show GoW p e below s Q 4 10 (T656.setTop (mkF m 112 #[.val (.int k0), .val (.int c0), .val (.int c1), .val (.int sh), .val (.int (2 : Int32)), .val (.ref aLOGOUT), .val (.ref b446), .val (.ref b588), .val (.ref b621), .val (.int (1 : Int32))] [(.int (1 : Int32))]))
      exact GoW.retN (since0 s) (vm0 := s.vm) X656 (Nat.zero_le _) hx hlk (by simp) Bd.returns (hb hby at_112) (z' := (1 : Int32)) (by decide) (by rw [← hQ, e656]; exact ⟨rfl, N656, K641⟩) (by decide) (by decide)
  ·
    have cs12' : v7 = (3 : Int32) := eqI cs12 liI_3 rfl
    subst cs12'
    show GoW p e below s Q 4 10 (s₁.setTop (mkF m 5 #[.val (.int k0), .val (.int c0), .val (.int c1), .val (.int sh), .val (.int (3 : Int32)), .unset, .unset, .unset, .unset, .unset] []))
    clear f1 f2 f3 f4 f5 f6
    refine GoW.st (fun _ k => XS.iload X0.here hx rfl (hb hby at_5) rfl k) ?_
    have f658 := liI_3
    obtain ⟨_, _, ⟨T657, L657, k657, n657⟩, -, X657, ⟨Lc657, hQ657, l657, y657, z657⟩, st657⟩ := Jvm.LawKit.callS X0 hx (y := (⟨"com/example/graf/graf/routes/MatchIsLogoutPinLaw", "kindOf", "(I)Lcom/example/graf/graf/routes/RouteKind;"⟩ : MethodName)) hown (mvT hZ (hw _ (List.mem_of_getElem? (i := 0) rfl))) (mvT hZ (hw _ (List.mem_of_getElem? (i := 1) rfl))) (mvT hZ (hw _ (List.mem_of_getElem? (i := 2) rfl))) (mvT hZ (hw _ (List.mem_of_getElem? (i := 3) rfl))) (by decide) (backOf (W := 0) (rmk3 l Z a0 hw []  h0 n0 (Nat.le_trans Z0 K0.1) ) hZ (hw _ (List.mem_of_getElem? (i := 3) rfl)) (hw _ (List.mem_of_getElem? (i := 2) rfl)) (by decide) (by decide)) (g := (mkF m 7 #[.val (.int k0), .val (.int c0), .val (.int c1), .val (.int sh), .val (.int (3 : Int32)), .unset, .unset, .unset, .unset, .unset] [(.int (3 : Int32))])) rfl (by rw [hml]; rfl) (argsL := [(.int (3 : Int32))]) (rest := []) (lenOf pd_4 rfl) rfl (by show 2 * 0 + _ ≤ _; exact Nat.le_of_eq rfl) (hb hby at_7) (fun _ _ => ⟨rfl, e0, (by decide : 0 + 0 ≤ _), (by decide : 0 + 0 ≤ _)⟩)
    dsimp only [Pt.U, Pt.locs, Pt.cells, Pt.slots] at X657 l657 y657 z657 st657 hQ657
    subst l657 y657 z657
    obtain ⟨rfl, N657q, e657⟩ := hQ657
    have N657 := Fr.app N0 N657q
    refine GoW.st st657 ?_
    show GoW p e below s Q 4 10 (T657.setTop (mkF m 10 #[.val (.int k0), .val (.int c0), .val (.int c1), .val (.int sh), .val (.int (3 : Int32)), .unset, .unset, .unset, .unset, .unset] [.null]))
    refine GoW.st (fun _ k => XS.astore X657.here hx rfl (hb hby at_10) rfl rfl (l' := #[.val (.int k0), .val (.int c0), .val (.int c1), .val (.int sh), .val (.int (3 : Int32)), .val .null, .unset, .unset, .unset, .unset]) rfl k) ?_
    refine GoW.st (fun _ k => XS.iconst X657.here hx rfl (hb hby at_12) k) ?_
    have f660 := liI_2
    have r661 : 0 ≤ (2 : Int32).toInt := by decide
    have r662 : (2 : Int32).toNatClampNeg ≤ 2 := by decide
    obtain ⟨T659, h659, k659, X659, e659, E659, A659, st659⟩ := newP X657 hx hZ (hw _ (List.mem_of_getElem? (i := 7) rfl)) e657 (g := (mkF m 13 #[.val (.int k0), .val (.int c0), .val (.int c1), .val (.int sh), .val (.int (3 : Int32)), .val .null, .unset, .unset, .unset, .unset] [(.int (2 : Int32))])) rfl (hb hby at_13) rfl (not_neg r661) (cap := 2) r662 (by decide) (by decide) (by decide)
    obtain ⟨b659, g659⟩ : ∃ z, z = h0.size := ⟨_, rfl⟩
    rw [← g659] at A659 st659
    have q663 : aGUARDED ≠ b659 := Nat.ne_of_lt (Nat.lt_of_lt_of_le E_aGUARDED.lt (Nat.le_of_eq g659.symm))
    have q664 : aLOGOUT ≠ b659 := Nat.ne_of_lt (Nat.lt_of_lt_of_le E_aLOGOUT.lt (Nat.le_of_eq g659.symm))
    have q665 : aPUBLIC ≠ b659 := Nat.ne_of_lt (Nat.lt_of_lt_of_le E_aPUBLIC.lt (Nat.le_of_eq g659.symm))
    have h666 : Sta Z h659 "com/example/graf/graf/routes/RouteKind" "GUARDED" "Lcom/example/graf/graf/routes/RouteKind;" (.ref aGUARDED) := S_aGUARDED.ext E659
    have h667 : Exa Z h659 aGUARDED "com/example/graf/graf/routes/RouteKind" := E_aGUARDED.ext E659
    have h668 : Sta Z h659 "com/example/graf/graf/routes/RouteKind" "LOGOUT" "Lcom/example/graf/graf/routes/RouteKind;" (.ref aLOGOUT) := S_aLOGOUT.ext E659
    have h669 : Exa Z h659 aLOGOUT "com/example/graf/graf/routes/RouteKind" := E_aLOGOUT.ext E659
    have h670 : Fld Z h659 aGUARDED "java/lang/Enum" "ordinal" "I" (.int (0 : Int32)) := F_aGUARDED_ordinal.ext E659
    have h671 : Fld Z h659 aLOGOUT "java/lang/Enum" "ordinal" "I" (.int (2 : Int32)) := F_aLOGOUT_ordinal.ext E659
    have h672 : Sta Z h659 "com/example/graf/graf/routes/RouteKind" "PUBLIC" "Lcom/example/graf/graf/routes/RouteKind;" (.ref aPUBLIC) := S_aPUBLIC.ext E659
    have h673 : Exa Z h659 aPUBLIC "com/example/graf/graf/routes/RouteKind" := E_aPUBLIC.ext E659
    have h674 : Fld Z h659 aPUBLIC "java/lang/Enum" "ordinal" "I" (.int (1 : Int32)) := F_aPUBLIC_ordinal.ext E659
    have h675 : Sta Z h659 "java/lang/String" "COMPACT_STRINGS" "Z" (.int zc) := S_CS.ext E659
    have Gb659 : n0 ≤ b659 := Nat.le_trans (Nat.le_trans Z0 K0.1) (Nat.le_of_eq g659.symm)
    have szb659 : h0.size ≤ b659 := Nat.le_trans K0.1 (Nat.le_of_eq g659.symm)
    have K659 : Keep h0 h659 [] := K0.ext E659
    have h676 : Vec Z h659 b659 .char (2 : Int32) (ints (lst [(0 : Int32), (0 : Int32)])) := Vec.zerosI 2 (Vec.new A659 r661)
    refine GoW.st st659 ?_
    show GoW p e below s Q 4 10 (T659.setTop (mkF m 15 #[.val (.int k0), .val (.int c0), .val (.int c1), .val (.int sh), .val (.int (3 : Int32)), .val .null, .unset, .unset, .unset, .unset] [(.ref b659)]))
    refine GoW.st (fun _ k => XS.dup X659.here hx rfl (hb hby at_15) rfl rfl k) ?_
    refine GoW.st (fun _ k => XS.iconst X659.here hx rfl (hb hby at_16) k) ?_
    refine GoW.st (fun _ k => XS.iloadN X659.here hx rfl (hb hby at_17) rfl k) ?_
    refine GoW.st (fun _ k => XS.sipush X659.here hx rfl (hb hby at_18) k) ?_
    refine GoW.st (fun _ k => XS.iand X659.here hx rfl (hb hby at_21) rfl k) ?_
    show GoW p e below s Q 4 10 (T659.setTop (mkF m 22 #[.val (.int k0), .val (.int c0), .val (.int c1), .val (.int sh), .val (.int (3 : Int32)), .val .null, .unset, .unset, .unset, .unset] [(.int (c0 &&& (255 : Int32))), (.int (0 : Int32)), (.ref b659), (.ref b659)]))
    have f677 := rng32 c0
    have f678 := liI_255
    have f679 : (c0 &&& (255 : Int32)).toInt = c0.toInt % 256 := c_mask c0 (255 : Int32) 8 (by decide) (by decide)
    generalize hv_ca0 : (c0 &&& (255 : Int32)) = ca0 at f679 ⊢
    refine GoW.st (fun _ k => XS.i2c X659.here hx rfl (hb hby at_22) rfl k) ?_
    obtain ⟨T680, h680, X680, e680, W680, V680, st680⟩ := Vec.istC X659 hx hZ e659 h676 (j := (0 : Int32)) (by decide) (by decide) (g := (mkF m 23 #[.val (.int k0), .val (.int c0), .val (.int c1), .val (.int sh), .val (.int (3 : Int32)), .val .null, .unset, .unset, .unset, .unset] [(.int (ca0.toUInt32.toUInt16.toUInt32.toInt32)), (.int (0 : Int32)), (.ref b659), (.ref b659)])) rfl rfl (hb hby at_23)
    have h681 : Sta Z h680 "com/example/graf/graf/routes/RouteKind" "GUARDED" "Lcom/example/graf/graf/routes/RouteKind;" (.ref aGUARDED) := h666.wr W680
    have h682 : Exa Z h680 aGUARDED "com/example/graf/graf/routes/RouteKind" := h667.wr W680
    have h683 : Sta Z h680 "com/example/graf/graf/routes/RouteKind" "LOGOUT" "Lcom/example/graf/graf/routes/RouteKind;" (.ref aLOGOUT) := h668.wr W680
    have h684 : Exa Z h680 aLOGOUT "com/example/graf/graf/routes/RouteKind" := h669.wr W680
    have h685 : Fld Z h680 aGUARDED "java/lang/Enum" "ordinal" "I" (.int (0 : Int32)) := h670.other W680 (Or.inl q663)
    have h686 : Fld Z h680 aLOGOUT "java/lang/Enum" "ordinal" "I" (.int (2 : Int32)) := h671.other W680 (Or.inl q664)
    have h687 : Sta Z h680 "com/example/graf/graf/routes/RouteKind" "PUBLIC" "Lcom/example/graf/graf/routes/RouteKind;" (.ref aPUBLIC) := h672.wr W680
    have h688 : Exa Z h680 aPUBLIC "com/example/graf/graf/routes/RouteKind" := h673.wr W680
    have h689 : Fld Z h680 aPUBLIC "java/lang/Enum" "ordinal" "I" (.int (1 : Int32)) := h674.other W680 (Or.inl q665)
    have h690 : Sta Z h680 "java/lang/String" "COMPACT_STRINGS" "Z" (.int zc) := h675.wr W680
    have h691 : Vec Z h680 b659 .char (2 : Int32) (ints (lst [((ca0.toUInt32.toUInt16.toUInt32.toInt32).toUInt32.toUInt16.toUInt32.toInt32), (0 : Int32)])) := Vec.of_eq V680 (congrArg ints (upd_lst _ 0 _ (Nat.le_of_ble_eq_true rfl)))
    have K680 : Keep h0 h680 [] := K659.wr W680 (Or.inr szb659)
    have N680 := Fr.snoc X680 N657 Gb659
    refine GoW.st st680 ?_
    show GoW p e below s Q 4 10 (T680.setTop (mkF m 24 #[.val (.int k0), .val (.int c0), .val (.int c1), .val (.int sh), .val (.int (3 : Int32)), .val .null, .unset, .unset, .unset, .unset] [(.ref b659)]))
    have f692 := c_i2c ca0
    have f693 := rng32 (ca0.toUInt32.toUInt16.toUInt32.toInt32)
    have f694 := c_i2c (ca0.toUInt32.toUInt16.toUInt32.toInt32)
    have f695 := rng32 ((ca0.toUInt32.toUInt16.toUInt32.toInt32).toUInt32.toUInt16.toUInt32.toInt32)
    generalize hv_ci0 : ((ca0.toUInt32.toUInt16.toUInt32.toInt32).toUInt32.toUInt16.toUInt32.toInt32) = ci0 at f694 f695 h691
    have hci0 : 0 ≤ ci0.toInt ∧ ci0.toInt ≤ 255 := by omega
    refine GoW.st (fun _ k => XS.dup X680.here hx rfl (hb hby at_24) rfl rfl k) ?_
    refine GoW.st (fun _ k => XS.iconst X680.here hx rfl (hb hby at_25) k) ?_
    refine GoW.st (fun _ k => XS.iloadN X680.here hx rfl (hb hby at_26) rfl k) ?_
    refine GoW.st (fun _ k => XS.sipush X680.here hx rfl (hb hby at_27) k) ?_
    refine GoW.st (fun _ k => XS.iand X680.here hx rfl (hb hby at_30) rfl k) ?_
    show GoW p e below s Q 4 10 (T680.setTop (mkF m 31 #[.val (.int k0), .val (.int c0), .val (.int c1), .val (.int sh), .val (.int (3 : Int32)), .val .null, .unset, .unset, .unset, .unset] [(.int (c1 &&& (255 : Int32))), (.int (1 : Int32)), (.ref b659), (.ref b659)]))
    have f696 := rng32 c1
    have f697 : (c1 &&& (255 : Int32)).toInt = c1.toInt % 256 := c_mask c1 (255 : Int32) 8 (by decide) (by decide)
    generalize hv_ca1 : (c1 &&& (255 : Int32)) = ca1 at f697 ⊢
    refine GoW.st (fun _ k => XS.i2c X680.here hx rfl (hb hby at_31) rfl k) ?_
    obtain ⟨T698, h698, X698, e698, W698, V698, st698⟩ := Vec.istC X680 hx hZ e680 h691 (j := (1 : Int32)) (by decide) (by decide) (g := (mkF m 32 #[.val (.int k0), .val (.int c0), .val (.int c1), .val (.int sh), .val (.int (3 : Int32)), .val .null, .unset, .unset, .unset, .unset] [(.int (ca1.toUInt32.toUInt16.toUInt32.toInt32)), (.int (1 : Int32)), (.ref b659), (.ref b659)])) rfl rfl (hb hby at_32)
    have h699 : Sta Z h698 "com/example/graf/graf/routes/RouteKind" "GUARDED" "Lcom/example/graf/graf/routes/RouteKind;" (.ref aGUARDED) := h681.wr W698
    have h700 : Exa Z h698 aGUARDED "com/example/graf/graf/routes/RouteKind" := h682.wr W698
    have h701 : Sta Z h698 "com/example/graf/graf/routes/RouteKind" "LOGOUT" "Lcom/example/graf/graf/routes/RouteKind;" (.ref aLOGOUT) := h683.wr W698
    have h702 : Exa Z h698 aLOGOUT "com/example/graf/graf/routes/RouteKind" := h684.wr W698
    have h703 : Fld Z h698 aGUARDED "java/lang/Enum" "ordinal" "I" (.int (0 : Int32)) := h685.other W698 (Or.inl q663)
    have h704 : Fld Z h698 aLOGOUT "java/lang/Enum" "ordinal" "I" (.int (2 : Int32)) := h686.other W698 (Or.inl q664)
    have h705 : Sta Z h698 "com/example/graf/graf/routes/RouteKind" "PUBLIC" "Lcom/example/graf/graf/routes/RouteKind;" (.ref aPUBLIC) := h687.wr W698
    have h706 : Exa Z h698 aPUBLIC "com/example/graf/graf/routes/RouteKind" := h688.wr W698
    have h707 : Fld Z h698 aPUBLIC "java/lang/Enum" "ordinal" "I" (.int (1 : Int32)) := h689.other W698 (Or.inl q665)
    have h708 : Sta Z h698 "java/lang/String" "COMPACT_STRINGS" "Z" (.int zc) := h690.wr W698
    have h709 : Vec Z h698 b659 .char (2 : Int32) (ints (lst [ci0, ((ca1.toUInt32.toUInt16.toUInt32.toInt32).toUInt32.toUInt16.toUInt32.toInt32)])) := Vec.of_eq V698 (congrArg ints (upd_lst _ 1 _ (Nat.le_of_ble_eq_true rfl)))
    have K698 : Keep h0 h698 [] := K680.wr W698 (Or.inr szb659)
    have N698 := Fr.snoc X698 N680 Gb659
    refine GoW.st st698 ?_
    show GoW p e below s Q 4 10 (T698.setTop (mkF m 33 #[.val (.int k0), .val (.int c0), .val (.int c1), .val (.int sh), .val (.int (3 : Int32)), .val .null, .unset, .unset, .unset, .unset] [(.ref b659)]))
    have f710 := c_i2c ca1
    have f711 := rng32 (ca1.toUInt32.toUInt16.toUInt32.toInt32)
    have f712 := c_i2c (ca1.toUInt32.toUInt16.toUInt32.toInt32)
    have f713 := rng32 ((ca1.toUInt32.toUInt16.toUInt32.toInt32).toUInt32.toUInt16.toUInt32.toInt32)
    generalize hv_ci1 : ((ca1.toUInt32.toUInt16.toUInt32.toInt32).toUInt32.toUInt16.toUInt32.toInt32) = ci1 at f712 f713 h709
    have hci1 : 0 ≤ ci1.toInt ∧ ci1.toInt ≤ 255 := by omega
    have hcs : ∀ j : Nat, 0 ≤ ((lst [ci0, ci1]) j).toInt ∧ ((lst [ci0, ci1]) j).toInt ≤ 255 := fun j => match j with | 0 => hci0 | 1 => hci1 | (n + 2) => by have q : (lst [ci0, ci1]) (n + 2) = 0 := rfl; rw [q]; decide
    clear f658 f660 f677 f678 f679 f692 f693 f694 f695 f696 f697 f710 f711 f712 f713
    refine GoW.st (fun _ k => XS.astore X698.here hx rfl (hb hby at_33) rfl rfl (l' := #[.val (.int k0), .val (.int c0), .val (.int c1), .val (.int sh), .val (.int (3 : Int32)), .val .null, .val (.ref b659), .unset, .unset, .unset]) rfl k) ?_
    refine GoW.st (fun _ k => XS.iloadN X698.here hx rfl (hb hby at_35) rfl k) ?_
    refine GoW.st (fun _ k => XS.iconst X698.here hx rfl (hb hby at_36) k) ?_
    refine GoW.st (fun _ k => XS.iand X698.here hx rfl (hb hby at_37) rfl k) ?_
    have f714 := rng32 sh
    have f715 := liI_1
    have f716 : (sh &&& (1 : Int32)).toInt = sh.toInt % 2 := c_mask sh (1 : Int32) 1 (by decide) (by decide)
    have f717 := liI_0
    by_cases c718 : (sh &&& (1 : Int32)).toInt = 0
    ·
      refine GoW.st (fun _ k => XS.ifYes X698.here hx rfl (pc0 := 38) (pc' := 55) rfl (hb hby at_38) rfl ((if0 _ _).trans (teq (eqI rfl liI_0 c718)).1) (by decide) (by decide) k) ?_
      refine GoW.st (fun _ k => XS.iloadN X698.here hx rfl (hb hby at_55) rfl k) ?_
      show GoW p e below s Q 4 10 (T698.setTop (mkF m 56 #[.val (.int k0), .val (.int c0), .val (.int c1), .val (.int sh), .val (.int (3 : Int32)), .val .null, .val (.ref b659), .unset, .unset, .unset] [(.int sh)]))
      refine GoW.st (fun _ k => XS.iconst X698.here hx rfl (hb hby at_56) k) ?_
      refine GoW.st (fun _ k => XS.iand X698.here hx rfl (hb hby at_57) rfl k) ?_
      have f719 := liI_2
      have f720 := c_and sh (2 : Int32) (by decide)
      by_cases c721 : (sh &&& (2 : Int32)).toInt = 0
      ·
        refine GoW.st (fun _ k => XS.ifYes X698.here hx rfl (pc0 := 58) (pc' := 68) rfl (hb hby at_58) rfl ((if0 _ _).trans (teq (eqI rfl liI_0 c721)).1) (by decide) (by decide) k) ?_
        refine GoW.st (fun _ k => XS.aconstNull X698.here hx rfl (hb hby at_68) k) ?_
        refine GoW.st (fun _ k => XS.astore X698.here hx rfl (hb hby at_69) rfl rfl (l' := #[.val (.int k0), .val (.int c0), .val (.int c1), .val (.int sh), .val (.int (3 : Int32)), .val .null, .val (.ref b659), .val .null, .unset, .unset]) rfl k) ?_
        obtain ⟨T722, h722, X722, e722, E722, A722, D722, -, st722⟩ := newO X698 hx hZ hown (hw _ (List.mem_of_getElem? (i := 37) rfl)) (hw _ (List.mem_of_getElem? (i := 38) rfl)) (hw _ (List.mem_of_getElem? (i := 39) rfl)) e698 (g := (mkF m 71 #[.val (.int k0), .val (.int c0), .val (.int c1), .val (.int sh), .val (.int (3 : Int32)), .val .null, .val (.ref b659), .val .null, .unset, .unset] [])) rfl (hb hby at_71) (by decide) (by decide)
        obtain ⟨b722, g722⟩ : ∃ z, z = h698.size := ⟨_, rfl⟩
        rw [← g722] at A722 D722 st722
        have q723 : aGUARDED ≠ b722 := Nat.ne_of_lt (Nat.lt_of_lt_of_le h700.lt (Nat.le_of_eq g722.symm))
        have q724 : aLOGOUT ≠ b722 := Nat.ne_of_lt (Nat.lt_of_lt_of_le h702.lt (Nat.le_of_eq g722.symm))
        have q725 : aPUBLIC ≠ b722 := Nat.ne_of_lt (Nat.lt_of_lt_of_le h706.lt (Nat.le_of_eq g722.symm))
        have q726 : b659 ≠ b722 := Nat.ne_of_lt (Nat.lt_of_lt_of_le h709.lt (Nat.le_of_eq g722.symm))
        have h727 : Sta Z h722 "com/example/graf/graf/routes/RouteKind" "GUARDED" "Lcom/example/graf/graf/routes/RouteKind;" (.ref aGUARDED) := h699.ext E722
        have h728 : Exa Z h722 aGUARDED "com/example/graf/graf/routes/RouteKind" := h700.ext E722
        have h729 : Sta Z h722 "com/example/graf/graf/routes/RouteKind" "LOGOUT" "Lcom/example/graf/graf/routes/RouteKind;" (.ref aLOGOUT) := h701.ext E722
        have h730 : Exa Z h722 aLOGOUT "com/example/graf/graf/routes/RouteKind" := h702.ext E722
        have h731 : Fld Z h722 aGUARDED "java/lang/Enum" "ordinal" "I" (.int (0 : Int32)) := h703.ext E722
        have h732 : Fld Z h722 aLOGOUT "java/lang/Enum" "ordinal" "I" (.int (2 : Int32)) := h704.ext E722
        have h733 : Sta Z h722 "com/example/graf/graf/routes/RouteKind" "PUBLIC" "Lcom/example/graf/graf/routes/RouteKind;" (.ref aPUBLIC) := h705.ext E722
        have h734 : Exa Z h722 aPUBLIC "com/example/graf/graf/routes/RouteKind" := h706.ext E722
        have h735 : Fld Z h722 aPUBLIC "java/lang/Enum" "ordinal" "I" (.int (1 : Int32)) := h707.ext E722
        have h736 : Sta Z h722 "java/lang/String" "COMPACT_STRINGS" "Z" (.int zc) := h708.ext E722
        have h737 : Vec Z h722 b659 .char (2 : Int32) (ints (lst [ci0, ci1])) := h709.ext E722
        have Gb722 : n0 ≤ b722 := Nat.le_trans (Nat.le_trans Z0 K698.1) (Nat.le_of_eq g722.symm)
        have szb722 : h0.size ≤ b722 := Nat.le_trans K698.1 (Nat.le_of_eq g722.symm)
        have K722 : Keep h0 h722 [] := K698.ext E722
        have h738 : Fld Z h722 b722 "com/example/graf/graf/routes/Match" "node" "Ljava/lang/String;" .null := D722 (Or.inr (hw _ (List.mem_of_getElem? (i := 45) rfl))) (ty := (.object "java/lang/String")) (by decide)
        have h739 : Fld Z h722 b722 "com/example/graf/graf/routes/Match" "kind" "Lcom/example/graf/graf/routes/RouteKind;" .null := D722 (Or.inr (hw _ (List.mem_of_getElem? (i := 47) rfl))) (ty := (.object "com/example/graf/graf/routes/RouteKind")) (by decide)
        refine GoW.st st722 ?_
        show GoW p e below s Q 4 10 (T722.setTop (mkF m 74 #[.val (.int k0), .val (.int c0), .val (.int c1), .val (.int sh), .val (.int (3 : Int32)), .val .null, .val (.ref b659), .val .null, .unset, .unset] [(.ref b722)]))
        refine GoW.st (fun _ k => XS.dup X722.here hx rfl (hb hby at_74) rfl rfl k) ?_
        refine GoW.st (fun _ k => XS.aload X722.here hx rfl (hb hby at_75) rfl rfl k) ?_
        refine GoW.st (fun _ k => XS.aload X722.here hx rfl (hb hby at_77) rfl rfl k) ?_
        obtain ⟨_, _, ⟨T740, L740, k740, n740⟩, -, X740, ⟨Lc740, hQ740, l740, y740, z740⟩, st740⟩ := X722.specialBack hx (y := (⟨"com/example/graf/graf/routes/Match", "<init>", "(Ljava/lang/String;Lcom/example/graf/graf/routes/RouteKind;)V"⟩ : MethodName)) rfl hown (mvT hZ (hw _ (List.mem_of_getElem? (i := 40) rfl))) (mvT hZ (hw _ (List.mem_of_getElem? (i := 41) rfl))) (mvT hZ (hw _ (List.mem_of_getElem? (i := 42) rfl))) (by decide) (backOf (W := 1) (rmm00 l Z a0 hw [] b722 h722 n0 (Nat.le_trans Z0 K722.1) h738 h739 A722 Gb722) hZ (hw _ (List.mem_of_getElem? (i := 42) rfl)) (hw _ (List.mem_of_getElem? (i := 39) rfl)) (by decide) (by decide)) (g := (mkF m 79 #[.val (.int k0), .val (.int c0), .val (.int c1), .val (.int sh), .val (.int (3 : Int32)), .val .null, .val (.ref b659), .val .null, .unset, .unset] [.null, .null, (.ref b722), (.ref b722)])) rfl (by rw [hml]; rfl) (Steps.refl _) (a := b722) (argsL := [.null, .null]) (rest := [(.ref b722)]) (lenOf pd_5 rfl) rfl (by show 2 * 0 + _ ≤ _; exact Nat.le_of_eq rfl) (hb hby at_79) (fun _ _ => ⟨rfl, e722, (by decide : 2 + 0 ≤ _), (by decide : 4 + 0 ≤ _)⟩)
        dsimp only [Pt.U, Pt.locs, Pt.cells, Pt.slots] at X740 l740 y740 z740 st740 hQ740
        subst l740 y740 z740
        obtain ⟨rfl, N740q, K740q, h741, h742⟩ := hQ740
        have N740 := Fr.app N698 N740q
        have h743 : Sta Z T740.heap "com/example/graf/graf/routes/RouteKind" "GUARDED" "Lcom/example/graf/graf/routes/RouteKind;" (.ref aGUARDED) := Jvm.OwnGo.sta_keep h727 K740q (fun x hx => (allS (P := fun x => Exi h722 x) (exi_exa A722) all0) x hx)
        have h744 : Exa Z T740.heap aGUARDED "com/example/graf/graf/routes/RouteKind" := h728.keep K740q
        have h745 : Sta Z T740.heap "com/example/graf/graf/routes/RouteKind" "LOGOUT" "Lcom/example/graf/graf/routes/RouteKind;" (.ref aLOGOUT) := Jvm.OwnGo.sta_keep h729 K740q (fun x hx => (allS (P := fun x => Exi h722 x) (exi_exa A722) all0) x hx)
        have h746 : Exa Z T740.heap aLOGOUT "com/example/graf/graf/routes/RouteKind" := h730.keep K740q
        have h747 : Fld Z T740.heap aGUARDED "java/lang/Enum" "ordinal" "I" (.int (0 : Int32)) := h731.keep K740q (ninS q723 nin0)
        have h748 : Fld Z T740.heap aLOGOUT "java/lang/Enum" "ordinal" "I" (.int (2 : Int32)) := h732.keep K740q (ninS q724 nin0)
        have h749 : Sta Z T740.heap "com/example/graf/graf/routes/RouteKind" "PUBLIC" "Lcom/example/graf/graf/routes/RouteKind;" (.ref aPUBLIC) := Jvm.OwnGo.sta_keep h733 K740q (fun x hx => (allS (P := fun x => Exi h722 x) (exi_exa A722) all0) x hx)
        have h750 : Exa Z T740.heap aPUBLIC "com/example/graf/graf/routes/RouteKind" := h734.keep K740q
        have h751 : Fld Z T740.heap aPUBLIC "java/lang/Enum" "ordinal" "I" (.int (1 : Int32)) := h735.keep K740q (ninS q725 nin0)
        have h752 : Sta Z T740.heap "java/lang/String" "COMPACT_STRINGS" "Z" (.int zc) := Jvm.OwnGo.sta_keep h736 K740q (fun x hx => (allS (P := fun x => Exi h722 x) (exi_exa A722) all0) x hx)
        have h753 : Vec Z T740.heap b659 .char (2 : Int32) (ints (lst [ci0, ci1])) := h737.keep K740q (ninS q726 nin0)
        have K740 : Keep h0 T740.heap [] := K722.trans K740q (fun x hx => (show ∀ x ∈ ([b722] : List Addr), x ∈ ([] : List Addr) ∨ h0.size ≤ x from (allS (Or.inr szb722) all0)) x hx)
        refine GoW.tr  st740 ?_
        show GoW p e below s Q 4 10 (T740.setTop (mkF m 82 #[.val (.int k0), .val (.int c0), .val (.int c1), .val (.int sh), .val (.int (3 : Int32)), .val .null, .val (.ref b659), .val .null, .unset, .unset] [(.ref b722)]))
        refine GoW.st (fun _ k => XS.astore X740.here hx rfl (hb hby at_82) rfl rfl (l' := #[.val (.int k0), .val (.int c0), .val (.int c1), .val (.int sh), .val (.int (3 : Int32)), .val .null, .val (.ref b659), .val .null, .val (.ref b722), .unset]) rfl k) ?_
        refine GoW.st (fun _ k => XS.iload X740.here hx rfl (hb hby at_84) rfl k) ?_
        refine GoW.st (fun _ k => XS.iconst X740.here hx rfl (hb hby at_86) k) ?_
        refine GoW.st (fun _ k => XS.icmpYes X740.here hx rfl (pc0 := 87) (pc' := 94) rfl (hb hby at_87) rfl (feq (neI liI_3 liI_2 (by decide))).2 (by decide) (by decide) k) ?_
        refine GoW.st (fun _ k => XS.iconst X740.here hx rfl (hb hby at_94) k) ?_
        refine GoW.st (fun _ k => XS.istore X740.here hx rfl (hb hby at_95) rfl (l' := #[.val (.int k0), .val (.int c0), .val (.int c1), .val (.int sh), .val (.int (3 : Int32)), .val .null, .val (.ref b659), .val .null, .val (.ref b722), .val (.int (0 : Int32))]) rfl k) ?_
        show GoW p e below s Q 4 10 (T740.setTop (mkF m 97 #[.val (.int k0), .val (.int c0), .val (.int c1), .val (.int sh), .val (.int (3 : Int32)), .val .null, .val (.ref b659), .val .null, .val (.ref b722), .val (.int (0 : Int32))] []))
        refine GoW.st (fun _ k => XS.aload X740.here hx rfl (hb hby at_97) rfl rfl k) ?_
        obtain ⟨cq754, kq754, q754a, q754b, q754c⟩ := isOf hZ rfl h742
        obtain ⟨_, _, ⟨T754, L754, k754, n754⟩, -, X754, ⟨Lc754, hQ754, l754, y754, z754⟩, st754⟩ := X740.virtualBack hx (y := (⟨"com/example/graf/graf/routes/Match", "isLogout", "()Z"⟩ : MethodName)) (z := (⟨"com/example/graf/graf/routes/Match", "isLogout", "()Z"⟩ : MethodName)) hown (mvT hZ (hw _ (List.mem_of_getElem? (i := 48) rfl))) (mvT hZ (hw _ (List.mem_of_getElem? (i := 49) rfl))) (notFace_of_selects (args := #[]) (mvT hZ (hw _ (List.mem_of_getElem? (i := 51) rfl)))) (mvT hZ (hw _ (List.mem_of_getElem? (i := 51) rfl))) (mvT hZ (hw _ (List.mem_of_getElem? (i := 50) rfl))) (by decide) (backOf (W := 0) (rmln l Z a0 hw [] b722 aLOGOUT T740.heap n0 (Nat.le_trans Z0 K740.1) h741 h745) hZ (hw _ (List.mem_of_getElem? (i := 52) rfl)) (hw _ (List.mem_of_getElem? (i := 39) rfl)) (by decide) (by decide)) q754a q754c (g := (mkF m 99 #[.val (.int k0), .val (.int c0), .val (.int c1), .val (.int sh), .val (.int (3 : Int32)), .val .null, .val (.ref b659), .val .null, .val (.ref b722), .val (.int (0 : Int32))] [(.ref b722)])) rfl (by rw [hml]; rfl) (Steps.refl _) (argsL := []) (rest := []) (lenOf pd_6 rfl) rfl (by show 2 * 0 + _ ≤ _; exact Nat.le_of_eq rfl) (hb hby at_99) (fun _ _ => ⟨rfl, rfl, (by decide : 2 + 0 ≤ _), (by decide : 4 + 0 ≤ _)⟩)
        dsimp only [Pt.U, Pt.locs, Pt.cells, Pt.slots] at X754 l754 y754 z754 st754 hQ754
        subst l754 y754 z754
        obtain ⟨rfl, N754q, e754⟩ := hQ754
        have N754 := Fr.app N740 N754q
        refine GoW.tr  st754 ?_
        show GoW p e below s Q 4 10 (T754.setTop (mkF m 102 #[.val (.int k0), .val (.int c0), .val (.int c1), .val (.int sh), .val (.int (3 : Int32)), .val .null, .val (.ref b659), .val .null, .val (.ref b722), .val (.int (0 : Int32))] [(.int (0 : Int32))]))
        refine GoW.st (fun _ k => XS.iload X754.here hx rfl (hb hby at_102) rfl k) ?_
        refine GoW.st (fun _ k => XS.icmpNo X754.here hx rfl (hb hby at_104) rfl (teq (eqI liI_0 liI_0 (by decide))).2 k) ?_
        refine GoW.st (fun _ k => XS.iconst X754.here hx rfl (hb hby at_107) k) ?_
        refine GoW.st (fun _ k => XS.goto X754.here hx rfl (pc0 := 108) (pc' := 112) rfl (hb hby at_108) (by decide) (by decide) k) ?_
        show GoW p e below s Q 4 10 (T754.setTop (mkF m 112 #[.val (.int k0), .val (.int c0), .val (.int c1), .val (.int sh), .val (.int (3 : Int32)), .val .null, .val (.ref b659), .val .null, .val (.ref b722), .val (.int (0 : Int32))] [(.int (1 : Int32))]))
        exact GoW.retN (since0 s) (vm0 := s.vm) X754 (Nat.zero_le _) hx hlk (by simp) Bd.returns (hb hby at_112) (z' := (1 : Int32)) (by decide) (by rw [← hQ, e754]; exact ⟨rfl, N754, K740⟩) (by decide) (by decide)
      ·
        refine GoW.st (fun _ k => XS.ifNo X698.here hx rfl (hb hby at_58) rfl ((if0 _ _).trans (feq (neI rfl liI_0 c721)).1) k) ?_
        obtain ⟨b755, T755, h755, k755, X755, e755, E755, hS755, hk755, hZ755, hown755, st755⟩ := ldcS (s := s) (vm0 := s.vm) X698 hx hZ hown (hw _ (List.mem_of_getElem? (i := 55) rfl)) (wStr hw) e698 (since0 s) (Nat.zero_le _) (g := (mkF m 61 #[.val (.int k0), .val (.int c0), .val (.int c1), .val (.int sh), .val (.int (3 : Int32)), .val .null, .val (.ref b659), .unset, .unset, .unset] [])) rfl (hb hby at_61) (n := 0) (by decide) (by decide) (by decide) (by decide)
        have h756 : Sta Z h755 "com/example/graf/graf/routes/RouteKind" "GUARDED" "Lcom/example/graf/graf/routes/RouteKind;" (.ref aGUARDED) := h699.ext E755
        have h757 : Exa Z h755 aGUARDED "com/example/graf/graf/routes/RouteKind" := h700.ext E755
        have h758 : Sta Z h755 "com/example/graf/graf/routes/RouteKind" "LOGOUT" "Lcom/example/graf/graf/routes/RouteKind;" (.ref aLOGOUT) := h701.ext E755
        have h759 : Exa Z h755 aLOGOUT "com/example/graf/graf/routes/RouteKind" := h702.ext E755
        have h760 : Fld Z h755 aGUARDED "java/lang/Enum" "ordinal" "I" (.int (0 : Int32)) := h703.ext E755
        have h761 : Fld Z h755 aLOGOUT "java/lang/Enum" "ordinal" "I" (.int (2 : Int32)) := h704.ext E755
        have h762 : Sta Z h755 "com/example/graf/graf/routes/RouteKind" "PUBLIC" "Lcom/example/graf/graf/routes/RouteKind;" (.ref aPUBLIC) := h705.ext E755
        have h763 : Exa Z h755 aPUBLIC "com/example/graf/graf/routes/RouteKind" := h706.ext E755
        have h764 : Fld Z h755 aPUBLIC "java/lang/Enum" "ordinal" "I" (.int (1 : Int32)) := h707.ext E755
        have h765 : Sta Z h755 "java/lang/String" "COMPACT_STRINGS" "Z" (.int zc) := h708.ext E755
        have h766 : Vec Z h755 b659 .char (2 : Int32) (ints (lst [ci0, ci1])) := h709.ext E755
        have K755 : Keep h0 h755 [] := K698.ext E755
        refine GoW.st st755 ?_
        show GoW p e below s Q 4 10 (T755.setTop (mkF m 63 #[.val (.int k0), .val (.int c0), .val (.int c1), .val (.int sh), .val (.int (3 : Int32)), .val .null, .val (.ref b659), .unset, .unset, .unset] [(.ref b755)]))
        refine GoW.st (fun _ k => XS.astore X755.here hx rfl (hb hby at_63) rfl rfl (l' := #[.val (.int k0), .val (.int c0), .val (.int c1), .val (.int sh), .val (.int (3 : Int32)), .val .null, .val (.ref b659), .val (.ref b755), .unset, .unset]) rfl k) ?_
        refine GoW.st (fun _ k => XS.goto X755.here hx rfl (pc0 := 65) (pc' := 71) rfl (hb hby at_65) (by decide) (by decide) k) ?_
        obtain ⟨T767, h767, X767, e767, E767, A767, D767, -, st767⟩ := newO X755 hx hZ755 hown755 (hw _ (List.mem_of_getElem? (i := 37) rfl)) (hw _ (List.mem_of_getElem? (i := 38) rfl)) (hw _ (List.mem_of_getElem? (i := 39) rfl)) e755 (g := (mkF m 71 #[.val (.int k0), .val (.int c0), .val (.int c1), .val (.int sh), .val (.int (3 : Int32)), .val .null, .val (.ref b659), .val (.ref b755), .unset, .unset] [])) rfl (hb hby at_71) (by decide) (by decide)
        obtain ⟨b767, g767⟩ : ∃ z, z = h755.size := ⟨_, rfl⟩
        rw [← g767] at A767 D767 st767
        have q768 : aGUARDED ≠ b767 := Nat.ne_of_lt (Nat.lt_of_lt_of_le h757.lt (Nat.le_of_eq g767.symm))
        have q769 : aLOGOUT ≠ b767 := Nat.ne_of_lt (Nat.lt_of_lt_of_le h759.lt (Nat.le_of_eq g767.symm))
        have q770 : aPUBLIC ≠ b767 := Nat.ne_of_lt (Nat.lt_of_lt_of_le h763.lt (Nat.le_of_eq g767.symm))
        have q771 : b659 ≠ b767 := Nat.ne_of_lt (Nat.lt_of_lt_of_le h766.lt (Nat.le_of_eq g767.symm))
        have h772 : Sta Z h767 "com/example/graf/graf/routes/RouteKind" "GUARDED" "Lcom/example/graf/graf/routes/RouteKind;" (.ref aGUARDED) := h756.ext E767
        have h773 : Exa Z h767 aGUARDED "com/example/graf/graf/routes/RouteKind" := h757.ext E767
        have h774 : Sta Z h767 "com/example/graf/graf/routes/RouteKind" "LOGOUT" "Lcom/example/graf/graf/routes/RouteKind;" (.ref aLOGOUT) := h758.ext E767
        have h775 : Exa Z h767 aLOGOUT "com/example/graf/graf/routes/RouteKind" := h759.ext E767
        have h776 : Fld Z h767 aGUARDED "java/lang/Enum" "ordinal" "I" (.int (0 : Int32)) := h760.ext E767
        have h777 : Fld Z h767 aLOGOUT "java/lang/Enum" "ordinal" "I" (.int (2 : Int32)) := h761.ext E767
        have h778 : Sta Z h767 "com/example/graf/graf/routes/RouteKind" "PUBLIC" "Lcom/example/graf/graf/routes/RouteKind;" (.ref aPUBLIC) := h762.ext E767
        have h779 : Exa Z h767 aPUBLIC "com/example/graf/graf/routes/RouteKind" := h763.ext E767
        have h780 : Fld Z h767 aPUBLIC "java/lang/Enum" "ordinal" "I" (.int (1 : Int32)) := h764.ext E767
        have h781 : Sta Z h767 "java/lang/String" "COMPACT_STRINGS" "Z" (.int zc) := h765.ext E767
        have h782 : Vec Z h767 b659 .char (2 : Int32) (ints (lst [ci0, ci1])) := h766.ext E767
        have h783 : k755 ≤ h767.size := Nat.le_trans hk755 E767.1
        have Gb767 : n0 ≤ b767 := Nat.le_trans (Nat.le_trans Z0 K755.1) (Nat.le_of_eq g767.symm)
        have szb767 : h0.size ≤ b767 := Nat.le_trans K755.1 (Nat.le_of_eq g767.symm)
        have K767 : Keep h0 h767 [] := K755.ext E767
        have h784 : Fld Z h767 b767 "com/example/graf/graf/routes/Match" "node" "Ljava/lang/String;" .null := D767 (Or.inr (hw _ (List.mem_of_getElem? (i := 45) rfl))) (ty := (.object "java/lang/String")) (by decide)
        have h785 : Fld Z h767 b767 "com/example/graf/graf/routes/Match" "kind" "Lcom/example/graf/graf/routes/RouteKind;" .null := D767 (Or.inr (hw _ (List.mem_of_getElem? (i := 47) rfl))) (ty := (.object "com/example/graf/graf/routes/RouteKind")) (by decide)
        refine GoW.st st767 ?_
        show GoW p e below s Q 4 10 (T767.setTop (mkF m 74 #[.val (.int k0), .val (.int c0), .val (.int c1), .val (.int sh), .val (.int (3 : Int32)), .val .null, .val (.ref b659), .val (.ref b755), .unset, .unset] [(.ref b767)]))
        refine GoW.st (fun _ k => XS.dup X767.here hx rfl (hb hby at_74) rfl rfl k) ?_
        refine GoW.st (fun _ k => XS.aload X767.here hx rfl (hb hby at_75) rfl rfl k) ?_
        refine GoW.st (fun _ k => XS.aload X767.here hx rfl (hb hby at_77) rfl rfl k) ?_
        obtain ⟨_, _, ⟨T786, L786, k786, n786⟩, -, X786, ⟨Lc786, hQ786, l786, y786, z786⟩, st786⟩ := X767.specialBack hx (y := (⟨"com/example/graf/graf/routes/Match", "<init>", "(Ljava/lang/String;Lcom/example/graf/graf/routes/RouteKind;)V"⟩ : MethodName)) rfl hown755 (mvT hZ755 (hw _ (List.mem_of_getElem? (i := 40) rfl))) (mvT hZ755 (hw _ (List.mem_of_getElem? (i := 41) rfl))) (mvT hZ755 (hw _ (List.mem_of_getElem? (i := 42) rfl))) (by decide) (backOf (W := 1) (rmm10 l Z a0 hw [] b767 b755 h767 n0 (Nat.le_trans Z0 K767.1) h784 h785 A767 Gb767) hZ755 (hw _ (List.mem_of_getElem? (i := 42) rfl)) (hw _ (List.mem_of_getElem? (i := 39) rfl)) (by decide) (by decide)) (g := (mkF m 79 #[.val (.int k0), .val (.int c0), .val (.int c1), .val (.int sh), .val (.int (3 : Int32)), .val .null, .val (.ref b659), .val (.ref b755), .unset, .unset] [.null, (.ref b755), (.ref b767), (.ref b767)])) rfl (by rw [hml]; rfl) (Steps.refl _) (a := b767) (argsL := [(.ref b755), .null]) (rest := [(.ref b767)]) (lenOf pd_5 rfl) rfl (by show 2 * 0 + _ ≤ _; exact Nat.le_of_eq rfl) (hb hby at_79) (fun _ _ => ⟨rfl, e767, (by decide : 4 + 0 ≤ _), (by decide : 8 + 0 ≤ _)⟩)
        dsimp only [Pt.U, Pt.locs, Pt.cells, Pt.slots] at X786 l786 y786 z786 st786 hQ786
        subst l786 y786 z786
        obtain ⟨rfl, N786q, K786q, h787, h788⟩ := hQ786
        have N786 := Fr.app N698 N786q
        have h789 : Sta Z T786.heap "com/example/graf/graf/routes/RouteKind" "GUARDED" "Lcom/example/graf/graf/routes/RouteKind;" (.ref aGUARDED) := Jvm.OwnGo.sta_keep h772 K786q (fun x hx => (allS (P := fun x => Exi h767 x) (exi_exa A767) all0) x hx)
        have h790 : Exa Z T786.heap aGUARDED "com/example/graf/graf/routes/RouteKind" := h773.keep K786q
        have h791 : Sta Z T786.heap "com/example/graf/graf/routes/RouteKind" "LOGOUT" "Lcom/example/graf/graf/routes/RouteKind;" (.ref aLOGOUT) := Jvm.OwnGo.sta_keep h774 K786q (fun x hx => (allS (P := fun x => Exi h767 x) (exi_exa A767) all0) x hx)
        have h792 : Exa Z T786.heap aLOGOUT "com/example/graf/graf/routes/RouteKind" := h775.keep K786q
        have h793 : Fld Z T786.heap aGUARDED "java/lang/Enum" "ordinal" "I" (.int (0 : Int32)) := h776.keep K786q (ninS q768 nin0)
        have h794 : Fld Z T786.heap aLOGOUT "java/lang/Enum" "ordinal" "I" (.int (2 : Int32)) := h777.keep K786q (ninS q769 nin0)
        have h795 : Sta Z T786.heap "com/example/graf/graf/routes/RouteKind" "PUBLIC" "Lcom/example/graf/graf/routes/RouteKind;" (.ref aPUBLIC) := Jvm.OwnGo.sta_keep h778 K786q (fun x hx => (allS (P := fun x => Exi h767 x) (exi_exa A767) all0) x hx)
        have h796 : Exa Z T786.heap aPUBLIC "com/example/graf/graf/routes/RouteKind" := h779.keep K786q
        have h797 : Fld Z T786.heap aPUBLIC "java/lang/Enum" "ordinal" "I" (.int (1 : Int32)) := h780.keep K786q (ninS q770 nin0)
        have h798 : Sta Z T786.heap "java/lang/String" "COMPACT_STRINGS" "Z" (.int zc) := Jvm.OwnGo.sta_keep h781 K786q (fun x hx => (allS (P := fun x => Exi h767 x) (exi_exa A767) all0) x hx)
        have h799 : Vec Z T786.heap b659 .char (2 : Int32) (ints (lst [ci0, ci1])) := h782.keep K786q (ninS q771 nin0)
        have h800 : k755 ≤ T786.heap.size := Nat.le_trans h783 K786q.1
        have K786 : Keep h0 T786.heap [] := K767.trans K786q (fun x hx => (show ∀ x ∈ ([b767] : List Addr), x ∈ ([] : List Addr) ∨ h0.size ≤ x from (allS (Or.inr szb767) all0)) x hx)
        refine GoW.tr  st786 ?_
        show GoW p e below s Q 4 10 (T786.setTop (mkF m 82 #[.val (.int k0), .val (.int c0), .val (.int c1), .val (.int sh), .val (.int (3 : Int32)), .val .null, .val (.ref b659), .val (.ref b755), .unset, .unset] [(.ref b767)]))
        refine GoW.st (fun _ k => XS.astore X786.here hx rfl (hb hby at_82) rfl rfl (l' := #[.val (.int k0), .val (.int c0), .val (.int c1), .val (.int sh), .val (.int (3 : Int32)), .val .null, .val (.ref b659), .val (.ref b755), .val (.ref b767), .unset]) rfl k) ?_
        refine GoW.st (fun _ k => XS.iload X786.here hx rfl (hb hby at_84) rfl k) ?_
        refine GoW.st (fun _ k => XS.iconst X786.here hx rfl (hb hby at_86) k) ?_
        refine GoW.st (fun _ k => XS.icmpYes X786.here hx rfl (pc0 := 87) (pc' := 94) rfl (hb hby at_87) rfl (feq (neI liI_3 liI_2 (by decide))).2 (by decide) (by decide) k) ?_
        refine GoW.st (fun _ k => XS.iconst X786.here hx rfl (hb hby at_94) k) ?_
        refine GoW.st (fun _ k => XS.istore X786.here hx rfl (hb hby at_95) rfl (l' := #[.val (.int k0), .val (.int c0), .val (.int c1), .val (.int sh), .val (.int (3 : Int32)), .val .null, .val (.ref b659), .val (.ref b755), .val (.ref b767), .val (.int (0 : Int32))]) rfl k) ?_
        show GoW p e below s Q 4 10 (T786.setTop (mkF m 97 #[.val (.int k0), .val (.int c0), .val (.int c1), .val (.int sh), .val (.int (3 : Int32)), .val .null, .val (.ref b659), .val (.ref b755), .val (.ref b767), .val (.int (0 : Int32))] []))
        refine GoW.st (fun _ k => XS.aload X786.here hx rfl (hb hby at_97) rfl rfl k) ?_
        obtain ⟨cq801, kq801, q801a, q801b, q801c⟩ := isOf hZ755 rfl h788
        obtain ⟨_, _, ⟨T801, L801, k801, n801⟩, -, X801, ⟨Lc801, hQ801, l801, y801, z801⟩, st801⟩ := X786.virtualBack hx (y := (⟨"com/example/graf/graf/routes/Match", "isLogout", "()Z"⟩ : MethodName)) (z := (⟨"com/example/graf/graf/routes/Match", "isLogout", "()Z"⟩ : MethodName)) hown755 (mvT hZ755 (hw _ (List.mem_of_getElem? (i := 48) rfl))) (mvT hZ755 (hw _ (List.mem_of_getElem? (i := 49) rfl))) (notFace_of_selects (args := #[]) (mvT hZ755 (hw _ (List.mem_of_getElem? (i := 51) rfl)))) (mvT hZ755 (hw _ (List.mem_of_getElem? (i := 51) rfl))) (mvT hZ755 (hw _ (List.mem_of_getElem? (i := 50) rfl))) (by decide) (backOf (W := 0) (rmln l Z a0 hw [] b767 aLOGOUT T786.heap n0 (Nat.le_trans Z0 K786.1) h787 h791) hZ755 (hw _ (List.mem_of_getElem? (i := 52) rfl)) (hw _ (List.mem_of_getElem? (i := 39) rfl)) (by decide) (by decide)) q801a q801c (g := (mkF m 99 #[.val (.int k0), .val (.int c0), .val (.int c1), .val (.int sh), .val (.int (3 : Int32)), .val .null, .val (.ref b659), .val (.ref b755), .val (.ref b767), .val (.int (0 : Int32))] [(.ref b767)])) rfl (by rw [hml]; rfl) (Steps.refl _) (argsL := []) (rest := []) (lenOf pd_6 rfl) rfl (by show 2 * 0 + _ ≤ _; exact Nat.le_of_eq rfl) (hb hby at_99) (fun _ _ => ⟨rfl, rfl, (by decide : 4 + 0 ≤ _), (by decide : 8 + 0 ≤ _)⟩)
        dsimp only [Pt.U, Pt.locs, Pt.cells, Pt.slots] at X801 l801 y801 z801 st801 hQ801
        subst l801 y801 z801
        obtain ⟨rfl, N801q, e801⟩ := hQ801
        have N801 := Fr.app N786 N801q
        refine GoW.tr  st801 ?_
        show GoW p e below s Q 4 10 (T801.setTop (mkF m 102 #[.val (.int k0), .val (.int c0), .val (.int c1), .val (.int sh), .val (.int (3 : Int32)), .val .null, .val (.ref b659), .val (.ref b755), .val (.ref b767), .val (.int (0 : Int32))] [(.int (0 : Int32))]))
        refine GoW.st (fun _ k => XS.iload X801.here hx rfl (hb hby at_102) rfl k) ?_
        refine GoW.st (fun _ k => XS.icmpNo X801.here hx rfl (hb hby at_104) rfl (teq (eqI liI_0 liI_0 (by decide))).2 k) ?_
        refine GoW.st (fun _ k => XS.iconst X801.here hx rfl (hb hby at_107) k) ?_
        refine GoW.st (fun _ k => XS.goto X801.here hx rfl (pc0 := 108) (pc' := 112) rfl (hb hby at_108) (by decide) (by decide) k) ?_
        show GoW p e below s Q 4 10 (T801.setTop (mkF m 112 #[.val (.int k0), .val (.int c0), .val (.int c1), .val (.int sh), .val (.int (3 : Int32)), .val .null, .val (.ref b659), .val (.ref b755), .val (.ref b767), .val (.int (0 : Int32))] [(.int (1 : Int32))]))
        exact GoW.retN hS755 (vm0 := T755.vm) X801 (by rw [e801]; exact h800) hx hlk (by simp) Bd.returns (hb hby at_112) (z' := (1 : Int32)) (by decide) (by rw [← hQ, e801]; exact ⟨rfl, N801, K786⟩) (by decide) (by decide)
    ·
      refine GoW.st (fun _ k => XS.ifNo X698.here hx rfl (hb hby at_38) rfl ((if0 _ _).trans (feq (neI rfl liI_0 c718)).1) k) ?_
      obtain ⟨T802, h802, X802, e802, E802, A802, D802, -, st802⟩ := newO X698 hx hZ hown (hw _ (List.mem_of_getElem? (i := 8) rfl)) (hw _ (List.mem_of_getElem? (i := 9) rfl)) (hw _ (List.mem_of_getElem? (i := 10) rfl)) e698 (g := (mkF m 41 #[.val (.int k0), .val (.int c0), .val (.int c1), .val (.int sh), .val (.int (3 : Int32)), .val .null, .val (.ref b659), .unset, .unset, .unset] [])) rfl (hb hby at_41) (by decide) (by decide)
      obtain ⟨b802, g802⟩ : ∃ z, z = h698.size := ⟨_, rfl⟩
      rw [← g802] at A802 D802 st802
      have q803 : aGUARDED ≠ b802 := Nat.ne_of_lt (Nat.lt_of_lt_of_le h700.lt (Nat.le_of_eq g802.symm))
      have q804 : aLOGOUT ≠ b802 := Nat.ne_of_lt (Nat.lt_of_lt_of_le h702.lt (Nat.le_of_eq g802.symm))
      have q805 : aPUBLIC ≠ b802 := Nat.ne_of_lt (Nat.lt_of_lt_of_le h706.lt (Nat.le_of_eq g802.symm))
      have q806 : b659 ≠ b802 := Nat.ne_of_lt (Nat.lt_of_lt_of_le h709.lt (Nat.le_of_eq g802.symm))
      have h807 : Sta Z h802 "com/example/graf/graf/routes/RouteKind" "GUARDED" "Lcom/example/graf/graf/routes/RouteKind;" (.ref aGUARDED) := h699.ext E802
      have h808 : Exa Z h802 aGUARDED "com/example/graf/graf/routes/RouteKind" := h700.ext E802
      have h809 : Sta Z h802 "com/example/graf/graf/routes/RouteKind" "LOGOUT" "Lcom/example/graf/graf/routes/RouteKind;" (.ref aLOGOUT) := h701.ext E802
      have h810 : Exa Z h802 aLOGOUT "com/example/graf/graf/routes/RouteKind" := h702.ext E802
      have h811 : Fld Z h802 aGUARDED "java/lang/Enum" "ordinal" "I" (.int (0 : Int32)) := h703.ext E802
      have h812 : Fld Z h802 aLOGOUT "java/lang/Enum" "ordinal" "I" (.int (2 : Int32)) := h704.ext E802
      have h813 : Sta Z h802 "com/example/graf/graf/routes/RouteKind" "PUBLIC" "Lcom/example/graf/graf/routes/RouteKind;" (.ref aPUBLIC) := h705.ext E802
      have h814 : Exa Z h802 aPUBLIC "com/example/graf/graf/routes/RouteKind" := h706.ext E802
      have h815 : Fld Z h802 aPUBLIC "java/lang/Enum" "ordinal" "I" (.int (1 : Int32)) := h707.ext E802
      have h816 : Sta Z h802 "java/lang/String" "COMPACT_STRINGS" "Z" (.int zc) := h708.ext E802
      have h817 : Vec Z h802 b659 .char (2 : Int32) (ints (lst [ci0, ci1])) := h709.ext E802
      have Gb802 : n0 ≤ b802 := Nat.le_trans (Nat.le_trans Z0 K698.1) (Nat.le_of_eq g802.symm)
      have szb802 : h0.size ≤ b802 := Nat.le_trans K698.1 (Nat.le_of_eq g802.symm)
      have K802 : Keep h0 h802 [] := K698.ext E802
      have h818 : Fld Z h802 b802 "java/lang/String" "coder" "B" (.int (0 : Int32)) := D802 (Or.inr (hw _ (List.mem_of_getElem? (i := 34) rfl))) (ty := .byte) (by decide)
      have h819 : Fld Z h802 b802 "java/lang/String" "value" "[B" .null := D802 (Or.inr (hw _ (List.mem_of_getElem? (i := 36) rfl))) (ty := (.array .byte)) (by decide)
      refine GoW.st st802 ?_
      show GoW p e below s Q 4 10 (T802.setTop (mkF m 44 #[.val (.int k0), .val (.int c0), .val (.int c1), .val (.int sh), .val (.int (3 : Int32)), .val .null, .val (.ref b659), .unset, .unset, .unset] [(.ref b802)]))
      refine GoW.st (fun _ k => XS.dup X802.here hx rfl (hb hby at_44) rfl rfl k) ?_
      refine GoW.st (fun _ k => XS.aload X802.here hx rfl (hb hby at_45) rfl rfl k) ?_
      have f821 := rng32 zc
      have p822 : ¬ zc.toInt = 0 := by omega
      obtain ⟨_, _, ⟨T820, L820, k820, n820⟩, -, X820, ⟨Lc820, hQ820, l820, y820, z820⟩, st820⟩ := X802.specialBack hx (y := (⟨"java/lang/String", "<init>", "([C)V"⟩ : MethodName)) rfl hown (mvT hZ (hw _ (List.mem_of_getElem? (i := 11) rfl))) (mvT hZ (hw _ (List.mem_of_getElem? (i := 12) rfl))) (mvT hZ (hw _ (List.mem_of_getElem? (i := 13) rfl))) (by decide) (backOf (W := 1) (rm2 l Z a0 hw [] b802 b659 (lst [ci0, ci1]) zc h802 n0 (Nat.le_trans Z0 K802.1) h819 h818 A802 Gb802 h817 hcs q806 h816 p822) hZ (hw _ (List.mem_of_getElem? (i := 13) rfl)) (hw _ (List.mem_of_getElem? (i := 10) rfl)) (by decide) (by decide)) (g := (mkF m 47 #[.val (.int k0), .val (.int c0), .val (.int c1), .val (.int sh), .val (.int (3 : Int32)), .val .null, .val (.ref b659), .unset, .unset, .unset] [(.ref b659), (.ref b802), (.ref b802)])) rfl (by rw [hml]; rfl) (Steps.refl _) (a := b802) (argsL := [(.ref b659)]) (rest := [(.ref b802)]) (lenOf pd_7 rfl) rfl (by show 2 * 0 + _ ≤ _; exact Nat.le_of_eq rfl) (hb hby at_47) (fun _ _ => ⟨rfl, e802, (by decide : 2 + 1 ≤ _), (by decide : 6 + 2 ≤ _)⟩)
      dsimp only [Pt.U, Pt.locs, Pt.cells, Pt.slots] at X820 l820 y820 z820 st820 hQ820
      subst l820 y820 z820
      obtain ⟨rfl, N820q, K820q⟩ := hQ820
      have N820 := Fr.app N698 N820q
      have h823 : Sta Z T820.heap "com/example/graf/graf/routes/RouteKind" "GUARDED" "Lcom/example/graf/graf/routes/RouteKind;" (.ref aGUARDED) := Jvm.OwnGo.sta_keep h807 K820q (fun x hx => (allS (P := fun x => Exi h802 x) (exi_exa A802) all0) x hx)
      have h824 : Exa Z T820.heap aGUARDED "com/example/graf/graf/routes/RouteKind" := h808.keep K820q
      have h825 : Sta Z T820.heap "com/example/graf/graf/routes/RouteKind" "LOGOUT" "Lcom/example/graf/graf/routes/RouteKind;" (.ref aLOGOUT) := Jvm.OwnGo.sta_keep h809 K820q (fun x hx => (allS (P := fun x => Exi h802 x) (exi_exa A802) all0) x hx)
      have h826 : Exa Z T820.heap aLOGOUT "com/example/graf/graf/routes/RouteKind" := h810.keep K820q
      have h827 : Fld Z T820.heap aGUARDED "java/lang/Enum" "ordinal" "I" (.int (0 : Int32)) := h811.keep K820q (ninS q803 nin0)
      have h828 : Fld Z T820.heap aLOGOUT "java/lang/Enum" "ordinal" "I" (.int (2 : Int32)) := h812.keep K820q (ninS q804 nin0)
      have h829 : Sta Z T820.heap "com/example/graf/graf/routes/RouteKind" "PUBLIC" "Lcom/example/graf/graf/routes/RouteKind;" (.ref aPUBLIC) := Jvm.OwnGo.sta_keep h813 K820q (fun x hx => (allS (P := fun x => Exi h802 x) (exi_exa A802) all0) x hx)
      have h830 : Exa Z T820.heap aPUBLIC "com/example/graf/graf/routes/RouteKind" := h814.keep K820q
      have h831 : Fld Z T820.heap aPUBLIC "java/lang/Enum" "ordinal" "I" (.int (1 : Int32)) := h815.keep K820q (ninS q805 nin0)
      have h832 : Sta Z T820.heap "java/lang/String" "COMPACT_STRINGS" "Z" (.int zc) := Jvm.OwnGo.sta_keep h816 K820q (fun x hx => (allS (P := fun x => Exi h802 x) (exi_exa A802) all0) x hx)
      have h833 : Vec Z T820.heap b659 .char (2 : Int32) (ints (lst [ci0, ci1])) := h817.keep K820q (ninS q806 nin0)
      have h834 : Exa Z T820.heap b802 "java/lang/String" := A802.keep K820q
      have K820 : Keep h0 T820.heap [] := K802.trans K820q (fun x hx => (show ∀ x ∈ ([b802] : List Addr), x ∈ ([] : List Addr) ∨ h0.size ≤ x from (allS (Or.inr szb802) all0)) x hx)
      refine GoW.tr  st820 ?_
      show GoW p e below s Q 4 10 (T820.setTop (mkF m 50 #[.val (.int k0), .val (.int c0), .val (.int c1), .val (.int sh), .val (.int (3 : Int32)), .val .null, .val (.ref b659), .unset, .unset, .unset] [(.ref b802)]))
      refine GoW.st (fun _ k => XS.astore X820.here hx rfl (hb hby at_50) rfl rfl (l' := #[.val (.int k0), .val (.int c0), .val (.int c1), .val (.int sh), .val (.int (3 : Int32)), .val .null, .val (.ref b659), .val (.ref b802), .unset, .unset]) rfl k) ?_
      refine GoW.st (fun _ k => XS.goto X820.here hx rfl (pc0 := 52) (pc' := 71) rfl (hb hby at_52) (by decide) (by decide) k) ?_
      obtain ⟨T835, h835, X835, e835, E835, A835, D835, -, st835⟩ := newO X820 hx hZ hown (hw _ (List.mem_of_getElem? (i := 37) rfl)) (hw _ (List.mem_of_getElem? (i := 38) rfl)) (hw _ (List.mem_of_getElem? (i := 39) rfl)) rfl (g := (mkF m 71 #[.val (.int k0), .val (.int c0), .val (.int c1), .val (.int sh), .val (.int (3 : Int32)), .val .null, .val (.ref b659), .val (.ref b802), .unset, .unset] [])) rfl (hb hby at_71) (by decide) (by decide)
      obtain ⟨b835, g835⟩ : ∃ z, z = T820.heap.size := ⟨_, rfl⟩
      rw [← g835] at A835 D835 st835
      have q836 : aGUARDED ≠ b835 := Nat.ne_of_lt (Nat.lt_of_lt_of_le h824.lt (Nat.le_of_eq g835.symm))
      have q837 : aLOGOUT ≠ b835 := Nat.ne_of_lt (Nat.lt_of_lt_of_le h826.lt (Nat.le_of_eq g835.symm))
      have q838 : aPUBLIC ≠ b835 := Nat.ne_of_lt (Nat.lt_of_lt_of_le h830.lt (Nat.le_of_eq g835.symm))
      have q839 : b659 ≠ b835 := Nat.ne_of_lt (Nat.lt_of_lt_of_le h833.lt (Nat.le_of_eq g835.symm))
      have q840 : b802 ≠ b835 := Nat.ne_of_lt (Nat.lt_of_lt_of_le h834.lt (Nat.le_of_eq g835.symm))
      have h841 : Sta Z h835 "com/example/graf/graf/routes/RouteKind" "GUARDED" "Lcom/example/graf/graf/routes/RouteKind;" (.ref aGUARDED) := h823.ext E835
      have h842 : Exa Z h835 aGUARDED "com/example/graf/graf/routes/RouteKind" := h824.ext E835
      have h843 : Sta Z h835 "com/example/graf/graf/routes/RouteKind" "LOGOUT" "Lcom/example/graf/graf/routes/RouteKind;" (.ref aLOGOUT) := h825.ext E835
      have h844 : Exa Z h835 aLOGOUT "com/example/graf/graf/routes/RouteKind" := h826.ext E835
      have h845 : Fld Z h835 aGUARDED "java/lang/Enum" "ordinal" "I" (.int (0 : Int32)) := h827.ext E835
      have h846 : Fld Z h835 aLOGOUT "java/lang/Enum" "ordinal" "I" (.int (2 : Int32)) := h828.ext E835
      have h847 : Sta Z h835 "com/example/graf/graf/routes/RouteKind" "PUBLIC" "Lcom/example/graf/graf/routes/RouteKind;" (.ref aPUBLIC) := h829.ext E835
      have h848 : Exa Z h835 aPUBLIC "com/example/graf/graf/routes/RouteKind" := h830.ext E835
      have h849 : Fld Z h835 aPUBLIC "java/lang/Enum" "ordinal" "I" (.int (1 : Int32)) := h831.ext E835
      have h850 : Sta Z h835 "java/lang/String" "COMPACT_STRINGS" "Z" (.int zc) := h832.ext E835
      have h851 : Vec Z h835 b659 .char (2 : Int32) (ints (lst [ci0, ci1])) := h833.ext E835
      have h852 : Exa Z h835 b802 "java/lang/String" := h834.ext E835
      have Gb835 : n0 ≤ b835 := Nat.le_trans (Nat.le_trans Z0 K820.1) (Nat.le_of_eq g835.symm)
      have szb835 : h0.size ≤ b835 := Nat.le_trans K820.1 (Nat.le_of_eq g835.symm)
      have K835 : Keep h0 h835 [] := K820.ext E835
      have h853 : Fld Z h835 b835 "com/example/graf/graf/routes/Match" "node" "Ljava/lang/String;" .null := D835 (Or.inr (hw _ (List.mem_of_getElem? (i := 45) rfl))) (ty := (.object "java/lang/String")) (by decide)
      have h854 : Fld Z h835 b835 "com/example/graf/graf/routes/Match" "kind" "Lcom/example/graf/graf/routes/RouteKind;" .null := D835 (Or.inr (hw _ (List.mem_of_getElem? (i := 47) rfl))) (ty := (.object "com/example/graf/graf/routes/RouteKind")) (by decide)
      refine GoW.st st835 ?_
      show GoW p e below s Q 4 10 (T835.setTop (mkF m 74 #[.val (.int k0), .val (.int c0), .val (.int c1), .val (.int sh), .val (.int (3 : Int32)), .val .null, .val (.ref b659), .val (.ref b802), .unset, .unset] [(.ref b835)]))
      refine GoW.st (fun _ k => XS.dup X835.here hx rfl (hb hby at_74) rfl rfl k) ?_
      refine GoW.st (fun _ k => XS.aload X835.here hx rfl (hb hby at_75) rfl rfl k) ?_
      refine GoW.st (fun _ k => XS.aload X835.here hx rfl (hb hby at_77) rfl rfl k) ?_
      obtain ⟨_, _, ⟨T855, L855, k855, n855⟩, -, X855, ⟨Lc855, hQ855, l855, y855, z855⟩, st855⟩ := X835.specialBack hx (y := (⟨"com/example/graf/graf/routes/Match", "<init>", "(Ljava/lang/String;Lcom/example/graf/graf/routes/RouteKind;)V"⟩ : MethodName)) rfl hown (mvT hZ (hw _ (List.mem_of_getElem? (i := 40) rfl))) (mvT hZ (hw _ (List.mem_of_getElem? (i := 41) rfl))) (mvT hZ (hw _ (List.mem_of_getElem? (i := 42) rfl))) (by decide) (backOf (W := 1) (rmm10 l Z a0 hw [] b835 b802 h835 n0 (Nat.le_trans Z0 K835.1) h853 h854 A835 Gb835) hZ (hw _ (List.mem_of_getElem? (i := 42) rfl)) (hw _ (List.mem_of_getElem? (i := 39) rfl)) (by decide) (by decide)) (g := (mkF m 79 #[.val (.int k0), .val (.int c0), .val (.int c1), .val (.int sh), .val (.int (3 : Int32)), .val .null, .val (.ref b659), .val (.ref b802), .unset, .unset] [.null, (.ref b802), (.ref b835), (.ref b835)])) rfl (by rw [hml]; rfl) (Steps.refl _) (a := b835) (argsL := [(.ref b802), .null]) (rest := [(.ref b835)]) (lenOf pd_5 rfl) rfl (by show 2 * 0 + _ ≤ _; exact Nat.le_of_eq rfl) (hb hby at_79) (fun _ _ => ⟨rfl, e835, (by decide : 4 + 0 ≤ _), (by decide : 10 + 0 ≤ _)⟩)
      dsimp only [Pt.U, Pt.locs, Pt.cells, Pt.slots] at X855 l855 y855 z855 st855 hQ855
      subst l855 y855 z855
      obtain ⟨rfl, N855q, K855q, h856, h857⟩ := hQ855
      have N855 := Fr.app N820 N855q
      have h858 : Sta Z T855.heap "com/example/graf/graf/routes/RouteKind" "GUARDED" "Lcom/example/graf/graf/routes/RouteKind;" (.ref aGUARDED) := Jvm.OwnGo.sta_keep h841 K855q (fun x hx => (allS (P := fun x => Exi h835 x) (exi_exa A835) all0) x hx)
      have h859 : Exa Z T855.heap aGUARDED "com/example/graf/graf/routes/RouteKind" := h842.keep K855q
      have h860 : Sta Z T855.heap "com/example/graf/graf/routes/RouteKind" "LOGOUT" "Lcom/example/graf/graf/routes/RouteKind;" (.ref aLOGOUT) := Jvm.OwnGo.sta_keep h843 K855q (fun x hx => (allS (P := fun x => Exi h835 x) (exi_exa A835) all0) x hx)
      have h861 : Exa Z T855.heap aLOGOUT "com/example/graf/graf/routes/RouteKind" := h844.keep K855q
      have h862 : Fld Z T855.heap aGUARDED "java/lang/Enum" "ordinal" "I" (.int (0 : Int32)) := h845.keep K855q (ninS q836 nin0)
      have h863 : Fld Z T855.heap aLOGOUT "java/lang/Enum" "ordinal" "I" (.int (2 : Int32)) := h846.keep K855q (ninS q837 nin0)
      have h864 : Sta Z T855.heap "com/example/graf/graf/routes/RouteKind" "PUBLIC" "Lcom/example/graf/graf/routes/RouteKind;" (.ref aPUBLIC) := Jvm.OwnGo.sta_keep h847 K855q (fun x hx => (allS (P := fun x => Exi h835 x) (exi_exa A835) all0) x hx)
      have h865 : Exa Z T855.heap aPUBLIC "com/example/graf/graf/routes/RouteKind" := h848.keep K855q
      have h866 : Fld Z T855.heap aPUBLIC "java/lang/Enum" "ordinal" "I" (.int (1 : Int32)) := h849.keep K855q (ninS q838 nin0)
      have h867 : Sta Z T855.heap "java/lang/String" "COMPACT_STRINGS" "Z" (.int zc) := Jvm.OwnGo.sta_keep h850 K855q (fun x hx => (allS (P := fun x => Exi h835 x) (exi_exa A835) all0) x hx)
      have h868 : Vec Z T855.heap b659 .char (2 : Int32) (ints (lst [ci0, ci1])) := h851.keep K855q (ninS q839 nin0)
      have h869 : Exa Z T855.heap b802 "java/lang/String" := h852.keep K855q
      have K855 : Keep h0 T855.heap [] := K835.trans K855q (fun x hx => (show ∀ x ∈ ([b835] : List Addr), x ∈ ([] : List Addr) ∨ h0.size ≤ x from (allS (Or.inr szb835) all0)) x hx)
      refine GoW.tr  st855 ?_
      show GoW p e below s Q 4 10 (T855.setTop (mkF m 82 #[.val (.int k0), .val (.int c0), .val (.int c1), .val (.int sh), .val (.int (3 : Int32)), .val .null, .val (.ref b659), .val (.ref b802), .unset, .unset] [(.ref b835)]))
      refine GoW.st (fun _ k => XS.astore X855.here hx rfl (hb hby at_82) rfl rfl (l' := #[.val (.int k0), .val (.int c0), .val (.int c1), .val (.int sh), .val (.int (3 : Int32)), .val .null, .val (.ref b659), .val (.ref b802), .val (.ref b835), .unset]) rfl k) ?_
      refine GoW.st (fun _ k => XS.iload X855.here hx rfl (hb hby at_84) rfl k) ?_
      refine GoW.st (fun _ k => XS.iconst X855.here hx rfl (hb hby at_86) k) ?_
      refine GoW.st (fun _ k => XS.icmpYes X855.here hx rfl (pc0 := 87) (pc' := 94) rfl (hb hby at_87) rfl (feq (neI liI_3 liI_2 (by decide))).2 (by decide) (by decide) k) ?_
      refine GoW.st (fun _ k => XS.iconst X855.here hx rfl (hb hby at_94) k) ?_
      refine GoW.st (fun _ k => XS.istore X855.here hx rfl (hb hby at_95) rfl (l' := #[.val (.int k0), .val (.int c0), .val (.int c1), .val (.int sh), .val (.int (3 : Int32)), .val .null, .val (.ref b659), .val (.ref b802), .val (.ref b835), .val (.int (0 : Int32))]) rfl k) ?_
      show GoW p e below s Q 4 10 (T855.setTop (mkF m 97 #[.val (.int k0), .val (.int c0), .val (.int c1), .val (.int sh), .val (.int (3 : Int32)), .val .null, .val (.ref b659), .val (.ref b802), .val (.ref b835), .val (.int (0 : Int32))] []))
      refine GoW.st (fun _ k => XS.aload X855.here hx rfl (hb hby at_97) rfl rfl k) ?_
      obtain ⟨cq870, kq870, q870a, q870b, q870c⟩ := isOf hZ rfl h857
      obtain ⟨_, _, ⟨T870, L870, k870, n870⟩, -, X870, ⟨Lc870, hQ870, l870, y870, z870⟩, st870⟩ := X855.virtualBack hx (y := (⟨"com/example/graf/graf/routes/Match", "isLogout", "()Z"⟩ : MethodName)) (z := (⟨"com/example/graf/graf/routes/Match", "isLogout", "()Z"⟩ : MethodName)) hown (mvT hZ (hw _ (List.mem_of_getElem? (i := 48) rfl))) (mvT hZ (hw _ (List.mem_of_getElem? (i := 49) rfl))) (notFace_of_selects (args := #[]) (mvT hZ (hw _ (List.mem_of_getElem? (i := 51) rfl)))) (mvT hZ (hw _ (List.mem_of_getElem? (i := 51) rfl))) (mvT hZ (hw _ (List.mem_of_getElem? (i := 50) rfl))) (by decide) (backOf (W := 0) (rmln l Z a0 hw [] b835 aLOGOUT T855.heap n0 (Nat.le_trans Z0 K855.1) h856 h860) hZ (hw _ (List.mem_of_getElem? (i := 52) rfl)) (hw _ (List.mem_of_getElem? (i := 39) rfl)) (by decide) (by decide)) q870a q870c (g := (mkF m 99 #[.val (.int k0), .val (.int c0), .val (.int c1), .val (.int sh), .val (.int (3 : Int32)), .val .null, .val (.ref b659), .val (.ref b802), .val (.ref b835), .val (.int (0 : Int32))] [(.ref b835)])) rfl (by rw [hml]; rfl) (Steps.refl _) (argsL := []) (rest := []) (lenOf pd_6 rfl) rfl (by show 2 * 0 + _ ≤ _; exact Nat.le_of_eq rfl) (hb hby at_99) (fun _ _ => ⟨rfl, rfl, (by decide : 4 + 0 ≤ _), (by decide : 10 + 0 ≤ _)⟩)
      dsimp only [Pt.U, Pt.locs, Pt.cells, Pt.slots] at X870 l870 y870 z870 st870 hQ870
      subst l870 y870 z870
      obtain ⟨rfl, N870q, e870⟩ := hQ870
      have N870 := Fr.app N855 N870q
      refine GoW.tr  st870 ?_
      show GoW p e below s Q 4 10 (T870.setTop (mkF m 102 #[.val (.int k0), .val (.int c0), .val (.int c1), .val (.int sh), .val (.int (3 : Int32)), .val .null, .val (.ref b659), .val (.ref b802), .val (.ref b835), .val (.int (0 : Int32))] [(.int (0 : Int32))]))
      refine GoW.st (fun _ k => XS.iload X870.here hx rfl (hb hby at_102) rfl k) ?_
      refine GoW.st (fun _ k => XS.icmpNo X870.here hx rfl (hb hby at_104) rfl (teq (eqI liI_0 liI_0 (by decide))).2 k) ?_
      refine GoW.st (fun _ k => XS.iconst X870.here hx rfl (hb hby at_107) k) ?_
      refine GoW.st (fun _ k => XS.goto X870.here hx rfl (pc0 := 108) (pc' := 112) rfl (hb hby at_108) (by decide) (by decide) k) ?_
      show GoW p e below s Q 4 10 (T870.setTop (mkF m 112 #[.val (.int k0), .val (.int c0), .val (.int c1), .val (.int sh), .val (.int (3 : Int32)), .val .null, .val (.ref b659), .val (.ref b802), .val (.ref b835), .val (.int (0 : Int32))] [(.int (1 : Int32))]))
      exact GoW.retN (since0 s) (vm0 := s.vm) X870 (Nat.zero_le _) hx hlk (by simp) Bd.returns (hb hby at_112) (z' := (1 : Int32)) (by decide) (by rw [← hQ, e870]; exact ⟨rfl, N870, K855⟩) (by decide) (by decide)
set_option maxRecDepth 65536 in
set_option maxHeartbeats 40000000 in
theorem comes_1 {Post : Tables → Env → Array Value → State → Outcome → State → Prop} (hpost : ∀ tb e args s v u, (limb_1_1.after args s (.returned v) u = true ∧ limb_1_2.after args s (.returned v) u = true ∧ True) → ReturnedEndW s (.returned v) u (Jvm.fieldLocs frame_1_writes args s ++ Jvm.arrayLocs frame_1_arrays args s ++ Jvm.staticLocs frame_1_statics s) 24 1152 → Post tb e args s (.returned v) u) :
    ArmFor flags0 classFile x code maxLocals ret World_1 tables_1 room_1 Calls_1 rest_1 Pre_1 Post := by
  intro l hfl _ _ p e ha hc hk s m args below hf hA hF happ hP
  obtain ⟨hcalls, hrest, hpre⟩ := hP
  obtain ⟨-, -, -, hnamed, -, -, -, hat⟩ := (Spec.applies_iff hf).mp happ
  obtain ⟨hg, hn⟩ := and_e (Cond.before_iff.mp (show (Jvm.Cond.and given_1 narrow_1).before args s = true from hpre))
  obtain ⟨hcount, g0⟩ := and_e hg
  obtain ⟨a0, g1⟩ := and_e g0
  obtain ⟨a1, g2⟩ := and_e g1
  obtain ⟨a2, g3⟩ := and_e g2
  obtain ⟨w0, w1, w2, w3, rfl⟩ : ∃ w0 w1 w2 w3 : Value, args = #[w0, w1, w2, w3] := by
    have hs : args.size = 4 := by simpa [Cond.value, given_1] using hcount
    obtain ⟨L⟩ := args
    match L, hs with
    | [w0, w1, w2, w3], _ => exact ⟨w0, w1, w2, w3, rfl⟩
  have hw := fun d (hd : d ∈ tables_1) => atoms_spec (ws := Jvm.Cond.code x code maxLocals ret :: tables_1) hat d (List.mem_cons_of_mem _ hd)
  have hfit : Fit s := fun {y c} hc i hi => by
    obtain ⟨ha, rfl⟩ := Array.getElem?_eq_some_iff.mp hc
    have q := List.all_eq_true.mp ((Array.all_eq_true_iff_forall_mem.mp hF) _ (Array.getElem_mem ha)) i (List.mem_range.mpr hi)
    simpa [Array.getElem?_eq_getElem hi] using q
  obtain ⟨hsets, hown0⟩ := atoms_of _ (rest_1_c_eq ▸ (show rest_1_c.before _ s = true from hrest))
  obtain ⟨i0, ei0⟩ := is_v a0
  obtain rfl : w0 = (.int i0) := Option.some.inj ei0
  obtain ⟨i1, ei1⟩ := is_v a1
  obtain rfl : w1 = (.int i1) := Option.some.inj ei1
  obtain ⟨i2, ei2⟩ := is_v a2
  obtain rfl : w2 = (.int i2) := Option.some.inj ei2
  obtain ⟨i3, ei3⟩ := is_v g3
  obtain rfl : w3 = (.int i3) := Option.some.inj ei3
  obtain ⟨u1, u2⟩ := and_e hn
  obtain ⟨u3, u4⟩ := and_e u2
  obtain ⟨u5, u6⟩ := and_e u4
  obtain ⟨u7, u8⟩ := and_e u6
  obtain ⟨u9, u10⟩ := and_e u8
  obtain ⟨aGUARDED, ev_aGUARDED⟩ := exa_v u1
  have S_aGUARDED : Sta s s.heap "com/example/graf/graf/routes/RouteKind" "GUARDED" "Lcom/example/graf/graf/routes/RouteKind;" (.ref aGUARDED) := Sta.start ev_aGUARDED (Or.inr ⟨(hw _ (List.mem_of_getElem? (i := 5) rfl)), (hw _ (List.mem_of_getElem? (i := 6) rfl))⟩)
  have E_aGUARDED : Exa s s.heap aGUARDED "com/example/graf/graf/routes/RouteKind" := Exa.start ev_aGUARDED u1
  obtain ⟨aLOGOUT, ev_aLOGOUT⟩ := exa_v u3
  have S_aLOGOUT : Sta s s.heap "com/example/graf/graf/routes/RouteKind" "LOGOUT" "Lcom/example/graf/graf/routes/RouteKind;" (.ref aLOGOUT) := Sta.start ev_aLOGOUT (Or.inr ⟨(hw _ (List.mem_of_getElem? (i := 5) rfl)), (hw _ (List.mem_of_getElem? (i := 54) rfl))⟩)
  have E_aLOGOUT : Exa s s.heap aLOGOUT "com/example/graf/graf/routes/RouteKind" := Exa.start ev_aLOGOUT u3
  have F_aGUARDED_ordinal : Fld s s.heap aGUARDED "java/lang/Enum" "ordinal" "I" (.int (0 : Int32)) := fld_int ev_aGUARDED u5
  have F_aLOGOUT_ordinal : Fld s s.heap aLOGOUT "java/lang/Enum" "ordinal" "I" (.int (2 : Int32)) := fld_int ev_aLOGOUT u7
  obtain ⟨aPUBLIC, ev_aPUBLIC⟩ := exa_v u9
  have S_aPUBLIC : Sta s s.heap "com/example/graf/graf/routes/RouteKind" "PUBLIC" "Lcom/example/graf/graf/routes/RouteKind;" (.ref aPUBLIC) := Sta.start ev_aPUBLIC (Or.inr ⟨(hw _ (List.mem_of_getElem? (i := 5) rfl)), (hw _ (List.mem_of_getElem? (i := 60) rfl))⟩)
  have E_aPUBLIC : Exa s s.heap aPUBLIC "com/example/graf/graf/routes/RouteKind" := Exa.start ev_aPUBLIC u9
  have F_aPUBLIC_ordinal : Fld s s.heap aPUBLIC "java/lang/Enum" "ordinal" "I" (.int (1 : Int32)) := fld_int ev_aPUBLIC u10
  have ne_aGUARDED_aLOGOUT : aGUARDED ≠ aLOGOUT := Fld.ne F_aGUARDED_ordinal F_aLOGOUT_ordinal (by first | decide | simp)
  have ne_aGUARDED_aPUBLIC : aGUARDED ≠ aPUBLIC := Fld.ne F_aGUARDED_ordinal F_aPUBLIC_ordinal (by first | decide | simp)
  have ne_aLOGOUT_aPUBLIC : aLOGOUT ≠ aPUBLIC := Fld.ne F_aLOGOUT_ordinal F_aPUBLIC_ordinal (by first | decide | simp)
  obtain ⟨zc, ezc⟩ := is_v (Cond.before_iff.mp (hsets _ (List.mem_of_getElem? (i := 1) rfl)))
  have S_CS : Sta s s.heap "java/lang/String" "COMPACT_STRINGS" "Z" (.int zc) := Sta.start ezc (Or.inl (hsets _ (List.mem_of_getElem? (i := 0) rfl)))
  have P_CS : ¬ zc.toInt = 0 := fun q => not_eq_ev ezc (Cond.before_iff.mp (hsets _ (List.mem_of_getElem? (i := 2) rfl))) (Int32.toInt_inj.mp (q.trans (by decide)))
  obtain ⟨n, o, h1, h2, h3, _, L, rfl, ⟨rfl, N, _⟩, hq⟩ := rm0 l s _ hw tables_1 i0 i1 i2 i3 aGUARDED aLOGOUT aPUBLIC zc s.heap s.heap.size (Nat.le_refl _) S_aGUARDED E_aGUARDED S_aLOGOUT E_aLOGOUT F_aGUARDED_ordinal F_aLOGOUT_ordinal S_aPUBLIC E_aPUBLIC F_aPUBLIC_ordinal ne_aGUARDED_aLOGOUT ne_aGUARDED_aPUBLIC ne_aLOGOUT_aPUBLIC S_CS P_CS rfl p e ha hc hk s m _ below hf ((Spec.applies_iff_loose hf).mp happ).1 ⟨rfl, State.Warmed39.refl s, rfl, rfl⟩ trivial
  refine ⟨n, _, h1, h2, h3, hpost _ _ _ _ _ _ ⟨Cond.after_iff.mpr rfl, Cond.after_iff.mpr (eq_i res_at (Term.int_eval (1)) rfl), trivial⟩ ⟨hq.1, hq.2.1, hq.2.2.1, (hq.2.2.2.sift fun y hy => Or.inr (N y hy)).mono (by decide) (by decide)⟩⟩
theorem main_1_1 : Claimed_1_1 := comes_1 fun _ _ _ _ _ _ h hF => ⟨h.1, hF⟩
theorem main_1_2 : Claimed_1_2 := comes_1 fun _ _ _ _ _ _ h hF => ⟨h.2.1, hF⟩
end Jvm.Pilot.@@N@@
namespace Jvm.Pilot.@@N@@
open Jvm Jvm.ClassFile Sem Op Lib Jvm.Free Jvm.Stand Jvm.Pilot.@@N@@.Jvm.D
/-! MADE BY PROGRAM (witnessworld.py) out of the Statement's table words and the real class files: 22 classes; the members and pool entries that the words name. The judged class is class 1, her method 2. -/
namespace start1
open Jvm.ClassFile
def u (s : String) : CpInfo := .utf8 (stringToUtf16 s)
/-- a pool by its gaps: so many unusable entries, then the entry; so many at the end -/
def gap : Nat → List CpInfo → List CpInfo
  | 0, r => r
  | n + 1, r => .unusable :: gap n r
def poolList (es : List (Nat × CpInfo)) (last : Nat) : List CpInfo := es.foldr (fun e r => gap e.1 (e.2 :: r)) (gap last [])
def pool (es : List (Nat × CpInfo)) (last : Nat) : Array CpInfo := ⟨poolList es last⟩
def fileOf (pool : Array CpInfo) (this : Nat) (attrs : Array Attribute := #[]) (ms : Array MethodInfo := #[]) (fl : Nat := 33) (sup : Nat := 0) (ifs : Array Nat := #[]) (fds : Array FieldInfo := #[]) : ClassFile where
  minorVersion := 0
  majorVersion := 65
  constantPool := pool
  accessFlags := fl
  thisClass := this
  superClass := sup
  interfaces := ifs
  fields := fds
  methods := ms
  attributes := attrs
def plain (name : String) (sup : Option ClassId) : Class where
  name := name
  kind := .ordinary
  loader := none
  accessFlags := 33
  super := sup
  interfaces := #[]
  cf := none
  fields := #[]
  methods := #[]
  instanceTypes := #[]
  staticTypes := #[]
  resolved := #[]
  callSites := []
  init := .initialized
  statics := none
  mirror := none

def pool0 : Array CpInfo := pool [(5, u "<init>"), (0, u "()V"), (1, .class_ 10), (1, u "java/lang/Object")] 113

def k0c0 : Code := { maxStack := 0, maxLocals := 1, code := object_method_1_code, exceptionTable := #[], attributes := #[] }
def k0m0 : Method := { name := "<init>", desc := "()V", sig := { parameters := [], returnType := none }, accessFlags := 1, code := some k0c0 }
/-- java/lang/Object -/
def k0 : Class := { plain "java/lang/Object" none with
  accessFlags := 33
  interfaces := #[]
  cf := some (fileOf pool0 8 #[] #[{ accessFlags := 1, nameIndex := 5, descriptorIndex := 6, attributes := #[] }] 33 0 #[] #[])
  fields := #[]
  methods := #[k0m0]
  instanceTypes := #[]
  staticTypes := #[]
  resolved := Array.replicate 124 none
  statics := none }

def pool1 : Array CpInfo := pool [(2, .class_ 4), (1, u "java/lang/Object"), (0, u "<init>"), (0, u "()V"), (0, .fieldref 8 9), (0, .class_ 10), (0, .nameAndType 11 12), (0, u "com/example/graf/graf/routes/RouteKind"), (0, u "GUARDED"), (0, u "Lcom/example/graf/graf/routes/RouteKind;"), (0, .fieldref 8 14), (0, .nameAndType 15 12), (0, u "PUBLIC"), (0, .fieldref 8 17), (0, .nameAndType 18 12), (0, u "LOGOUT"), (0, .methodref 20 21), (0, .class_ 22), (0, .nameAndType 23 24), (0, u "com/example/graf/graf/routes/MatchIsLogoutPinLaw"), (0, u "kindOf"), (0, u "(I)Lcom/example/graf/graf/routes/RouteKind;"), (0, .class_ 26), (0, u "java/lang/String"), (0, .methodref 25 28), (0, .nameAndType 5 29), (0, u "([C)V"), (0, .string 31), (0, u ""), (0, .class_ 33), (0, u "com/example/graf/graf/routes/Match"), (0, .methodref 32 35), (0, .nameAndType 5 36), (0, u "(Ljava/lang/String;Lcom/example/graf/graf/routes/RouteKind;)V"), (0, .methodref 32 38), (0, .nameAndType 39 40), (0, u "isLogout"), (0, u "()Z"), (3, u "law"), (0, u "(IIII)Z")] 4

def k1m0 : Method := { name := "<init>", desc := "()V", sig := { parameters := [], returnType := none }, accessFlags := 2, code := none }
def k1c1 : Code := { maxStack := 2, maxLocals := 1, code := method_2_code, exceptionTable := #[], attributes := #[] }
def k1m1 : Method := { name := "kindOf", desc := "(I)Lcom/example/graf/graf/routes/RouteKind;", sig := { parameters := [.int], returnType := some (.object "com/example/graf/graf/routes/RouteKind") }, accessFlags := 10, code := some k1c1 }
def k1c2 : Code := { maxStack := 5, maxLocals := 10, code := code, exceptionTable := #[], attributes := #[] }
def k1m2 : Method := { name := "law", desc := "(IIII)Z", sig := { parameters := [.int, .int, .int, .int], returnType := some .boolean }, accessFlags := 9, code := some k1c2 }
/-- com/example/graf/graf/routes/MatchIsLogoutPinLaw -/
def k1 : Class := { plain "com/example/graf/graf/routes/MatchIsLogoutPinLaw" (some 0) with
  accessFlags := 49
  interfaces := #[]
  cf := some (fileOf pool1 20 #[] #[{ accessFlags := 2, nameIndex := 5, descriptorIndex := 6, attributes := #[] }, { accessFlags := 10, nameIndex := 23, descriptorIndex := 24, attributes := #[] }, { accessFlags := 9, nameIndex := 44, descriptorIndex := 45, attributes := #[] }] 49 2 #[] #[])
  fields := #[]
  methods := #[k1m0, k1m1, k1m2]
  instanceTypes := #[]
  staticTypes := #[]
  resolved := Array.replicate 50 none
  statics := none }

def pool2 : Array CpInfo := pool [(1, .class_ 2), (0, u "java/lang/constant/Constable"), (0, .class_ 4), (0, u "java/lang/Object")] 6

/-- java/lang/constant/Constable -/
def k2 : Class := { plain "java/lang/constant/Constable" (some 0) with
  accessFlags := 1537
  interfaces := #[]
  cf := some (fileOf pool2 1 #[] #[] 1537 3 #[] #[])
  fields := #[]
  methods := #[]
  instanceTypes := #[]
  staticTypes := #[]
  resolved := Array.replicate 11 none
  statics := none }

def pool3 : Array CpInfo := pool [(1, .class_ 2), (0, u "java/lang/Comparable"), (0, .class_ 4), (0, u "java/lang/Object")] 7

/-- java/lang/Comparable -/
def k3 : Class := { plain "java/lang/Comparable" (some 0) with
  accessFlags := 1537
  interfaces := #[]
  cf := some (fileOf pool3 1 #[] #[] 1537 3 #[] #[])
  fields := #[]
  methods := #[]
  instanceTypes := #[]
  staticTypes := #[]
  resolved := Array.replicate 12 none
  statics := none }

def pool4 : Array CpInfo := pool [(1, .class_ 2), (0, u "java/io/Serializable"), (0, .class_ 4), (0, u "java/lang/Object")] 2

/-- java/io/Serializable -/
def k4 : Class := { plain "java/io/Serializable" (some 0) with
  accessFlags := 1537
  interfaces := #[]
  cf := some (fileOf pool4 1 #[] #[] 1537 3 #[] #[])
  fields := #[]
  methods := #[]
  instanceTypes := #[]
  staticTypes := #[]
  resolved := Array.replicate 7 none
  statics := none }

def pool5 : Array CpInfo := pool [(2, .class_ 4), (1, u "java/lang/Enum"), (0, u "name"), (0, u "Ljava/lang/String;"), (2, u "ordinal"), (0, u "I"), (1, .class_ 14), (1, u "java/lang/Object"), (4, u "hash"), (86, .class_ 108), (1, u "java/lang/Enum$EnumDesc"), (2, .class_ 112), (0, u "java/lang/constant/Constable"), (0, .class_ 114), (0, u "java/lang/Comparable"), (0, .class_ 116), (0, u "java/io/Serializable")] 87

/-- java/lang/Enum -/
def k5 : Class := { plain "java/lang/Enum" (some 0) with
  accessFlags := 1057
  interfaces := #[2, 3, 4]
  cf := some (fileOf pool5 2 #[.nestMembers #[106]] #[] 1057 12 #[111, 113, 115] #[{ accessFlags := 18, nameIndex := 5, descriptorIndex := 6, attributes := #[] }, { accessFlags := 18, nameIndex := 9, descriptorIndex := 10, attributes := #[] }, { accessFlags := 2, nameIndex := 19, descriptorIndex := 10, attributes := #[] }])
  fields := #[{ name := "name", type := (.object "java/lang/String"), accessFlags := 18, slot := 0, constantValue := 0 }, { name := "ordinal", type := .int, accessFlags := 18, slot := 1, constantValue := 0 }, { name := "hash", type := .int, accessFlags := 2, slot := 2, constantValue := 0 }]
  methods := #[]
  instanceTypes := #[(.object "java/lang/String"), .int, .int]
  staticTypes := #[]
  resolved := Array.replicate 204 none
  statics := none }

def pool6 : Array CpInfo := pool [(1, .class_ 2), (0, u "com/example/graf/graf/routes/RouteKind"), (2, u "GUARDED"), (0, u "Lcom/example/graf/graf/routes/RouteKind;"), (2, u "PUBLIC"), (2, u "LOGOUT"), (2, u "$VALUES"), (0, u "[Lcom/example/graf/graf/routes/RouteKind;"), (6, .class_ 25), (1, u "java/lang/Enum")] 25

/-- com/example/graf/graf/routes/RouteKind -/
def k6 : Class := { plain "com/example/graf/graf/routes/RouteKind" (some 5) with
  accessFlags := 16433
  interfaces := #[]
  cf := some (fileOf pool6 1 #[] #[] 16433 23 #[] #[{ accessFlags := 16409, nameIndex := 5, descriptorIndex := 6, attributes := #[] }, { accessFlags := 16409, nameIndex := 9, descriptorIndex := 6, attributes := #[] }, { accessFlags := 16409, nameIndex := 12, descriptorIndex := 6, attributes := #[] }, { accessFlags := 4122, nameIndex := 15, descriptorIndex := 16, attributes := #[] }])
  fields := #[{ name := "GUARDED", type := (.object "com/example/graf/graf/routes/RouteKind"), accessFlags := 16409, slot := 0, constantValue := 0 }, { name := "PUBLIC", type := (.object "com/example/graf/graf/routes/RouteKind"), accessFlags := 16409, slot := 1, constantValue := 0 }, { name := "LOGOUT", type := (.object "com/example/graf/graf/routes/RouteKind"), accessFlags := 16409, slot := 2, constantValue := 0 }, { name := "$VALUES", type := (.array (.object "com/example/graf/graf/routes/RouteKind")), accessFlags := 4122, slot := 3, constantValue := 0 }]
  methods := #[]
  instanceTypes := #[(.object "java/lang/String"), .int, .int]
  staticTypes := #[(.object "com/example/graf/graf/routes/RouteKind"), (.object "com/example/graf/graf/routes/RouteKind"), (.object "com/example/graf/graf/routes/RouteKind"), (.array (.object "com/example/graf/graf/routes/RouteKind"))]
  resolved := Array.replicate 51 none
  statics := some 0 }

def pool7 : Array CpInfo := pool [(2, .class_ 4), (1, u "java/lang/CharSequence"), (42, .class_ 48), (0, u "java/lang/CharSequence$1CodePointIterator"), (10, .class_ 60), (0, u "java/lang/CharSequence$1CharIterator"), (5, .class_ 67), (0, u "java/lang/Object")] 63

/-- java/lang/CharSequence -/
def k7 : Class := { plain "java/lang/CharSequence" (some 0) with
  accessFlags := 1537
  interfaces := #[]
  cf := some (fileOf pool7 2 #[.nestMembers #[47, 59]] #[] 1537 66 #[] #[])
  fields := #[]
  methods := #[]
  instanceTypes := #[]
  staticTypes := #[]
  resolved := Array.replicate 131 none
  statics := none }

def pool8 : Array CpInfo := pool [(1, .class_ 2), (0, u "java/lang/constant/ConstantDesc"), (0, .class_ 4), (0, u "java/lang/Object")] 32

/-- java/lang/constant/ConstantDesc -/
def k8 : Class := { plain "java/lang/constant/ConstantDesc" (some 0) with
  accessFlags := 1537
  interfaces := #[]
  cf := some (fileOf pool8 1 #[] #[] 1537 3 #[] #[])
  fields := #[]
  methods := #[]
  instanceTypes := #[]
  staticTypes := #[]
  resolved := Array.replicate 37 none
  statics := none }

def pool9 : Array CpInfo := pool [(1, .methodref 2 3), (0, .class_ 4), (0, .nameAndType 5 6), (0, u "java/lang/Object"), (0, u "<init>"), (0, u "()V"), (2, .fieldref 10 11), (0, .class_ 12), (0, .nameAndType 13 14), (0, u "java/lang/String"), (0, u "value"), (0, u "[B"), (0, .fieldref 10 16), (0, .nameAndType 17 18), (0, u "coder"), (0, u "B"), (2, u "hash"), (0, u "I"), (2, u "hashIsZero"), (0, u "Z"), (0, .methodref 10 28), (0, .nameAndType 5 29), (0, u "([CIILjava/lang/Void;)V"), (8, .fieldref 10 39), (0, .nameAndType 40 26), (0, u "COMPACT_STRINGS"), (1, .class_ 44), (1, u "java/lang/StringUTF16"), (0, u "compress"), (1, .methodref 42 48), (0, .nameAndType 49 50), (0, u "coderFromArrayLen"), (0, u "([BI)B"), (126, .methodref 42 178), (0, .nameAndType 45 179), (0, u "([CII)[B"), (395, .class_ 576), (0, u "java/lang/CharSequence"), (22, u "CASE_INSENSITIVE_ORDER"), (0, u "Ljava/util/Comparator;"), (409, u "([C)V"), (90, u "serialPersistentFields"), (0, u "[Ljava/io/ObjectStreamField;"), (0, .class_ 1104), (0, u "java/lang/String$CaseInsensitiveComparator"), (1, .class_ 1107), (0, u "java/io/Serializable"), (0, .class_ 1109), (0, u "java/lang/Comparable"), (0, .class_ 1111), (0, u "java/lang/constant/Constable"), (0, .class_ 1113), (0, u "java/lang/constant/ConstantDesc"), (2, u "serialVersionUID"), (0, u "J"), (3, u "REPL"), (0, u "C"), (2, u "LATIN1"), (1, u "UTF16")] 323

def k9m0 : Method := { name := "<init>", desc := "()V", sig := { parameters := [], returnType := none }, accessFlags := 1, code := none }
def k9c1 : Code := { maxStack := 5, maxLocals := 2, code := jdk_42_method_3_code, exceptionTable := #[], attributes := #[] }
def k9m1 : Method := { name := "<init>", desc := "([C)V", sig := { parameters := [(.array .char)], returnType := none }, accessFlags := 1, code := some k9c1 }
def k9c2 : Code := { maxStack := 4, maxLocals := 6, code := jdk_42_method_149_code, exceptionTable := #[], attributes := #[] }
def k9m2 : Method := { name := "<init>", desc := "([CIILjava/lang/Void;)V", sig := { parameters := [(.array .char), .int, .int, (.object "java/lang/Void")], returnType := none }, accessFlags := 2, code := some k9c2 }
/-- java/lang/String -/
def k9 : Class := { plain "java/lang/String" (some 0) with
  accessFlags := 49
  interfaces := #[4, 3, 7, 2, 8]
  cf := some (fileOf pool9 10 #[.nestMembers #[1103]] #[{ accessFlags := 1, nameIndex := 5, descriptorIndex := 6, attributes := #[] }, { accessFlags := 1, nameIndex := 5, descriptorIndex := 1010, attributes := #[] }, { accessFlags := 2, nameIndex := 5, descriptorIndex := 29, attributes := #[] }] 49 2 #[1106, 1108, 575, 1110, 1112] #[{ accessFlags := 18, nameIndex := 13, descriptorIndex := 14, attributes := #[] }, { accessFlags := 18, nameIndex := 17, descriptorIndex := 18, attributes := #[] }, { accessFlags := 2, nameIndex := 21, descriptorIndex := 22, attributes := #[] }, { accessFlags := 2, nameIndex := 25, descriptorIndex := 26, attributes := #[] }, { accessFlags := 26, nameIndex := 1116, descriptorIndex := 1117, attributes := #[] }, { accessFlags := 24, nameIndex := 40, descriptorIndex := 26, attributes := #[] }, { accessFlags := 26, nameIndex := 1101, descriptorIndex := 1102, attributes := #[] }, { accessFlags := 26, nameIndex := 1121, descriptorIndex := 1122, attributes := #[] }, { accessFlags := 25, nameIndex := 599, descriptorIndex := 600, attributes := #[] }, { accessFlags := 24, nameIndex := 1125, descriptorIndex := 18, attributes := #[] }, { accessFlags := 24, nameIndex := 1127, descriptorIndex := 18, attributes := #[] }])
  fields := #[{ name := "value", type := (.array .byte), accessFlags := 18, slot := 0, constantValue := 0 }, { name := "coder", type := .byte, accessFlags := 18, slot := 1, constantValue := 0 }, { name := "hash", type := .int, accessFlags := 2, slot := 2, constantValue := 0 }, { name := "hashIsZero", type := .boolean, accessFlags := 2, slot := 3, constantValue := 0 }, { name := "serialVersionUID", type := .long, accessFlags := 26, slot := 0, constantValue := 0 }, { name := "COMPACT_STRINGS", type := .boolean, accessFlags := 24, slot := 1, constantValue := 0 }, { name := "serialPersistentFields", type := (.array (.object "java/io/ObjectStreamField")), accessFlags := 26, slot := 2, constantValue := 0 }, { name := "REPL", type := .char, accessFlags := 26, slot := 3, constantValue := 0 }, { name := "CASE_INSENSITIVE_ORDER", type := (.object "java/util/Comparator"), accessFlags := 25, slot := 4, constantValue := 0 }, { name := "LATIN1", type := .byte, accessFlags := 24, slot := 5, constantValue := 0 }, { name := "UTF16", type := .byte, accessFlags := 24, slot := 6, constantValue := 0 }]
  methods := #[k9m0, k9m1, k9m2]
  instanceTypes := #[(.array .byte), .byte, .int, .boolean]
  staticTypes := #[.long, .boolean, (.array (.object "java/io/ObjectStreamField")), .char, (.object "java/util/Comparator"), .byte, .byte]
  resolved := Array.replicate 1451 none
  statics := some 1 }

def pool10 : Array CpInfo := pool [(6, .class_ 8), (1, u "java/lang/Object"), (0, u "<init>"), (0, u "()V"), (1, .class_ 14), (1, u "java/lang/StringUTF16"), (31, u "$assertionsDisabled"), (0, u "Z"), (13, u "HI_BYTE_SHIFT"), (0, u "I"), (2, u "LO_BYTE_SHIFT"), (49, .methodref 12 116), (0, .nameAndType 117 118), (0, u "compress"), (0, u "([CI[BII)I"), (3, u "([CII)[B"), (138, u "coderFromArrayLen"), (0, u "([BI)B"), (106, .class_ 371), (1, u "java/lang/StringUTF16$LinesSpliterator"), (58, u "MAX_LENGTH"), (196, .class_ 628), (0, u "java/lang/StringUTF16$CodePointsSpliterator"), (0, .class_ 630), (0, u "java/lang/StringUTF16$CharsSpliterator")] 4

def k10m0 : Method := { name := "<init>", desc := "()V", sig := { parameters := [], returnType := none }, accessFlags := 0, code := none }
def k10c1 : Code := { maxStack := 2, maxLocals := 2, code := jdk_52_method_15_code, exceptionTable := #[], attributes := #[] }
def k10m1 : Method := { name := "coderFromArrayLen", desc := "([BI)B", sig := { parameters := [(.array .byte), .int], returnType := some .byte }, accessFlags := 8, code := some k10c1 }
def k10c2 : Code := { maxStack := 5, maxLocals := 6, code := jdk_52_method_16_code, exceptionTable := #[], attributes := #[] }
def k10m2 : Method := { name := "compress", desc := "([CII)[B", sig := { parameters := [(.array .char), .int, .int], returnType := some (.array .byte) }, accessFlags := 9, code := some k10c2 }
def k10c3 : Code := { maxStack := 3, maxLocals := 7, code := jdk_52_method_21_code, exceptionTable := #[], attributes := #[] }
def k10m3 : Method := { name := "compress", desc := "([CI[BII)I", sig := { parameters := [(.array .char), .int, (.array .byte), .int, .int], returnType := some .int }, accessFlags := 9, code := some k10c3 }
/-- java/lang/StringUTF16 -/
def k10 : Class := { plain "java/lang/StringUTF16" (some 0) with
  accessFlags := 48
  interfaces := #[]
  cf := some (fileOf pool10 12 #[.nestMembers #[627, 629, 369]] #[{ accessFlags := 0, nameIndex := 9, descriptorIndex := 10, attributes := #[] }, { accessFlags := 8, nameIndex := 261, descriptorIndex := 262, attributes := #[] }, { accessFlags := 9, nameIndex := 117, descriptorIndex := 122, attributes := #[] }, { accessFlags := 9, nameIndex := 117, descriptorIndex := 118, attributes := #[] }] 48 6 #[] #[{ accessFlags := 26, nameIndex := 61, descriptorIndex := 62, attributes := #[] }, { accessFlags := 26, nameIndex := 65, descriptorIndex := 62, attributes := #[] }, { accessFlags := 24, nameIndex := 430, descriptorIndex := 62, attributes := #[] }, { accessFlags := 4120, nameIndex := 46, descriptorIndex := 47, attributes := #[] }])
  fields := #[{ name := "HI_BYTE_SHIFT", type := .int, accessFlags := 26, slot := 0, constantValue := 0 }, { name := "LO_BYTE_SHIFT", type := .int, accessFlags := 26, slot := 1, constantValue := 0 }, { name := "MAX_LENGTH", type := .int, accessFlags := 24, slot := 2, constantValue := 0 }, { name := "$assertionsDisabled", type := .boolean, accessFlags := 4120, slot := 3, constantValue := 0 }]
  methods := #[k10m0, k10m1, k10m2, k10m3]
  instanceTypes := #[]
  staticTypes := #[.int, .int, .int, .boolean]
  resolved := Array.replicate 635 none
  statics := none }

def pool11 : Array CpInfo := pool [(1, .methodref 2 3), (0, .class_ 4), (0, .nameAndType 5 6), (0, u "java/lang/Object"), (0, u "<init>"), (0, u "()V"), (0, .fieldref 8 9), (0, .class_ 10), (0, .nameAndType 11 12), (0, u "com/example/graf/graf/routes/Match"), (0, u "node"), (0, u "Ljava/lang/String;"), (0, .fieldref 8 14), (0, .nameAndType 15 16), (0, u "kind"), (0, u "Lcom/example/graf/graf/routes/RouteKind;"), (1, .class_ 20), (1, u "com/example/graf/graf/routes/RouteKind"), (1, .fieldref 18 23), (0, .nameAndType 24 16), (0, u "LOGOUT"), (0, u "(Ljava/lang/String;Lcom/example/graf/graf/routes/RouteKind;)V"), (4, u "()Z"), (1, u "isLogout")] 2

def k11c0 : Code := { maxStack := 2, maxLocals := 3, code := prog_19_method_1_code, exceptionTable := #[], attributes := #[] }
def k11m0 : Method := { name := "<init>", desc := "(Ljava/lang/String;Lcom/example/graf/graf/routes/RouteKind;)V", sig := { parameters := [(.object "java/lang/String"), (.object "com/example/graf/graf/routes/RouteKind")], returnType := none }, accessFlags := 0, code := some k11c0 }
def k11c1 : Code := { maxStack := 2, maxLocals := 1, code := prog_19_method_4_code, exceptionTable := #[], attributes := #[] }
def k11m1 : Method := { name := "isLogout", desc := "()Z", sig := { parameters := [], returnType := some .boolean }, accessFlags := 1, code := some k11c1 }
/-- com/example/graf/graf/routes/Match -/
def k11 : Class := { plain "com/example/graf/graf/routes/Match" (some 0) with
  accessFlags := 33
  interfaces := #[]
  cf := some (fileOf pool11 8 #[] #[{ accessFlags := 0, nameIndex := 5, descriptorIndex := 25, attributes := #[] }, { accessFlags := 1, nameIndex := 32, descriptorIndex := 30, attributes := #[] }] 33 2 #[] #[{ accessFlags := 18, nameIndex := 11, descriptorIndex := 12, attributes := #[] }, { accessFlags := 18, nameIndex := 15, descriptorIndex := 16, attributes := #[] }])
  fields := #[{ name := "node", type := (.object "java/lang/String"), accessFlags := 18, slot := 0, constantValue := 0 }, { name := "kind", type := (.object "com/example/graf/graf/routes/RouteKind"), accessFlags := 18, slot := 1, constantValue := 0 }]
  methods := #[k11m0, k11m1]
  instanceTypes := #[(.object "java/lang/String"), (.object "com/example/graf/graf/routes/RouteKind")]
  staticTypes := #[]
  resolved := Array.replicate 35 none
  statics := none }

def pool12 : Array CpInfo := pool [(4, .class_ 6), (1, u "java/lang/Object"), (0, u "<init>"), (0, u "()V"), (5, .class_ 16), (1, u "java/lang/StringLatin1"), (104, u "$assertionsDisabled"), (0, u "Z"), (98, .class_ 223), (1, u "java/lang/StringLatin1$LinesSpliterator"), (166, .class_ 391), (0, u "java/lang/StringLatin1$CharsSpliterator")] 3

def k12m0 : Method := { name := "<init>", desc := "()V", sig := { parameters := [], returnType := none }, accessFlags := 0, code := none }
/-- java/lang/StringLatin1 -/
def k12 : Class := { plain "java/lang/StringLatin1" (some 0) with
  accessFlags := 48
  interfaces := #[]
  cf := some (fileOf pool12 14 #[.nestMembers #[390, 221]] #[{ accessFlags := 0, nameIndex := 7, descriptorIndex := 8, attributes := #[] }] 48 4 #[] #[{ accessFlags := 4120, nameIndex := 121, descriptorIndex := 122, attributes := #[] }])
  fields := #[{ name := "$assertionsDisabled", type := .boolean, accessFlags := 4120, slot := 0, constantValue := 0 }]
  methods := #[k12m0]
  instanceTypes := #[]
  staticTypes := #[.boolean]
  resolved := Array.replicate 395 none
  statics := none }

def pool13 : Array CpInfo := pool [(2, .class_ 4), (1, u "java/lang/Object"), (0, u "<init>"), (0, u "()V"), (17, .class_ 26), (1, u "jdk/internal/util/Preconditions"), (28, .class_ 56), (0, u "jdk/internal/util/Preconditions$4"), (57, .class_ 115), (0, u "jdk/internal/util/Preconditions$1"), (7, u "SIOOBE_FORMATTER"), (0, u "Ljava/util/function/BiFunction;"), (0, .class_ 126), (0, u "jdk/internal/util/Preconditions$2"), (3, u "AIOOBE_FORMATTER"), (0, .class_ 132), (0, u "jdk/internal/util/Preconditions$3"), (3, u "IOOBE_FORMATTER")] 57

def k13m0 : Method := { name := "<init>", desc := "()V", sig := { parameters := [], returnType := none }, accessFlags := 1, code := none }
/-- jdk/internal/util/Preconditions -/
def k13 : Class := { plain "jdk/internal/util/Preconditions" (some 0) with
  accessFlags := 33
  interfaces := #[]
  cf := some (fileOf pool13 24 #[.nestMembers #[55, 131, 125, 114]] #[{ accessFlags := 1, nameIndex := 5, descriptorIndex := 6, attributes := #[] }] 33 2 #[] #[{ accessFlags := 25, nameIndex := 123, descriptorIndex := 124, attributes := #[] }, { accessFlags := 25, nameIndex := 130, descriptorIndex := 124, attributes := #[] }, { accessFlags := 25, nameIndex := 136, descriptorIndex := 124, attributes := #[] }])
  fields := #[{ name := "SIOOBE_FORMATTER", type := (.object "java/util/function/BiFunction"), accessFlags := 25, slot := 0, constantValue := 0 }, { name := "AIOOBE_FORMATTER", type := (.object "java/util/function/BiFunction"), accessFlags := 25, slot := 1, constantValue := 0 }, { name := "IOOBE_FORMATTER", type := (.object "java/util/function/BiFunction"), accessFlags := 25, slot := 2, constantValue := 0 }]
  methods := #[k13m0]
  instanceTypes := #[]
  staticTypes := #[(.object "java/util/function/BiFunction"), (.object "java/util/function/BiFunction"), (.object "java/util/function/BiFunction")]
  resolved := Array.replicate 194 none
  statics := some 2 }

def pool14 : Array CpInfo := pool [(9, u "<init>"), (6, .class_ 18), (1, u "java/lang/Object"), (0, u "()V"), (1, .class_ 23), (1, u "jdk/internal/util/ArraysSupport"), (0, u "LOG2_ARRAY_LONG_INDEX_SCALE"), (0, u "I"), (2, u "U"), (0, u "Ljdk/internal/misc/Unsafe;"), (8, u "BIG_ENDIAN"), (0, u "Z"), (8, u "LOG2_BYTE_BIT_SIZE"), (4, u "LOG2_ARRAY_INT_INDEX_SCALE"), (54, u "JLA"), (0, u "Ljdk/internal/access/JavaLangAccess;"), (11, u "LOG2_ARRAY_BOOLEAN_INDEX_SCALE"), (9, u "LOG2_ARRAY_BYTE_INDEX_SCALE"), (5, u "LOG2_ARRAY_CHAR_INDEX_SCALE"), (5, u "LOG2_ARRAY_SHORT_INDEX_SCALE"), (18, u "LOG2_ARRAY_FLOAT_INDEX_SCALE"), (24, u "LOG2_ARRAY_DOUBLE_INDEX_SCALE"), (89, u "T_BOOLEAN"), (2, u "T_CHAR"), (1, u "T_FLOAT"), (1, u "T_DOUBLE"), (1, u "T_BYTE"), (1, u "T_SHORT"), (1, u "T_INT"), (1, u "T_LONG"), (1, u "SOFT_MAX_ARRAY_LENGTH")] 83

def k14m0 : Method := { name := "<init>", desc := "()V", sig := { parameters := [], returnType := none }, accessFlags := 2, code := none }
/-- jdk/internal/util/ArraysSupport -/
def k14 : Class := { plain "jdk/internal/util/ArraysSupport" (some 0) with
  accessFlags := 33
  interfaces := #[]
  cf := some (fileOf pool14 21 #[] #[{ accessFlags := 2, nameIndex := 9, descriptorIndex := 19, attributes := #[] }] 33 16 #[] #[{ accessFlags := 24, nameIndex := 28, descriptorIndex := 29, attributes := #[] }, { accessFlags := 26, nameIndex := 38, descriptorIndex := 39, attributes := #[] }, { accessFlags := 25, nameIndex := 121, descriptorIndex := 25, attributes := #[] }, { accessFlags := 25, nameIndex := 131, descriptorIndex := 25, attributes := #[] }, { accessFlags := 25, nameIndex := 137, descriptorIndex := 25, attributes := #[] }, { accessFlags := 25, nameIndex := 143, descriptorIndex := 25, attributes := #[] }, { accessFlags := 25, nameIndex := 53, descriptorIndex := 25, attributes := #[] }, { accessFlags := 25, nameIndex := 24, descriptorIndex := 25, attributes := #[] }, { accessFlags := 25, nameIndex := 162, descriptorIndex := 25, attributes := #[] }, { accessFlags := 25, nameIndex := 187, descriptorIndex := 25, attributes := #[] }, { accessFlags := 26, nameIndex := 48, descriptorIndex := 25, attributes := #[] }, { accessFlags := 25, nameIndex := 277, descriptorIndex := 25, attributes := #[] }, { accessFlags := 25, nameIndex := 280, descriptorIndex := 25, attributes := #[] }, { accessFlags := 25, nameIndex := 282, descriptorIndex := 25, attributes := #[] }, { accessFlags := 25, nameIndex := 284, descriptorIndex := 25, attributes := #[] }, { accessFlags := 25, nameIndex := 286, descriptorIndex := 25, attributes := #[] }, { accessFlags := 25, nameIndex := 288, descriptorIndex := 25, attributes := #[] }, { accessFlags := 25, nameIndex := 290, descriptorIndex := 25, attributes := #[] }, { accessFlags := 25, nameIndex := 292, descriptorIndex := 25, attributes := #[] }, { accessFlags := 26, nameIndex := 108, descriptorIndex := 109, attributes := #[] }, { accessFlags := 25, nameIndex := 294, descriptorIndex := 25, attributes := #[] }])
  fields := #[{ name := "U", type := (.object "jdk/internal/misc/Unsafe"), accessFlags := 24, slot := 0, constantValue := 0 }, { name := "BIG_ENDIAN", type := .boolean, accessFlags := 26, slot := 1, constantValue := 0 }, { name := "LOG2_ARRAY_BOOLEAN_INDEX_SCALE", type := .int, accessFlags := 25, slot := 2, constantValue := 0 }, { name := "LOG2_ARRAY_BYTE_INDEX_SCALE", type := .int, accessFlags := 25, slot := 3, constantValue := 0 }, { name := "LOG2_ARRAY_CHAR_INDEX_SCALE", type := .int, accessFlags := 25, slot := 4, constantValue := 0 }, { name := "LOG2_ARRAY_SHORT_INDEX_SCALE", type := .int, accessFlags := 25, slot := 5, constantValue := 0 }, { name := "LOG2_ARRAY_INT_INDEX_SCALE", type := .int, accessFlags := 25, slot := 6, constantValue := 0 }, { name := "LOG2_ARRAY_LONG_INDEX_SCALE", type := .int, accessFlags := 25, slot := 7, constantValue := 0 }, { name := "LOG2_ARRAY_FLOAT_INDEX_SCALE", type := .int, accessFlags := 25, slot := 8, constantValue := 0 }, { name := "LOG2_ARRAY_DOUBLE_INDEX_SCALE", type := .int, accessFlags := 25, slot := 9, constantValue := 0 }, { name := "LOG2_BYTE_BIT_SIZE", type := .int, accessFlags := 26, slot := 10, constantValue := 0 }, { name := "T_BOOLEAN", type := .int, accessFlags := 25, slot := 11, constantValue := 0 }, { name := "T_CHAR", type := .int, accessFlags := 25, slot := 12, constantValue := 0 }, { name := "T_FLOAT", type := .int, accessFlags := 25, slot := 13, constantValue := 0 }, { name := "T_DOUBLE", type := .int, accessFlags := 25, slot := 14, constantValue := 0 }, { name := "T_BYTE", type := .int, accessFlags := 25, slot := 15, constantValue := 0 }, { name := "T_SHORT", type := .int, accessFlags := 25, slot := 16, constantValue := 0 }, { name := "T_INT", type := .int, accessFlags := 25, slot := 17, constantValue := 0 }, { name := "T_LONG", type := .int, accessFlags := 25, slot := 18, constantValue := 0 }, { name := "JLA", type := (.object "jdk/internal/access/JavaLangAccess"), accessFlags := 26, slot := 19, constantValue := 0 }, { name := "SOFT_MAX_ARRAY_LENGTH", type := .int, accessFlags := 25, slot := 20, constantValue := 0 }]
  methods := #[k14m0]
  instanceTypes := #[]
  staticTypes := #[(.object "jdk/internal/misc/Unsafe"), .boolean, .int, .int, .int, .int, .int, .int, .int, .int, .int, .int, .int, .int, .int, .int, .int, .int, .int, (.object "jdk/internal/access/JavaLangAccess"), .int]
  resolved := Array.replicate 378 none
  statics := none }

def pool15 : Array CpInfo := pool [(1, u "java/lang/Cloneable"), (0, .class_ 1), (0, u "java/lang/Object"), (0, .class_ 3)] 3

/-- java/lang/Cloneable -/
def k15 : Class := { plain "java/lang/Cloneable" (some 0) with
  accessFlags := 1537
  interfaces := #[]
  cf := some (fileOf pool15 2 #[] #[] 1537 4 #[] #[])
  fields := #[]
  methods := #[]
  instanceTypes := #[]
  staticTypes := #[]
  resolved := Array.replicate 8 none
  statics := none }

/-- the primitive byte -/
def k16 : Class := { plain "byte" none with kind := .primitive 'B', accessFlags := 0x411 }
/-- [B -/
def k17 : Class := { plain "[B" (some 0) with kind := .array 16 .byte, interfaces := #[15, 4], accessFlags := 1041 }

/-- the primitive char -/
def k18 : Class := { plain "char" none with kind := .primitive 'C', accessFlags := 0x411 }
/-- [C -/
def k19 : Class := { plain "[C" (some 0) with kind := .array 18 .char, interfaces := #[15, 4], accessFlags := 1041 }

/-- the primitive int -/
def k20 : Class := { plain "int" none with kind := .primitive 'I', accessFlags := 0x411 }
/-- [I -/
def k21 : Class := { plain "[I" (some 0) with kind := .array 20 .int, interfaces := #[15, 4], accessFlags := 1041 }

def heap : Heap := #[{ cls := 6, slots := #[.ref 3, .ref 4, .ref 5, .null], vm := .statics 6 },
  { cls := 9, slots := #[.long 0, .int 1, .null, .int 0, .null, .int 0, .int 0], vm := .statics 9 },
  { cls := 13, slots := #[.null, .null, .null], vm := .statics 13 },
  { cls := 6, slots := #[.null, .int 0, .int 0], vm := .none },
  { cls := 6, slots := #[.null, .int 1, .int 0], vm := .none },
  { cls := 6, slots := #[.null, .int 2, .int 0], vm := .none }]
def classes : Array Class := #[k0, k1, k2, k3, k4, k5, k6, k7, k8, k9, k10, k11, k12, k13, k14, k15, k16, k17, k18, k19, k20, k21]
def interned : List (Array UInt16 × Addr) := []
def slotsUsed : Nat := 23
def theMethod : MethodId := ⟨1, 2⟩
def args0 : Array Value := #[.int 1, .int 2, .int 3, .int 4]
def aboutOver (below : List Frame) : State where
  vm := { classes := classes, interned := interned.toArray }
  heap := heap
  slotsUsed := slotsUsed
  threads := #[{ frames := .invoking theMethod args0 :: below }]
def below0 : List Frame := [.native { method := ⟨0, 0⟩, args := #[] }]
def about1 : State := aboutOver below0
def p0 : Program := .bare "" "" ""
def e0 : Env := launch0.env 0 0 0
theorem w_frames : about1.frames = Frame.invoking theMethod args0 :: below0 := rfl
set_option maxRecDepth 65536 in
theorem w_args : argsFit about1.vm theMethod args0 = true := by decide +kernel
set_option maxRecDepth 65536 in
theorem w_heap : heapFits about1 = true := by decide +kernel
set_option maxRecDepth 65536 in
theorem w_runnable : about1.curStatus? = some .runnable := by decide +kernel
set_option maxRecDepth 65536 in
theorem w_alone : about1.alone = true := by decide +kernel
set_option maxRecDepth 65536 in
theorem w_named : about1.methodNamed? x = some theMethod := by decide +kernel
set_option maxRecDepth 65536 in
theorem w_hears : about1.hears theMethod below0 = true := by decide +kernel
set_option maxRecDepth 65536 in
theorem w_ripe : about1.ripe theMethod args0 below0 = true := by decide +kernel
theorem w_running : about1.status = .running := rfl
set_option maxRecDepth 65536 in
theorem w_room : about1.hasRoom e0.platform room_1 = true :=
  launch0.hasRoom_least _ room_1 (by decide +kernel) (by decide +kernel) (by decide +kernel) (by decide +kernel) (by decide +kernel) (by decide +kernel)
theorem allAtoms_all (ts : List Jvm.Cond) (a : Array Jvm.Value) (st : Jvm.State) : (allAtoms ts).before a st = ts.all (fun c => c.before a st) := by
  induction ts with
  | nil => rfl
  | cons c t ih =>
    show (Jvm.Cond.and c (allAtoms t)).before a st = _
    rw [Jvm.Cond.before_and, ih, List.all_cons]
def words1 : List Jvm.Cond := Jvm.Cond.code x code maxLocals ret :: tables_1
/-- a 'code' word, met by the world's own term for the bytes: nothing is compared byte by byte -/
theorem code_word {y : MethodName} {bytes : ByteArray} {mx : Nat} {rt : Option FieldType} {a : Array Value} {s : State} {m : MethodId} {meth : Method} {c : Code} (h1 : s.methodNamed? y = some m) (h2 : s.vm.method? m = some meth) (h3 : meth.code = some c) (h4 : c.code = bytes)
    (h5 : (c.maxLocals == mx && c.exceptionTable.isEmpty && decide (c.maxStack ≤ mostOperands) && decide (meth.sig.returnType = rt) && !meth.locks && decide (parseMethodDescriptor y.desc = some meth.sig)) = true) : (Jvm.Cond.code y bytes mx rt).before a s = true := by
  simp only [Bool.and_eq_true, beq_iff_eq, Bool.not_eq_true', decide_eq_true_eq] at h5
  obtain ⟨⟨⟨⟨⟨g1, g2⟩, g3⟩, g4⟩, g5⟩, g6⟩ := h5
  simp [Cond.before, Cond.holds, Cond.value, h1, h2, h3, h4, g1, g2, g3, g4, g5, g6]
def isCode : Jvm.Cond → Bool
  | .code _ _ _ _ => true
  | _ => false
theorem all_split {L : List Jvm.Cond} {P : Jvm.Cond → Bool} (h1 : L.all (fun c => isCode c || P c) = true) (h2 : ∀ c ∈ L.filter isCode, P c = true) : L.all P = true := by
  refine List.all_eq_true.mpr fun c hc => ?_
  have h := List.all_eq_true.mp h1 c hc
  rcases Bool.eq_false_or_eq_true (isCode c) with hi | hi
  · exact h2 c (List.mem_filter.mpr ⟨hc, hi⟩)
  · simpa [hi] using h
set_option maxRecDepth 65536 in
theorem w_c0 : (Jvm.Cond.code x code maxLocals ret).before args0 about1 = true := code_word (m := ⟨1, 2⟩) (meth := k1m2) (c := k1c2) (by decide +kernel) rfl rfl rfl (by decide +kernel)
set_option maxRecDepth 65536 in
theorem w_c1 : (Jvm.Cond.code ({ cls := "com/example/graf/graf/routes/MatchIsLogoutPinLaw", name := "kindOf", desc := "(I)Lcom/example/graf/graf/routes/RouteKind;" } : Jvm.MethodName) method_2_code (1 : Nat) (Option.some (Jvm.ClassFile.FieldType.object "com/example/graf/graf/routes/RouteKind"))).before args0 about1 = true := code_word (m := ⟨1, 1⟩) (meth := k1m1) (c := k1c1) (by decide +kernel) rfl rfl rfl (by decide +kernel)
set_option maxRecDepth 65536 in
theorem w_c2 : (Jvm.Cond.code ({ cls := "java/lang/String", name := "<init>", desc := "([C)V" } : Jvm.MethodName) jdk_42_method_3_code (2 : Nat) (Option.none : Option Jvm.ClassFile.FieldType)).before args0 about1 = true := code_word (m := ⟨9, 1⟩) (meth := k9m1) (c := k9c1) (by decide +kernel) rfl rfl rfl (by decide +kernel)
set_option maxRecDepth 65536 in
theorem w_c3 : (Jvm.Cond.code ({ cls := "java/lang/String", name := "<init>", desc := "([CIILjava/lang/Void;)V" } : Jvm.MethodName) jdk_42_method_149_code (6 : Nat) (Option.none : Option Jvm.ClassFile.FieldType)).before args0 about1 = true := code_word (m := ⟨9, 2⟩) (meth := k9m2) (c := k9c2) (by decide +kernel) rfl rfl rfl (by decide +kernel)
set_option maxRecDepth 65536 in
theorem w_c4 : (Jvm.Cond.code ({ cls := "java/lang/Object", name := "<init>", desc := "()V" } : Jvm.MethodName) object_method_1_code (1 : Nat) (Option.none : Option Jvm.ClassFile.FieldType)).before args0 about1 = true := code_word (m := ⟨0, 0⟩) (meth := k0m0) (c := k0c0) (by decide +kernel) rfl rfl rfl (by decide +kernel)
set_option maxRecDepth 65536 in
theorem w_c5 : (Jvm.Cond.code ({ cls := "java/lang/StringUTF16", name := "compress", desc := "([CII)[B" } : Jvm.MethodName) jdk_52_method_16_code (6 : Nat) (Option.some (Jvm.ClassFile.FieldType.array Jvm.ClassFile.FieldType.byte))).before args0 about1 = true := code_word (m := ⟨10, 2⟩) (meth := k10m2) (c := k10c2) (by decide +kernel) rfl rfl rfl (by decide +kernel)
set_option maxRecDepth 65536 in
theorem w_c6 : (Jvm.Cond.code ({ cls := "java/lang/StringUTF16", name := "compress", desc := "([CI[BII)I" } : Jvm.MethodName) jdk_52_method_21_code (7 : Nat) (Option.some Jvm.ClassFile.FieldType.int)).before args0 about1 = true := code_word (m := ⟨10, 3⟩) (meth := k10m3) (c := k10c3) (by decide +kernel) rfl rfl rfl (by decide +kernel)
set_option maxRecDepth 65536 in
theorem w_c7 : (Jvm.Cond.code ({ cls := "java/lang/StringUTF16", name := "coderFromArrayLen", desc := "([BI)B" } : Jvm.MethodName) jdk_52_method_15_code (2 : Nat) (Option.some Jvm.ClassFile.FieldType.byte)).before args0 about1 = true := code_word (m := ⟨10, 1⟩) (meth := k10m1) (c := k10c1) (by decide +kernel) rfl rfl rfl (by decide +kernel)
set_option maxRecDepth 65536 in
theorem w_c8 : (Jvm.Cond.code ({ cls := "com/example/graf/graf/routes/Match", name := "<init>", desc := "(Ljava/lang/String;Lcom/example/graf/graf/routes/RouteKind;)V" } : Jvm.MethodName) prog_19_method_1_code (3 : Nat) (Option.none : Option Jvm.ClassFile.FieldType)).before args0 about1 = true := code_word (m := ⟨11, 0⟩) (meth := k11m0) (c := k11c0) (by decide +kernel) rfl rfl rfl (by decide +kernel)
set_option maxRecDepth 65536 in
theorem w_c9 : (Jvm.Cond.code ({ cls := "com/example/graf/graf/routes/Match", name := "isLogout", desc := "()Z" } : Jvm.MethodName) prog_19_method_4_code (1 : Nat) (Option.some Jvm.ClassFile.FieldType.boolean)).before args0 about1 = true := code_word (m := ⟨11, 1⟩) (meth := k11m1) (c := k11c1) (by decide +kernel) rfl rfl rfl (by decide +kernel)
def codes1 : List Jvm.Cond := [Jvm.Cond.code x code maxLocals ret, Jvm.Cond.code ({ cls := "com/example/graf/graf/routes/MatchIsLogoutPinLaw", name := "kindOf", desc := "(I)Lcom/example/graf/graf/routes/RouteKind;" } : Jvm.MethodName) method_2_code (1 : Nat) (Option.some (Jvm.ClassFile.FieldType.object "com/example/graf/graf/routes/RouteKind")), Jvm.Cond.code ({ cls := "java/lang/String", name := "<init>", desc := "([C)V" } : Jvm.MethodName) jdk_42_method_3_code (2 : Nat) (Option.none : Option Jvm.ClassFile.FieldType), Jvm.Cond.code ({ cls := "java/lang/String", name := "<init>", desc := "([CIILjava/lang/Void;)V" } : Jvm.MethodName) jdk_42_method_149_code (6 : Nat) (Option.none : Option Jvm.ClassFile.FieldType), Jvm.Cond.code ({ cls := "java/lang/Object", name := "<init>", desc := "()V" } : Jvm.MethodName) object_method_1_code (1 : Nat) (Option.none : Option Jvm.ClassFile.FieldType), Jvm.Cond.code ({ cls := "java/lang/StringUTF16", name := "compress", desc := "([CII)[B" } : Jvm.MethodName) jdk_52_method_16_code (6 : Nat) (Option.some (Jvm.ClassFile.FieldType.array Jvm.ClassFile.FieldType.byte)), Jvm.Cond.code ({ cls := "java/lang/StringUTF16", name := "compress", desc := "([CI[BII)I" } : Jvm.MethodName) jdk_52_method_21_code (7 : Nat) (Option.some Jvm.ClassFile.FieldType.int), Jvm.Cond.code ({ cls := "java/lang/StringUTF16", name := "coderFromArrayLen", desc := "([BI)B" } : Jvm.MethodName) jdk_52_method_15_code (2 : Nat) (Option.some Jvm.ClassFile.FieldType.byte), Jvm.Cond.code ({ cls := "com/example/graf/graf/routes/Match", name := "<init>", desc := "(Ljava/lang/String;Lcom/example/graf/graf/routes/RouteKind;)V" } : Jvm.MethodName) prog_19_method_1_code (3 : Nat) (Option.none : Option Jvm.ClassFile.FieldType), Jvm.Cond.code ({ cls := "com/example/graf/graf/routes/Match", name := "isLogout", desc := "()Z" } : Jvm.MethodName) prog_19_method_4_code (1 : Nat) (Option.some Jvm.ClassFile.FieldType.boolean)]
set_option maxRecDepth 65536 in
theorem codes_eq : words1.filter isCode = codes1 := rfl
theorem w_codes : ∀ c ∈ words1.filter isCode, c.before args0 about1 = true := by
  rw [codes_eq]
  intro c hc
  simp only [codes1, List.mem_cons, List.not_mem_nil, or_false] at hc
  rcases hc with rfl | rfl | rfl | rfl | rfl | rfl | rfl | rfl | rfl | rfl
  · exact w_c0
  · exact w_c1
  · exact w_c2
  · exact w_c3
  · exact w_c4
  · exact w_c5
  · exact w_c6
  · exact w_c7
  · exact w_c8
  · exact w_c9
set_option maxRecDepth 65536 in
theorem w_t1 : (words1.take 24).all (fun c => isCode c || c.before args0 about1) = true := by decide +kernel
set_option maxRecDepth 65536 in
theorem w_t2 : ((words1.drop 24).take 24).all (fun c => isCode c || c.before args0 about1) = true := by decide +kernel
set_option maxRecDepth 65536 in
theorem w_t3 : ((words1.drop 24).drop 24).all (fun c => isCode c || c.before args0 about1) = true := by decide +kernel
theorem w_tables : (allAtoms (Jvm.Cond.code x code maxLocals ret :: tables_1)).before args0 about1 = true := by
  rw [allAtoms_all]
  show words1.all (fun c => c.before args0 about1) = true
  refine all_split ?_ w_codes
  rw [← List.take_append_drop 24 words1, List.all_append, w_t1, ← List.take_append_drop 24 (words1.drop 24), List.all_append, w_t2, w_t3]
  rfl
set_option maxRecDepth 65536 in
theorem w_rest : rest_1_c.before args0 about1 = true := by decide +kernel
set_option maxRecDepth 65536 in
theorem w_case : (Jvm.Cond.and given_1 narrow_1).before args0 about1 = true := by decide +kernel
theorem w_applies : (headSpec (Jvm.Cond.code x code maxLocals ret :: tables_1) room_1).applies x e0.platform about1 = true :=
  (Spec.applies_iff w_frames).mpr ⟨w_running, w_runnable, w_alone, w_named, w_hears, w_ripe, w_room, w_tables⟩
theorem atStart : AtStart classFile x code maxLocals ret World_1 tables_1 room_1 Calls_1 rest_1 Pre_1 launch0 p0 e0 about1 theMethod args0 below0 :=
  ⟨lists_1, trivial, launch0.admits_env _ _ _, launch0.least_env, fairChoices_fair.cas, fairChoices_fair.clock, w_frames, w_args, w_heap, w_applies, trivial, w_rest, w_case⟩
end start1
theorem witness_1 : WitnessClaimed_1 := ⟨start1.p0, start1.e0, start1.about1, start1.theMethod, start1.args0, start1.below0, start1.atStart⟩
end Jvm.Pilot.@@N@@
