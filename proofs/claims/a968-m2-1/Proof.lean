import JvmDerived
import JvmDerived.Pilot.@@N@@Statement
import JvmDerived.Pilot.@@N@@Code
set_option linter.unusedVariables false
set_option linter.unusedSimpArgs false
namespace Jvm.OwnGo
open Jvm Jvm.ClassFile Sem Op Lib Jvm.Free Jvm.Stand Jvm.LawKit Jvm.RoadKit
section Own
variable {p : Program} {l : Launch} {e : Env} {R : Room} {s : State} {m : MethodId} {args : Array Value} {below : List Frame} {meth : Method} {c : Code} {T : State} {locs : List Loc} {cells slots : Nat} {Q : Option Value → Heap → List Loc → Prop} {C N : Nat}
/-- from A on the run comes to its return, and what it returns and leaves is as Q says -/
def Go (p : Program) (e : Env) (below : List Frame) (s : State) (Q : Option Value → Heap → List Loc → Prop) (C N : Nat) (A : State) : Prop :=
  ∃ s₂ o, Steps p.tables e below A s₂ ∧ s₂.status = .running ∧ Ended s₂ below o ∧ ∃ v L, o = .returned v ∧ Q v s₂.heap L ∧ FrameEnd s o s₂ L C N
theorem Go.st {A B : State} (h : ∀ t, Steps p.tables e below B t → Steps p.tables e below A t) (k : Go p e below s Q C N B) : Go p e below s Q C N A := by
  obtain ⟨s₂, o, h1, r⟩ := k
  exact ⟨s₂, o, h _ h1, r⟩
theorem Go.tr {A B : State} (h : Steps p.tables e below A B) (k : Go p e below s Q C N B) : Go p e below s Q C N A := k.st fun _ q => h.trans q
theorem Go.retI (X : Stand p l e R s m args below meth c T locs cells slots) (hx : p.tables.exec = Jvm.exec) (hlk : meth.locks = false) (hret : meth.sig.returnType = some .int) {pc : Nat} {Ls : Array Slot} {z : Int32} {rest : List Value} (hd : decode c.code pc = .ok (.ireturn, 1))
    (q : Q (some (.int z)) T.heap locs) (hc : cells ≤ C) (hn : slots ≤ N) : Go p e below s Q C N (T.setTop (mkF m pc Ls (.int z :: rest))) := by
  obtain ⟨fs, hr, hrun, hended, hW, hsame⟩ := X.leave (v := some (.int z)) (fun h => by rw [hret] at h; cases h) hlk
  exact ⟨_, _, retOut X hx hret rfl (Or.inl ⟨rfl, Or.inl rfl, _, rfl⟩) hd hr, hrun, hended, _, _, rfl, q, ⟨_, rfl⟩, hW, hsame.mono hc hn⟩
theorem Go.retN (X : Stand p l e R s m args below meth c T locs cells slots) (hx : p.tables.exec = Jvm.exec) (hlk : meth.locks = false) {t : FieldType} (ht : t = .boolean ∨ t = .byte ∨ t = .char ∨ t = .short) (hret : meth.sig.returnType = some t) {pc : Nat} {Ls : Array Slot} {z z' : Int32} {rest : List Value} (hd : decode c.code pc = .ok (.ireturn, 1))
    (hz : nar t z = z') (q : Q (some (.int z')) T.heap locs) (hc : cells ≤ C) (hn : slots ≤ N) : Go p e below s Q C N (T.setTop (mkF m pc Ls (.int z :: rest))) := by
  subst hz
  obtain ⟨fs, hr, hrun, hended, hW, hsame⟩ := X.leave (v := some (.int (nar t z))) (fun h => by rw [hret] at h; cases h) hlk
  exact ⟨_, _, Jvm.RoadKit.retN X hx hret ht hd hr, hrun, hended, _, _, rfl, q, ⟨_, rfl⟩, hW, hsame.mono hc hn⟩
theorem Go.retJ (X : Stand p l e R s m args below meth c T locs cells slots) (hx : p.tables.exec = Jvm.exec) (hlk : meth.locks = false) (hret : meth.sig.returnType = some .long) {pc : Nat} {Ls : Array Slot} {z : Int64} {rest : List Value} (hd : decode c.code pc = .ok (.lreturn, 1))
    (q : Q (some (.long z)) T.heap locs) (hc : cells ≤ C) (hn : slots ≤ N) : Go p e below s Q C N (T.setTop (mkF m pc Ls (.long z :: rest))) := by
  obtain ⟨fs, hr, hrun, hended, hW, hsame⟩ := X.leave (v := some (.long z)) (fun h => by rw [hret] at h; cases h) hlk
  exact ⟨_, _, retOut X hx hret rfl (Or.inr (Or.inl ⟨rfl, rfl, _, rfl⟩)) hd hr, hrun, hended, _, _, rfl, q, ⟨_, rfl⟩, hW, hsame.mono hc hn⟩
theorem nar_ref {t : FieldType} {w : Value} (hw : w.isRef = true) : narrow t w = w := by
  cases t <;> cases w <;> first | rfl | (simp [Value.isRef] at hw)
theorem Go.retA (X : Stand p l e R s m args below meth c T locs cells slots) (hx : p.tables.exec = Jvm.exec) (hlk : meth.locks = false) {t : FieldType} (ht : t.isReference = true) (hret : meth.sig.returnType = some t) {pc : Nat} {Ls : Array Slot} {w : Value} {rest : List Value} (hw : w.isRef = true) (hd : decode c.code pc = .ok (.areturn, 1))
    (q : Q (some w) T.heap locs) (hc : cells ≤ C) (hn : slots ≤ N) : Go p e below s Q C N (T.setTop (mkF m pc Ls (w :: rest))) := by
  obtain ⟨fs, hr, hrun, hended, hW, hsame⟩ := X.leave (v := some w) (fun h => by rw [hret] at h; cases h) hlk
  exact ⟨_, _, retOut X hx hret (nar_ref hw) (Or.inr (Or.inr (Or.inr (Or.inr ⟨rfl, ht, hw⟩)))) hd hr, hrun, hended, _, _, rfl, q, ⟨_, rfl⟩, hW, hsame.mono hc hn⟩
theorem Go.retV (X : Stand p l e R s m args below meth c T locs cells slots) (hx : p.tables.exec = Jvm.exec) (hlk : meth.locks = false) (hret : meth.sig.returnType = none) {pc : Nat} {Ls : Array Slot} (hd : decode c.code pc = .ok (.return_, 1))
    (q : Q none T.heap locs) (hc : cells ≤ C) (hn : slots ≤ N) : Go p e below s Q C N (T.setTop (mkF m pc Ls [])) := by
  obtain ⟨fs, hr, hrun, hended, hW, hsame⟩ := X.leave (v := none) (fun _ => rfl) hlk
  exact ⟨_, _, X.returnOut hx hret hd hr, hrun, hended, _, _, rfl, q, ⟨_, rfl⟩, hW, hsame.mono hc hn⟩
theorem up {k n : Nat} (X : Stand p l e R s m args below meth c T locs cells slots) (hc : cells ≤ k) (hn : slots ≤ n) : Stand p l e R s m args below meth c T locs k n := { X with same := X.same.mono hc hn }
end Own
/-- a fact that the arithmetic leaves alone till it is opened -/
def Hid (P : Prop) : Prop := P
section Num
variable {x y : Int32} {u v : Int64} {a b : Int}
theorem ltI (ha : x.toInt = a) (hb : y.toInt = b) (h : a < b) : x < y := by rw [Int32.lt_iff_toInt_lt, ha, hb]; exact h
theorem nltI (ha : x.toInt = a) (hb : y.toInt = b) (h : ¬ a < b) : ¬ x < y := by rw [Int32.lt_iff_toInt_lt, ha, hb]; exact h
theorem eqI (ha : x.toInt = a) (hb : y.toInt = b) (h : a = b) : x = y := Int32.toInt_inj.mp (by rw [ha, hb]; exact h)
theorem neI (ha : x.toInt = a) (hb : y.toInt = b) (h : ¬ a = b) : ¬ x = y := fun q => h (by rw [← ha, ← hb, q])
theorem ltJ (ha : u.toInt = a) (hb : v.toInt = b) (h : a < b) : u < v := by rw [Int64.lt_iff_toInt_lt, ha, hb]; exact h
theorem nltJ (ha : u.toInt = a) (hb : v.toInt = b) (h : ¬ a < b) : ¬ u < v := by rw [Int64.lt_iff_toInt_lt, ha, hb]; exact h
theorem eqJ (ha : u.toInt = a) (hb : v.toInt = b) (h : a = b) : u = v := Int64.toInt_inj.mp (by rw [ha, hb]; exact h)
theorem neJ (ha : u.toInt = a) (hb : v.toInt = b) (h : ¬ a = b) : ¬ u = v := fun q => h (by rw [← ha, ← hb, q])
theorem bool_nar (h : x.toInt = 0 ∨ x.toInt = 1) : nar .boolean x = x := by
  rcases h with h | h
  · rw [Int32.toInt_inj.mp (h.trans (by decide : (0 : Int) = (0 : Int32).toInt))]; decide
  · rw [Int32.toInt_inj.mp (h.trans (by decide : (1 : Int) = (1 : Int32).toInt))]; decide
end Num
section Words
variable {Z : State} {args : Array Value} {t : Term} {C n d : String} {a : Addr}
theorem fld_int {k : Int32} (ht : t.eval args Z none [] Z = some (.ref a)) (h : (Cond.eq (Term.field t C n d) (Term.int k)).value args Z none Z [] = some true) : Fld Z Z.heap a C n d (.int k) := by
  obtain ⟨u, v, e1, e2, k1, k2⟩ := cmp_v (Or.inl h)
  have e3 : v = .int k := Option.some.inj (e2.symm.trans (Term.int_eval k))
  subst e3
  obtain ⟨w, rfl⟩ : ∃ w, u = .int w := k2
  have q := gotT (Cond.eq_ints e1 (Term.int_eval k)) h
  subst q
  exact Fld.start (by rw [← fld_at (args := args) (first := Z) (o := none) (idx := []) ht]; exact e1)
theorem sta_long {k : Int64} (h : (Cond.eq (Term.static C n d) (Term.long k)).value args Z none Z [] = some true) : (Term.static C n d).eval args Z none [] Z = some (.long k) := by
  obtain ⟨u, v, e1, e2, k1, k2⟩ := cmp_v (Or.inl h)
  have e3 : v = .long k := Option.some.inj (e2.symm.trans rfl)
  subst e3
  obtain ⟨w, rfl⟩ : ∃ w, u = .long w := k2
  have q := gotT (eq_L (y := k) e1 rfl) h
  subst q
  exact e1
theorem sta_int {k : Int32} (h : (Cond.eq (Term.static C n d) (Term.int k)).value args Z none Z [] = some true) : (Term.static C n d).eval args Z none [] Z = some (.int k) := by
  obtain ⟨u, v, e1, e2, k1, k2⟩ := cmp_v (Or.inl h)
  have e3 : v = .int k := Option.some.inj (e2.symm.trans rfl)
  subst e3
  obtain ⟨w, rfl⟩ : ∃ w, u = .int w := k2
  have q := gotT (Cond.eq_ints e1 (Term.int_eval k)) h
  subst q
  exact e1
/-- a cell that is no class's statics -/
def Exi (h : Heap) (x : Addr) : Prop := ∃ c : Cell, h[x]? = some c ∧ c.vm.isStatics = false
theorem exi_exa {h : Heap} (F : Exa Z h a C) : Exi h a := by obtain ⟨c, k, h1, -, -, h4, -⟩ := F; exact ⟨c, h1, h4⟩
theorem sta_keep {h h' : Heap} {v : Value} {ws : List Addr} (F : Sta Z h C n d v) (K : Keep h h' ws) (q : ∀ x ∈ ws, Exi h x) : Sta Z h' C n d v := by
  obtain ⟨cf, i, k, f, st, cell, h1, h2, h3, h4, h5, h6, h7⟩ := F
  refine ⟨cf, i, k, f, st, cell, h1, h2, h3, h4, K.2.1 st cell h5 (fun hm => ?_), h6, h7⟩
  obtain ⟨c, e1, e2⟩ := q st hm
  cases h5.symm.trans e1
  rw [h6] at e2; cases e2
theorem self_sel {s : State} {as as' : Array Value} {y z : MethodName} (hs : (Cond.selects C z z).before as s = true) (hc : z.cls = y.cls) (hp : s.PrivateAt y) (hi : (Cond.instanceMethod y).before as' s = true) (hy : y.cls ≠ "java/lang/invoke/MethodHandle" ∧ y.cls ≠ "java/lang/invoke/VarHandle") : (Cond.selects y.cls y y).before as' s = true := by
  obtain ⟨c, r, m, h1, h2, h3, h4, mk, h5, h6⟩ := Cond.selects_spec hs
  exact selects_self_of_private (hc ▸ findClass_of_methodNamed h3) h5 h6 hp hi hy
end Words
end Jvm.OwnGo
namespace Jvm.OwnGo
open Jvm Jvm.ClassFile Sem Op Lib Jvm.Free Jvm.Stand Jvm.LawKit Jvm.RoadKit
section Vecs
variable {p : Program} {l : Launch} {e : Env} {R : Room} {s : State} {m : MethodId} {args : Array Value} {below : List Frame} {meth : Method} {c : Code} {T : State} {locs : List Loc} {cells slots : Nat} {Z : State} {h h' : Heap} {a b : Addr} {ty : FieldType} {n j x : Int32} {y : Int64} {f : Nat → Value} {v : Value} {sl : Nat} {ws : List Addr}
/-- an array at a, of length n, whose i-th place holds f i -/
def Vec (Z : State) (h : Heap) (a : Addr) (ty : FieldType) (n : Int32) (f : Nat → Value) : Prop := ∃ c : Cell, Arr Z h a c ty ∧ c.slots.size = n.toInt.toNat ∧ 0 ≤ n.toInt ∧ ∀ i : Nat, (i : Int) < n.toInt → c.slots[i]? = some (f i)
def ints (f : Nat → Int32) : Nat → Value := fun i => .int (f i)
def longs (f : Nat → Int64) : Nat → Value := fun i => .long (f i)
def updF {α : Type} (f : Nat → α) (k : Nat) (v : α) : Nat → α := fun i => if i = k then v else f i
theorem upd_same {α : Type} (f : Nat → α) (k : Nat) (v : α) : updF f k v k = v := if_pos rfl
theorem upd_ne {α : Type} (f : Nat → α) {k i : Nat} (v : α) (q : i ≠ k) : updF f k v i = f i := if_neg q
def lst {α : Type} [Inhabited α] (l : List α) : Nat → α := fun i => l.getD i default
theorem upd_lst {α : Type} [Inhabited α] (l : List α) (k : Nat) (v : α) (hk : k < l.length) : updF (lst l) k v = lst (l.set k v) := by
  funext i
  simp only [updF, lst, List.getD_eq_getElem?_getD, List.getElem?_set]
  by_cases q : i = k
  · subst q; simp [hk]
  · simp [q, Ne.symm q]
theorem upd_ints (f : Nat → Int32) (k : Nat) (v : Int32) : updF (ints f) k (.int v) = ints (updF f k v) := by
  funext i; simp only [updF, ints]; split <;> rfl
theorem upd_longs (f : Nat → Int64) (k : Nat) (v : Int64) : updF (longs f) k (.long v) = longs (updF f k v) := by
  funext i; simp only [updF, longs]; split <;> rfl
theorem Vec.lt (F : Vec Z h a ty n f) : a < h.size := by obtain ⟨c, A, -⟩ := F; exact A.lt
theorem Vec.ext (E : Ext h h') (F : Vec Z h a ty n f) : Vec Z h' a ty n f := by obtain ⟨c, A, r⟩ := F; exact ⟨c, A.ext E, r⟩
theorem Vec.other (W : Wr h h' b sl v) (F : Vec Z h a ty n f) (q : a ≠ b) : Vec Z h' a ty n f := by obtain ⟨c, A, r⟩ := F; exact ⟨c, A.other W q, r⟩
theorem Vec.keep (F : Vec Z h a ty n f) (K : Keep h h' ws) (q : a ∉ ws) : Vec Z h' a ty n f := by obtain ⟨c, A, r⟩ := F; exact ⟨c, ⟨K.2.1 a c A.1 q, A.2⟩, r⟩
theorem exi_vec (F : Vec Z h a ty n f) : Exi h a := by obtain ⟨c, A, -⟩ := F; exact ⟨c, A.1, A.plain⟩
theorem nat_cl (j : Int32) : j.toNatClampNeg = j.toInt.toNat := rfl
theorem not_neg (q : 0 ≤ j.toInt) : ¬ j < 0 := by
  have z : (0 : Int32).toInt = 0 := by decide
  rw [Int32.lt_iff_toInt_lt, z]; omega
theorem of_neg (q : ¬ j < 0) : 0 ≤ j.toInt := by
  have z : (0 : Int32).toInt = 0 := by decide
  rw [Int32.lt_iff_toInt_lt, z] at q; omega
theorem inb {k : Nat} (q : k = n.toInt.toNat) (h1 : 0 ≤ j.toInt) (h2 : j.toInt < n.toInt) : ¬ (j < 0 ∨ k ≤ j.toNatClampNeg) := by
  rintro (w | w)
  · exact not_neg h1 w
  · rw [nat_cl, q] at w; omega
theorem Vec.new {k : ClassId} (A : Arr Z h a (newA k ty n) ty) (q : 0 ≤ n.toInt) : Vec Z h a ty n (fun _ => defaultValue ty) := by
  refine ⟨_, A, sz_new _ _ _, q, fun i hi => ?_⟩
  have hi' : i < n.toNatClampNeg := by rw [nat_cl]; omega
  simp [newA, hi']
theorem Vec.of {f' : Nat → Value} (F : Vec Z h a ty n f) (q : ∀ i : Nat, (i : Int) < n.toInt → f i = f' i) : Vec Z h a ty n f' := by
  obtain ⟨c, A, h1, h2, h3⟩ := F
  exact ⟨c, A, h1, h2, fun i hi => by rw [← q i hi]; exact h3 i hi⟩
theorem Vec.of_eq {f' : Nat → Value} (F : Vec Z h a ty n f) (q : f = f') : Vec Z h a ty n f' := q ▸ F
theorem rep_z : ∀ (k i : Nat), (List.replicate k (0 : Int32)).getD i default = 0
  | 0, _ => rfl
  | _ + 1, 0 => rfl
  | k + 1, i + 1 => rep_z k i
theorem rep_zL : ∀ (k i : Nat), (List.replicate k (0 : Int64)).getD i default = 0
  | 0, _ => rfl
  | _ + 1, 0 => rfl
  | k + 1, i + 1 => rep_zL k i
theorem Vec.zerosI (k : Nat) (F : Vec Z h a ty n (fun _ => .int 0)) : Vec Z h a ty n (ints (lst (List.replicate k (0 : Int32)))) := F.of fun i _ => congrArg Value.int (rep_z k i).symm
theorem Vec.zerosJ (k : Nat) (F : Vec Z h a ty n (fun _ => .long 0)) : Vec Z h a ty n (longs (lst (List.replicate k (0 : Int64)))) := F.of fun i _ => congrArg Value.long (rep_zL k i).symm
theorem Vec.set {k : Nat} (F : Vec Z h a ty n f) (W : Wr h h' a k v) : Vec Z h' a ty n (updF f k v) := by
  obtain ⟨c, A, h1, h2, h3⟩ := F
  refine ⟨_, A.same W, by rw [sz_set]; exact h1, h2, fun i hi => ?_⟩
  by_cases q : i = k
  · subst q
    have hi' : i < c.slots.size := by rw [h1]; omega
    simp [Cell.setSlot, updF, hi']
  · rw [upd_ne f v q, ← h3 i hi]
    exact Array.getElem?_setIfInBounds_ne (Ne.symm q)
theorem Vec.len (X : Stand p l e R s m args below meth c T locs cells slots) (hx : p.tables.exec = Jvm.exec) (hZ : Z.Warmed39 s.vm) (eT : T.heap = h) (F : Vec Z h a ty n f) {g : JFrame} (hg : g.method = m) {rest : List Value} (hs : g.stack = .ref a :: rest) (hd : decode c.code g.pc = .ok (.arraylength, 1)) :
    ∀ t, Steps p.tables e below (T.setTop { g with pc := g.pc + 1, stack := .int n :: rest }) t → Steps p.tables e below (T.setTop g) t := by
  obtain ⟨cl, A, h1, h2, h3⟩ := F
  intro t k
  refine X.arraylength hx (by rw [eT]; exact A.1) (State.isArrayOf_alike hZ.alike A.2.1) hg hs hd _ ?_
  rw [len_of h1 (not_neg h2)]
  exact k
theorem Vec.ildI {f : Nat → Int32} (X : Stand p l e R s m args below meth c T locs cells slots) (hx : p.tables.exec = Jvm.exec) (hZ : Z.Warmed39 s.vm) (eT : T.heap = h) (F : Vec Z h a .int n (ints f)) (h1 : 0 ≤ j.toInt) (h2 : j.toInt < n.toInt) {g : JFrame} (hg : g.method = m) {rest : List Value} (hs : g.stack = .int j :: .ref a :: rest) (hd : decode c.code g.pc = .ok (.iaload, 1)) :
    ∀ t, Steps p.tables e below (T.setTop { g with pc := g.pc + 1, stack := .int (f j.toInt.toNat) :: rest }) t → Steps p.tables e below (T.setTop g) t := by
  obtain ⟨cl, A, q1, q2, q3⟩ := F
  exact X.iaload hx (j := j) (v := .int (f j.toInt.toNat)) (by rw [eT]; exact A.1) (State.isArrayOf_alike hZ.alike A.2.1) A.2.2 (inb q1 h1 h2) (q3 j.toInt.toNat (by omega)) hg hs hd
theorem Vec.ildB {f : Nat → Int32} (X : Stand p l e R s m args below meth c T locs cells slots) (hx : p.tables.exec = Jvm.exec) (hZ : Z.Warmed39 s.vm) (eT : T.heap = h) (F : Vec Z h a .byte n (ints f)) (h1 : 0 ≤ j.toInt) (h2 : j.toInt < n.toInt) {g : JFrame} (hg : g.method = m) {rest : List Value} (hs : g.stack = .int j :: .ref a :: rest) (hd : decode c.code g.pc = .ok (.baload, 1)) :
    ∀ t, Steps p.tables e below (T.setTop { g with pc := g.pc + 1, stack := .int (f j.toInt.toNat) :: rest }) t → Steps p.tables e below (T.setTop g) t := by
  obtain ⟨cl, A, q1, q2, q3⟩ := F
  exact X.baloadBytes hx (j := j) (v := .int (f j.toInt.toNat)) (by rw [eT]; exact A.1) (State.isArrayOf_alike hZ.alike A.2.1) A.2.2 (inb q1 h1 h2) (q3 j.toInt.toNat (by omega)) hg hs hd
theorem Vec.ildJ {f : Nat → Int64} (X : Stand p l e R s m args below meth c T locs cells slots) (hx : p.tables.exec = Jvm.exec) (hZ : Z.Warmed39 s.vm) (eT : T.heap = h) (F : Vec Z h a .long n (longs f)) (h1 : 0 ≤ j.toInt) (h2 : j.toInt < n.toInt) {g : JFrame} (hg : g.method = m) {rest : List Value} (hs : g.stack = .int j :: .ref a :: rest) (hd : decode c.code g.pc = .ok (.laload, 1)) :
    ∀ t, Steps p.tables e below (T.setTop { g with pc := g.pc + 1, stack := .long (f j.toInt.toNat) :: rest }) t → Steps p.tables e below (T.setTop g) t := by
  obtain ⟨cl, A, q1, q2, q3⟩ := F
  exact X.laload hx (j := j) (v := .long (f j.toInt.toNat)) (by rw [eT]; exact A.1) (State.isArrayOf_alike hZ.alike A.2.1) A.2.2 (inb q1 h1 h2) (q3 j.toInt.toNat (by omega)) hg hs hd
theorem Vec.istI {f : Nat → Int32} (X : Stand p l e R s m args below meth c T locs cells slots) (hx : p.tables.exec = Jvm.exec) (hZ : Z.Warmed39 s.vm) (eT : T.heap = h) (F : Vec Z h a .int n (ints f)) (h1 : 0 ≤ j.toInt) (h2 : j.toInt < n.toInt) {g : JFrame} (hg : g.method = m) {rest : List Value} (hs : g.stack = .int x :: .int j :: .ref a :: rest) (hd : decode c.code g.pc = .ok (.iastore, 1)) :
    ∃ T' h', Stand p l e R s m args below meth c T' (locs ++ [⟨a, j.toInt.toNat⟩]) cells slots ∧ T'.heap = h' ∧ Wr h h' a j.toInt.toNat (.int x) ∧ Vec Z h' a .int n (ints (updF f j.toInt.toNat x)) ∧ ∀ t, Steps p.tables e below (T'.setTop { g with pc := g.pc + 1, stack := rest }) t → Steps p.tables e below (T.setTop g) t := by
  obtain ⟨cl, A, q1, q2, q3⟩ := id F
  obtain ⟨T', h', X', e', W', st'⟩ := stI X hx hZ eT A (inb q1 h1 h2) hg hs hd
  exact ⟨T', h', X', e', W', upd_ints f _ x ▸ F.set W', st'⟩
theorem Vec.istB {f : Nat → Int32} (X : Stand p l e R s m args below meth c T locs cells slots) (hx : p.tables.exec = Jvm.exec) (hZ : Z.Warmed39 s.vm) (eT : T.heap = h) (F : Vec Z h a .byte n (ints f)) (h1 : 0 ≤ j.toInt) (h2 : j.toInt < n.toInt) {g : JFrame} (hg : g.method = m) {rest : List Value} (hs : g.stack = .int x :: .int j :: .ref a :: rest) (hd : decode c.code g.pc = .ok (.bastore, 1)) :
    ∃ T' h', Stand p l e R s m args below meth c T' (locs ++ [⟨a, j.toInt.toNat⟩]) cells slots ∧ T'.heap = h' ∧ Wr h h' a j.toInt.toNat (.int x.toInt8.toInt32) ∧ Vec Z h' a .byte n (ints (updF f j.toInt.toNat x.toInt8.toInt32)) ∧ ∀ t, Steps p.tables e below (T'.setTop { g with pc := g.pc + 1, stack := rest }) t → Steps p.tables e below (T.setTop g) t := by
  obtain ⟨cl, A, q1, q2, q3⟩ := id F
  obtain ⟨T', h', X', e', W', st'⟩ := stB X hx hZ eT A (inb q1 h1 h2) hg hs hd
  exact ⟨T', h', X', e', W', upd_ints f _ x.toInt8.toInt32 ▸ F.set W', st'⟩
theorem Vec.istJ {f : Nat → Int64} (X : Stand p l e R s m args below meth c T locs cells slots) (hx : p.tables.exec = Jvm.exec) (hZ : Z.Warmed39 s.vm) (eT : T.heap = h) (F : Vec Z h a .long n (longs f)) (h1 : 0 ≤ j.toInt) (h2 : j.toInt < n.toInt) {g : JFrame} (hg : g.method = m) {rest : List Value} (hs : g.stack = .long y :: .int j :: .ref a :: rest) (hd : decode c.code g.pc = .ok (.lastore, 1)) :
    ∃ T' h', Stand p l e R s m args below meth c T' (locs ++ [⟨a, j.toInt.toNat⟩]) cells slots ∧ T'.heap = h' ∧ Wr h h' a j.toInt.toNat (.long y) ∧ Vec Z h' a .long n (longs (updF f j.toInt.toNat y)) ∧ ∀ t, Steps p.tables e below (T'.setTop { g with pc := g.pc + 1, stack := rest }) t → Steps p.tables e below (T.setTop g) t := by
  obtain ⟨cl, A, q1, q2, q3⟩ := id F
  obtain ⟨T', h', X', e', W', st'⟩ := stJ X hx hZ eT A (inb q1 h1 h2) hg hs hd
  exact ⟨T', h', X', e', W', upd_longs f _ y ▸ F.set W', st'⟩
end Vecs
end Jvm.OwnGo
namespace Jvm.OwnGo
open Jvm Jvm.ClassFile Sem Op Lib Jvm.Free Jvm.Stand Jvm.LawKit Jvm.RoadKit
section Wide
variable {p : Program} {l : Launch} {e : Env} {R : Room} {s : State} {m : MethodId} {args : Array Value} {below : List Frame} {meth : Method} {c : Code} {T : State} {locs : List Loc} {cells slots : Nat} {Q : Option Value → Heap → List Loc → Prop} {C N k0 : Nat} {vm0 : Vm}
/-- as Go, for a road that may intern a constant -/
def GoW (p : Program) (e : Env) (below : List Frame) (s : State) (Q : Option Value → Heap → List Loc → Prop) (C N : Nat) (A : State) : Prop :=
  ∃ s₂ o, Steps p.tables e below A s₂ ∧ s₂.status = .running ∧ Ended s₂ below o ∧ ∃ v L, o = .returned v ∧ Q v s₂.heap L ∧ ReturnedEndW s o s₂ L C N
theorem GoW.st {A B : State} (h : ∀ t, Steps p.tables e below B t → Steps p.tables e below A t) (k : GoW p e below s Q C N B) : GoW p e below s Q C N A := by
  obtain ⟨s₂, o, h1, r⟩ := k
  exact ⟨s₂, o, h _ h1, r⟩
theorem GoW.tr {A B : State} (h : Steps p.tables e below A B) (k : GoW p e below s Q C N B) : GoW p e below s Q C N A := k.st fun _ q => h.trans q
theorem GoW.retN (hS : s.Since vm0 k0) (X : Stand p l e R (s.setVm vm0) m args below meth c T locs cells slots) (hk : k0 ≤ T.heap.size) (hx : p.tables.exec = Jvm.exec) (hlk : meth.locks = false) {t : FieldType} (ht : t = .boolean ∨ t = .byte ∨ t = .char ∨ t = .short) (hret : meth.sig.returnType = some t) {pc : Nat} {Ls : Array Slot} {z z' : Int32} {rest : List Value} (hd : decode c.code pc = .ok (.ireturn, 1))
    (hz : nar t z = z') (q : Q (some (.int z')) T.heap locs) (hc : cells ≤ C) (hn : slots ≤ N) : GoW p e below s Q C N (T.setTop (mkF m pc Ls (.int z :: rest))) := by
  subst hz
  obtain ⟨fs, hr, hrun, hended, w1, w2, w3, w4⟩ := X.leaveW hS hk (v := some (.int (nar t z))) (fun h => by rw [hret] at h; cases h) hlk
  exact ⟨_, _, Jvm.RoadKit.retN X hx hret ht hd hr, hrun, hended, _, _, rfl, q, w1, w2, w3, w4.mono hc hn⟩
theorem since0 (s : State) : s.Since s.vm 0 := (State.WarmedH.refl s).since 0
end Wide
section StrStart
variable {Z : State} {args : Array Value} {t : Term} {a : Addr} {h : Heap} {n : Int32}
theorem eq_int_ev {k : Int32} (h : (Cond.eq t (.int k)).value args Z none Z [] = some true) : t.eval args Z none [] Z = some (.int k) := by
  obtain ⟨u, v, e1, e2, k1, k2⟩ := cmp_v (Or.inl h)
  have e3 : v = .int k := Option.some.inj (e2.symm.trans (Term.int_eval k))
  subst e3
  obtain ⟨w, rfl⟩ : ∃ w, u = .int w := k2
  have q := gotT (Cond.eq_ints e1 (Term.int_eval k)) h
  subst q
  exact e1
theorem not_eq_ev {k z : Int32} (e : t.eval args Z none [] Z = some (.int z)) (h : (Cond.not (Cond.eq t (.int k))).value args Z none Z [] = some true) : ¬ z = k := fun q => by
  have h1 := not_v h
  rw [Cond.eq_ints e (Term.int_eval k)] at h1
  simp [q] at h1
theorem vec_start (hf : Fit Z) (ev : t.eval args Z none [] Z = some (.ref a)) (ha : (Cond.arrayOf t .byte).value args Z none Z [] = some true) (hl : (Cond.eq (.length t) (.int n)).value args Z none Z [] = some true) (hn : 0 ≤ n.toInt) :
    ∃ F : Nat → Int32, Vec Z Z.heap a .byte n (ints F) ∧ ∀ j k : Int32, (Cond.eq (.elem t (.int j)) (.int k)).value args Z none Z [] = some true → 0 ≤ j.toInt → F j.toInt.toNat = k := by
  obtain ⟨cl, A⟩ := Arr.start ev ha
  have hA := A.fin (Vm.Alike.refl _)
  have hle := eq_int_ev hl
  obtain ⟨a', c', q1, q2, q3⟩ := Term.length_spec hle
  cases ev.symm.trans q1
  cases hA.symm.trans q2
  have h31 : cl.slots.size < 2 ^ 31 := Jvm.Free.SBG.length_lt ev hA hle
  have q4 : n = cl.slots.size.toInt32 := Value.int.inj q3
  have q5 : n.toInt = cl.slots.size := by rw [q4]; exact len_toInt h31
  have hsz : cl.slots.size = n.toInt.toNat := by omega
  have hi : ∀ i : Nat, (i : Int) < n.toInt → ∃ x : Int32, cl.slots[i]? = some (.int x) := fun i hi => by
    have hlt : i < cl.slots.size := by omega
    obtain ⟨v, e1, e2⟩ := elem_fit hf A (j := i.toInt32) (idx_in hlt h31)
    obtain ⟨x, rfl⟩ := fit_I e2 (Or.inr (Or.inr (Or.inl rfl)))
    have q6 : i.toInt32.toNatClampNeg = i := by rw [nat_cl, len_toInt (by omega)]; omega
    exact ⟨x, by rw [q6] at e1; exact e1⟩
  refine ⟨fun i => match cl.slots[i]? with | some (.int x) => x | _ => 0, ⟨cl, A, hsz, hn, fun i h => ?_⟩, fun j k hj h1 => ?_⟩
  · obtain ⟨x, e⟩ := hi i h
    simp only [ints, e]
  · have e := eq_int_ev hj
    rw [elem_f ev (Term.int_eval j) hA (not_neg h1), nat_cl] at e
    simp only [e]
theorem vec_arv {b : Addr} {k : ClassId} {z : Int32} {L : List Int32} {d : Value} (F : Arv Z h b k .byte z (L.map Value.int) d) (hl : z.toInt.toNat = L.length) : Vec Z h b .byte z (ints (lst L)) := by
  obtain ⟨cl, A, -, q2, q3, q4, -⟩ := F
  refine ⟨cl, A, q2, of_neg q3, fun i hi => ?_⟩
  have hz := of_neg q3
  have hlt : i < cl.slots.size := by rw [q2, nat_cl]; omega
  have hL : i < L.length := by omega
  rw [q4 i hlt]
  simp [ints, lst, hL]
theorem vec_ne {v w : Addr} {f g : Nat → Int32} {k : Int32} (V1 : Vec Z h v .byte n (ints f)) (V2 : Vec Z h w .byte k (ints g)) (h1 : 0 < n.toInt) (h2 : 0 < k.toInt) (q : (f 0).toInt ≠ (g 0).toInt) : v ≠ w := by
  rintro rfl
  obtain ⟨c1, A1, -, -, r1⟩ := V1
  obtain ⟨c2, A2, -, -, r2⟩ := V2
  cases A1.1.symm.trans A2.1
  have e := (r1 0 (by omega)).symm.trans (r2 0 (by omega))
  exact q (congrArg Int32.toInt (Value.int.inj (Option.some.inj e)))
theorem str_ne {x y v w : Addr} {f g : Nat → Int32} {k : Int32} (F1 : Fld Z h x "java/lang/String" "value" "[B" (.ref v)) (F2 : Fld Z h y "java/lang/String" "value" "[B" (.ref w)) (V1 : Vec Z h v .byte n (ints f)) (V2 : Vec Z h w .byte k (ints g)) (h1 : 0 < n.toInt) (h2 : 0 < k.toInt) (q : (f 0).toInt ≠ (g 0).toInt) : x ≠ y :=
  Fld.ne F1 F2 fun e => vec_ne V1 V2 h1 h2 q (Value.ref.inj e)
end StrStart
section Chars
variable {p : Program} {l : Launch} {e : Env} {R : Room} {s : State} {m : MethodId} {args : Array Value} {below : List Frame} {meth : Method} {c : Code} {T : State} {locs : List Loc} {cells slots : Nat} {Z : State} {h : Heap} {a : Addr} {n j x : Int32}
theorem Vec.ildC {f : Nat → Int32} (X : Stand p l e R s m args below meth c T locs cells slots) (hx : p.tables.exec = Jvm.exec) (hZ : Z.Warmed39 s.vm) (eT : T.heap = h) (F : Vec Z h a .char n (ints f)) (h1 : 0 ≤ j.toInt) (h2 : j.toInt < n.toInt) {g : JFrame} (hg : g.method = m) {rest : List Value} (hs : g.stack = .int j :: .ref a :: rest) (hd : decode c.code g.pc = .ok (.caload, 1)) :
    ∀ t, Steps p.tables e below (T.setTop { g with pc := g.pc + 1, stack := .int (f j.toInt.toNat) :: rest }) t → Steps p.tables e below (T.setTop g) t := by
  obtain ⟨cl, A, q1, q2, q3⟩ := F
  exact X.caload hx (j := j) (v := .int (f j.toInt.toNat)) (by rw [eT]; exact A.1) (State.isArrayOf_alike hZ.alike A.2.1) A.2.2 (inb q1 h1 h2) (q3 j.toInt.toNat (by omega)) hg hs hd
theorem Vec.istC {f : Nat → Int32} (X : Stand p l e R s m args below meth c T locs cells slots) (hx : p.tables.exec = Jvm.exec) (hZ : Z.Warmed39 s.vm) (eT : T.heap = h) (F : Vec Z h a .char n (ints f)) (h1 : 0 ≤ j.toInt) (h2 : j.toInt < n.toInt) {g : JFrame} (hg : g.method = m) {rest : List Value} (hs : g.stack = .int x :: .int j :: .ref a :: rest) (hd : decode c.code g.pc = .ok (.castore, 1)) :
    ∃ T' h', Stand p l e R s m args below meth c T' (locs ++ [⟨a, j.toInt.toNat⟩]) cells slots ∧ T'.heap = h' ∧ Wr h h' a j.toInt.toNat (.int (x.toUInt32.toUInt16.toUInt32.toInt32)) ∧ Vec Z h' a .char n (ints (updF f j.toInt.toNat (x.toUInt32.toUInt16.toUInt32.toInt32))) ∧ ∀ t, Steps p.tables e below (T'.setTop { g with pc := g.pc + 1, stack := rest }) t → Steps p.tables e below (T.setTop g) t := by
  obtain ⟨cl, A, q1, q2, q3⟩ := id F
  obtain ⟨T', h', X', e', W', st'⟩ := stC X hx hZ eT A (inb q1 h1 h2) hg hs hd
  exact ⟨T', h', X', e', W', upd_ints f _ (x.toUInt32.toUInt16.toUInt32.toInt32) ▸ F.set W', st'⟩
end Chars
end Jvm.OwnGo
namespace Jvm.Pilot.@@N@@
open Jvm Jvm.ClassFile Sem Op Lib Jvm.Free Jvm.Stand Jvm.LawKit Jvm.RoadKit Bundle Jvm.OwnGo Jvm.Pilot.@@N@@.Jvm.D
theorem pn_0 : plainName "java/lang/StringLatin1" = true := by first | (simp [plainName, overriddenIn]; done) | decide +kernel
theorem d4_0 : decode jdk_43_method_13_code 0 = .ok (.aload_n 0, 1) := by decide +kernel
theorem d4_1 : decode jdk_43_method_13_code 1 = .ok (.arraylength, 1) := by decide +kernel
theorem d4_2 : decode jdk_43_method_13_code 2 = .ok (.aload_n 1, 1) := by decide +kernel
theorem d4_3 : decode jdk_43_method_13_code 3 = .ok (.arraylength, 1) := by decide +kernel
theorem d4_4 : decode jdk_43_method_13_code 4 = .ok (.if_icmp .ne 30, 3) := by decide +kernel
theorem liI_3 : (3 : Int32).toInt = 3 := by decide
theorem d4_7 : decode jdk_43_method_13_code 7 = .ok (.iconst 0, 1) := by decide +kernel
theorem d4_8 : decode jdk_43_method_13_code 8 = .ok (.istore_n 2, 1) := by decide +kernel
theorem d4_9 : decode jdk_43_method_13_code 9 = .ok (.iload_n 2, 1) := by decide +kernel
theorem d4_10 : decode jdk_43_method_13_code 10 = .ok (.aload_n 0, 1) := by decide +kernel
theorem d4_11 : decode jdk_43_method_13_code 11 = .ok (.arraylength, 1) := by decide +kernel
theorem d4_12 : decode jdk_43_method_13_code 12 = .ok (.if_icmp .ge 20, 3) := by decide +kernel
theorem liI_0 : (0 : Int32).toInt = 0 := by decide
theorem d4_15 : decode jdk_43_method_13_code 15 = .ok (.aload_n 0, 1) := by decide +kernel
theorem d4_16 : decode jdk_43_method_13_code 16 = .ok (.iload_n 2, 1) := by decide +kernel
theorem d4_17 : decode jdk_43_method_13_code 17 = .ok (.baload, 1) := by decide +kernel
theorem d4_18 : decode jdk_43_method_13_code 18 = .ok (.aload_n 1, 1) := by decide +kernel
theorem d4_19 : decode jdk_43_method_13_code 19 = .ok (.iload_n 2, 1) := by decide +kernel
theorem d4_20 : decode jdk_43_method_13_code 20 = .ok (.baload, 1) := by decide +kernel
theorem d4_21 : decode jdk_43_method_13_code 21 = .ok (.if_icmp .eq 5, 3) := by decide +kernel
theorem d4_26 : decode jdk_43_method_13_code 26 = .ok (.iinc 2 1, 3) := by decide +kernel
theorem d4_29 : decode jdk_43_method_13_code 29 = .ok (.goto (-20), 3) := by decide +kernel
theorem liI_1 : (1 : Int32).toInt = 1 := by decide
theorem liI_2 : (2 : Int32).toInt = 2 := by decide
theorem d4_32 : decode jdk_43_method_13_code 32 = .ok (.iconst 1, 1) := by decide +kernel
theorem d4_33 : decode jdk_43_method_13_code 33 = .ok (.ireturn, 1) := by decide +kernel
theorem d4_24 : decode jdk_43_method_13_code 24 = .ok (.iconst 0, 1) := by decide +kernel
theorem d4_25 : decode jdk_43_method_13_code 25 = .ok (.ireturn, 1) := by decide +kernel
theorem ef_rm4 (m : MethodId) (va : Addr) (vb : Addr) : entryFrame m #[(.ref va), (.ref vb)] 3 = mkF m 0 #[.val (.ref va), .val (.ref vb), .unset] [] := by first | (simp [entryFrame, mkF, argsToLocals, Value.category]; done) | rfl
def Q4 (Z : State) (va : Addr) (vb : Addr) (fa : Nat → Int32) (fb : Nat → Int32) (h0 : Heap) (n0 : Nat) (vv : Option Value) (h : Heap) (LL : List Loc) : Prop := ∃ (rr : Int32), vv = some (.int rr) ∧ Fr n0 LL ∧ (rr.toInt = 0 ∨ rr.toInt = 1) ∧ ((fa 0).toInt = (fb 0).toInt ∧ (fa 1).toInt = (fb 1).toInt ∧ (fa 2).toInt = (fb 2).toInt → rr.toInt = 1) ∧ (¬ (fa 0).toInt = (fb 0).toInt → rr.toInt = 0) ∧ h = h0
set_option maxRecDepth 65536 in
set_option maxHeartbeats 40000000 in
theorem rm4 (l : Launch) (Z : State) (a0 : Array Value) (hw : ∀ d ∈ tables_1, d.before a0 Z = true) (ws : List Jvm.Cond) (va : Addr) (vb : Addr) (fa : Nat → Int32) (fb : Nat → Int32) (h0 : Heap) (n0 : Nat) (Z0 : n0 ≤ h0.size) (hA : Vec Z h0 va .byte (3 : Int32) (ints fa)) (hB : Vec Z h0 vb .byte (3 : Int32) (ints fb)) :
    MetFree l (⟨"java/lang/StringLatin1", "equals", "([B[B)Z"⟩ : MethodName) (head1 (Jvm.Cond.code (⟨"java/lang/StringLatin1", "equals", "([B[B)Z"⟩ : MethodName) jdk_43_method_13_code 3 (some .boolean) :: ws) ({ frames := 0, cells := 0, slots := 0, locals := 0 } : Room)) (fun aa UU => aa = #[(.ref va), (.ref vb)] ∧ Z.Warmed39 UU.vm ∧ UU.heap = h0) (fun _ _ _ _ _ => True) (fun _ UU oo UU' => ∃ vv LL, oo = .returned vv ∧ Q4 Z va vb fa fb h0 n0 vv UU'.heap LL ∧ FrameEnd UU oo UU' LL 0 0) := by
  refine MetFree.of_bodySF (plainFor_of_name pn_0) hisR ?_
  intro p e s m args below meth c s₁ Bd hml0 hP hK
  obtain ⟨rfl, hZ, hh⟩ := hP
  have hx := Bd.exec
  have hby := Bd.bytes
  have hlk : meth.locks = false := BodyLoose.notSynchronized Bd
  have hml : c.maxLocals = 3 := hml0
  have hown : s.vm.findClass "java/lang/StringLatin1" = some m.cls := findClass_of_methodNamed Bd.named
  have hnm := (name_of_methodNamed Bd.named Bd.method).1
  have X0 : Stand p l e ({ frames := 0, cells := 0, slots := 0, locals := 0 } : Room) s m #[(.ref va), (.ref vb)] below meth c s₁ [] 0 0 := Stand.of_body Bd
  have e0 : s₁.heap = h0 := by rw [← hh, Bd.state]; rfl
  have N0 := Fr.nil n0
  have K0 : Keep h0 h0 [] := Keep.refl h0 _
  refine (?_ : Go p e below s (Q4 Z va vb fa fb h0 n0) 0 0 (s₁.setTop (entryFrame m #[(.ref va), (.ref vb)] 3)))
  rw [ef_rm4]
  generalize hQ : Q4 Z va vb fa fb h0 n0 = Q
  show Go p e below s Q 0 0 (s₁.setTop (mkF m 0 #[.val (.ref va), .val (.ref vb), .unset] []))
  refine Go.st (fun _ k => XS.aloadN X0.here hx rfl (hb hby d4_0) rfl rfl k) ?_
  refine Go.st (Vec.len X0 hx hZ e0 hA (g := (mkF m 1 #[.val (.ref va), .val (.ref vb), .unset] [(.ref va)])) rfl rfl (hb hby d4_1)) ?_
  show Go p e below s Q 0 0 (s₁.setTop (mkF m 2 #[.val (.ref va), .val (.ref vb), .unset] [(.int (3 : Int32))]))
  refine Go.st (fun _ k => XS.aloadN X0.here hx rfl (hb hby d4_2) rfl rfl k) ?_
  refine Go.st (Vec.len X0 hx hZ e0 hB (g := (mkF m 3 #[.val (.ref va), .val (.ref vb), .unset] [(.ref vb), (.int (3 : Int32))])) rfl rfl (hb hby d4_3)) ?_
  show Go p e below s Q 0 0 (s₁.setTop (mkF m 4 #[.val (.ref va), .val (.ref vb), .unset] [(.int (3 : Int32)), (.int (3 : Int32))]))
  refine Go.st (fun _ k => XS.icmpNo X0.here hx rfl (hb hby d4_4) rfl (teq (eqI liI_3 liI_3 (by decide))).2 k) ?_
  refine Go.st (fun _ k => XS.iconst X0.here hx rfl (hb hby d4_7) k) ?_
  refine Go.st (fun _ k => XS.istoreN X0.here hx rfl (hb hby d4_8) rfl (l' := #[.val (.ref va), .val (.ref vb), .val (.int (0 : Int32))]) rfl k) ?_
  refine Go.st (fun _ k => XS.iloadN X0.here hx rfl (hb hby d4_9) rfl k) ?_
  refine Go.st (fun _ k => XS.aloadN X0.here hx rfl (hb hby d4_10) rfl rfl k) ?_
  refine Go.st (Vec.len X0 hx hZ e0 hA (g := (mkF m 11 #[.val (.ref va), .val (.ref vb), .val (.int (0 : Int32))] [(.ref va), (.int (0 : Int32))])) rfl rfl (hb hby d4_11)) ?_
  show Go p e below s Q 0 0 (s₁.setTop (mkF m 12 #[.val (.ref va), .val (.ref vb), .val (.int (0 : Int32))] [(.int (3 : Int32)), (.int (0 : Int32))]))
  refine Go.st (fun _ k => XS.icmpNo X0.here hx rfl (hb hby d4_12) rfl (tlt (ltI liI_0 liI_3 (by decide))).2.1 k) ?_
  refine Go.st (fun _ k => XS.aloadN X0.here hx rfl (hb hby d4_15) rfl rfl k) ?_
  refine Go.st (fun _ k => XS.iloadN X0.here hx rfl (hb hby d4_16) rfl k) ?_
  refine Go.st (Vec.ildB X0 hx hZ e0 hA (j := (0 : Int32)) (by decide) (by decide) (g := (mkF m 17 #[.val (.ref va), .val (.ref vb), .val (.int (0 : Int32))] [(.int (0 : Int32)), (.ref va)])) rfl rfl (hb hby d4_17)) ?_
  show Go p e below s Q 0 0 (s₁.setTop (mkF m 18 #[.val (.ref va), .val (.ref vb), .val (.int (0 : Int32))] [(.int (fa 0))]))
  refine Go.st (fun _ k => XS.aloadN X0.here hx rfl (hb hby d4_18) rfl rfl k) ?_
  refine Go.st (fun _ k => XS.iloadN X0.here hx rfl (hb hby d4_19) rfl k) ?_
  refine Go.st (Vec.ildB X0 hx hZ e0 hB (j := (0 : Int32)) (by decide) (by decide) (g := (mkF m 20 #[.val (.ref va), .val (.ref vb), .val (.int (0 : Int32))] [(.int (0 : Int32)), (.ref vb), (.int (fa 0))])) rfl rfl (hb hby d4_20)) ?_
  show Go p e below s Q 0 0 (s₁.setTop (mkF m 21 #[.val (.ref va), .val (.ref vb), .val (.int (0 : Int32))] [(.int (fb 0)), (.int (fa 0))]))
  have f6 := rng32 (fa 0)
  have f7 := rng32 (fb 0)
  by_cases c8 : (fa 0).toInt = (fb 0).toInt
  ·
    refine Go.st (fun _ k => XS.icmpYes X0.here hx rfl (pc0 := 21) (pc' := 26) rfl (hb hby d4_21) rfl (teq (eqI rfl rfl c8)).1 (by decide) (by decide) k) ?_
    refine Go.st (fun _ k => XS.iinc X0.here hx rfl (hb hby d4_26) rfl (l' := #[.val (.ref va), .val (.ref vb), .val (.int (1 : Int32))]) rfl k) ?_
    refine Go.st (fun _ k => XS.goto X0.here hx rfl (pc0 := 29) (pc' := 9) rfl (hb hby d4_29) (by decide) (by decide) k) ?_
    refine Go.st (fun _ k => XS.iloadN X0.here hx rfl (hb hby d4_9) rfl k) ?_
    refine Go.st (fun _ k => XS.aloadN X0.here hx rfl (hb hby d4_10) rfl rfl k) ?_
    refine Go.st (Vec.len X0 hx hZ e0 hA (g := (mkF m 11 #[.val (.ref va), .val (.ref vb), .val (.int (1 : Int32))] [(.ref va), (.int (1 : Int32))])) rfl rfl (hb hby d4_11)) ?_
    show Go p e below s Q 0 0 (s₁.setTop (mkF m 12 #[.val (.ref va), .val (.ref vb), .val (.int (1 : Int32))] [(.int (3 : Int32)), (.int (1 : Int32))]))
    refine Go.st (fun _ k => XS.icmpNo X0.here hx rfl (hb hby d4_12) rfl (tlt (ltI liI_1 liI_3 (by decide))).2.1 k) ?_
    refine Go.st (fun _ k => XS.aloadN X0.here hx rfl (hb hby d4_15) rfl rfl k) ?_
    refine Go.st (fun _ k => XS.iloadN X0.here hx rfl (hb hby d4_16) rfl k) ?_
    refine Go.st (Vec.ildB X0 hx hZ e0 hA (j := (1 : Int32)) (by decide) (by decide) (g := (mkF m 17 #[.val (.ref va), .val (.ref vb), .val (.int (1 : Int32))] [(.int (1 : Int32)), (.ref va)])) rfl rfl (hb hby d4_17)) ?_
    show Go p e below s Q 0 0 (s₁.setTop (mkF m 18 #[.val (.ref va), .val (.ref vb), .val (.int (1 : Int32))] [(.int (fa 1))]))
    refine Go.st (fun _ k => XS.aloadN X0.here hx rfl (hb hby d4_18) rfl rfl k) ?_
    refine Go.st (fun _ k => XS.iloadN X0.here hx rfl (hb hby d4_19) rfl k) ?_
    refine Go.st (Vec.ildB X0 hx hZ e0 hB (j := (1 : Int32)) (by decide) (by decide) (g := (mkF m 20 #[.val (.ref va), .val (.ref vb), .val (.int (1 : Int32))] [(.int (1 : Int32)), (.ref vb), (.int (fa 1))])) rfl rfl (hb hby d4_20)) ?_
    show Go p e below s Q 0 0 (s₁.setTop (mkF m 21 #[.val (.ref va), .val (.ref vb), .val (.int (1 : Int32))] [(.int (fb 1)), (.int (fa 1))]))
    have f12 := rng32 (fa 1)
    have f13 := rng32 (fb 1)
    by_cases c14 : (fa 1).toInt = (fb 1).toInt
    ·
      refine Go.st (fun _ k => XS.icmpYes X0.here hx rfl (pc0 := 21) (pc' := 26) rfl (hb hby d4_21) rfl (teq (eqI rfl rfl c14)).1 (by decide) (by decide) k) ?_
      refine Go.st (fun _ k => XS.iinc X0.here hx rfl (hb hby d4_26) rfl (l' := #[.val (.ref va), .val (.ref vb), .val (.int (2 : Int32))]) rfl k) ?_
      refine Go.st (fun _ k => XS.goto X0.here hx rfl (pc0 := 29) (pc' := 9) rfl (hb hby d4_29) (by decide) (by decide) k) ?_
      refine Go.st (fun _ k => XS.iloadN X0.here hx rfl (hb hby d4_9) rfl k) ?_
      refine Go.st (fun _ k => XS.aloadN X0.here hx rfl (hb hby d4_10) rfl rfl k) ?_
      refine Go.st (Vec.len X0 hx hZ e0 hA (g := (mkF m 11 #[.val (.ref va), .val (.ref vb), .val (.int (2 : Int32))] [(.ref va), (.int (2 : Int32))])) rfl rfl (hb hby d4_11)) ?_
      show Go p e below s Q 0 0 (s₁.setTop (mkF m 12 #[.val (.ref va), .val (.ref vb), .val (.int (2 : Int32))] [(.int (3 : Int32)), (.int (2 : Int32))]))
      refine Go.st (fun _ k => XS.icmpNo X0.here hx rfl (hb hby d4_12) rfl (tlt (ltI liI_2 liI_3 (by decide))).2.1 k) ?_
      refine Go.st (fun _ k => XS.aloadN X0.here hx rfl (hb hby d4_15) rfl rfl k) ?_
      refine Go.st (fun _ k => XS.iloadN X0.here hx rfl (hb hby d4_16) rfl k) ?_
      refine Go.st (Vec.ildB X0 hx hZ e0 hA (j := (2 : Int32)) (by decide) (by decide) (g := (mkF m 17 #[.val (.ref va), .val (.ref vb), .val (.int (2 : Int32))] [(.int (2 : Int32)), (.ref va)])) rfl rfl (hb hby d4_17)) ?_
      show Go p e below s Q 0 0 (s₁.setTop (mkF m 18 #[.val (.ref va), .val (.ref vb), .val (.int (2 : Int32))] [(.int (fa 2))]))
      refine Go.st (fun _ k => XS.aloadN X0.here hx rfl (hb hby d4_18) rfl rfl k) ?_
      refine Go.st (fun _ k => XS.iloadN X0.here hx rfl (hb hby d4_19) rfl k) ?_
      refine Go.st (Vec.ildB X0 hx hZ e0 hB (j := (2 : Int32)) (by decide) (by decide) (g := (mkF m 20 #[.val (.ref va), .val (.ref vb), .val (.int (2 : Int32))] [(.int (2 : Int32)), (.ref vb), (.int (fa 2))])) rfl rfl (hb hby d4_20)) ?_
      show Go p e below s Q 0 0 (s₁.setTop (mkF m 21 #[.val (.ref va), .val (.ref vb), .val (.int (2 : Int32))] [(.int (fb 2)), (.int (fa 2))]))
      have f18 := rng32 (fa 2)
      have f19 := rng32 (fb 2)
      by_cases c20 : (fa 2).toInt = (fb 2).toInt
      ·
        refine Go.st (fun _ k => XS.icmpYes X0.here hx rfl (pc0 := 21) (pc' := 26) rfl (hb hby d4_21) rfl (teq (eqI rfl rfl c20)).1 (by decide) (by decide) k) ?_
        refine Go.st (fun _ k => XS.iinc X0.here hx rfl (hb hby d4_26) rfl (l' := #[.val (.ref va), .val (.ref vb), .val (.int (3 : Int32))]) rfl k) ?_
        refine Go.st (fun _ k => XS.goto X0.here hx rfl (pc0 := 29) (pc' := 9) rfl (hb hby d4_29) (by decide) (by decide) k) ?_
        refine Go.st (fun _ k => XS.iloadN X0.here hx rfl (hb hby d4_9) rfl k) ?_
        refine Go.st (fun _ k => XS.aloadN X0.here hx rfl (hb hby d4_10) rfl rfl k) ?_
        refine Go.st (Vec.len X0 hx hZ e0 hA (g := (mkF m 11 #[.val (.ref va), .val (.ref vb), .val (.int (3 : Int32))] [(.ref va), (.int (3 : Int32))])) rfl rfl (hb hby d4_11)) ?_
        show Go p e below s Q 0 0 (s₁.setTop (mkF m 12 #[.val (.ref va), .val (.ref vb), .val (.int (3 : Int32))] [(.int (3 : Int32)), (.int (3 : Int32))]))
        refine Go.st (fun _ k => XS.icmpYes X0.here hx rfl (pc0 := 12) (pc' := 32) rfl (hb hby d4_12) rfl (flt (nltI liI_3 liI_3 (by decide))).2.1 (by decide) (by decide) k) ?_
        refine Go.st (fun _ k => XS.iconst X0.here hx rfl (hb hby d4_32) k) ?_
        show Go p e below s Q 0 0 (s₁.setTop (mkF m 33 #[.val (.ref va), .val (.ref vb), .val (.int (3 : Int32))] [(.int (1 : Int32))]))
        have f22 := liI_1
        exact Go.retN X0 hx hlk (by simp) Bd.returns (hb hby d4_33) (z' := (1 : Int32)) (by decide) (by rw [← hQ, e0]; exact ⟨(1 : Int32), rfl, N0, (by omega), (by omega), (by omega), rfl⟩) (by decide) (by decide)
      ·
        refine Go.st (fun _ k => XS.icmpNo X0.here hx rfl (hb hby d4_21) rfl (feq (neI rfl rfl c20)).1 k) ?_
        refine Go.st (fun _ k => XS.iconst X0.here hx rfl (hb hby d4_24) k) ?_
        show Go p e below s Q 0 0 (s₁.setTop (mkF m 25 #[.val (.ref va), .val (.ref vb), .val (.int (2 : Int32))] [(.int (0 : Int32))]))
        have f23 := liI_0
        exact Go.retN X0 hx hlk (by simp) Bd.returns (hb hby d4_25) (z' := (0 : Int32)) (by decide) (by rw [← hQ, e0]; exact ⟨(0 : Int32), rfl, N0, (by omega), (by omega), (by omega), rfl⟩) (by decide) (by decide)
    ·
      refine Go.st (fun _ k => XS.icmpNo X0.here hx rfl (hb hby d4_21) rfl (feq (neI rfl rfl c14)).1 k) ?_
      refine Go.st (fun _ k => XS.iconst X0.here hx rfl (hb hby d4_24) k) ?_
      show Go p e below s Q 0 0 (s₁.setTop (mkF m 25 #[.val (.ref va), .val (.ref vb), .val (.int (1 : Int32))] [(.int (0 : Int32))]))
      have f24 := liI_0
      exact Go.retN X0 hx hlk (by simp) Bd.returns (hb hby d4_25) (z' := (0 : Int32)) (by decide) (by rw [← hQ, e0]; exact ⟨(0 : Int32), rfl, N0, (by omega), (by omega), (by omega), rfl⟩) (by decide) (by decide)
  ·
    refine Go.st (fun _ k => XS.icmpNo X0.here hx rfl (hb hby d4_21) rfl (feq (neI rfl rfl c8)).1 k) ?_
    refine Go.st (fun _ k => XS.iconst X0.here hx rfl (hb hby d4_24) k) ?_
    show Go p e below s Q 0 0 (s₁.setTop (mkF m 25 #[.val (.ref va), .val (.ref vb), .val (.int (0 : Int32))] [(.int (0 : Int32))]))
    have f25 := liI_0
    exact Go.retN X0 hx hlk (by simp) Bd.returns (hb hby d4_25) (z' := (0 : Int32)) (by decide) (by rw [← hQ, e0]; exact ⟨(0 : Int32), rfl, N0, (by omega), (by omega), (by omega), rfl⟩) (by decide) (by decide)
theorem pn_1 : plainName "java/lang/String" = true := by first | (simp [plainName, overriddenIn]; done) | decide +kernel
theorem d3_0 : decode jdk_42_method_66_code 0 = .ok (.aload_n 0, 1) := by decide +kernel
theorem d3_1 : decode jdk_42_method_66_code 1 = .ok (.aload_n 1, 1) := by decide +kernel
theorem d3_2 : decode jdk_42_method_66_code 2 = .ok (.if_acmp .ne 5, 3) := by decide +kernel
theorem d3_7 : decode jdk_42_method_66_code 7 = .ok (.aload_n 1, 1) := by decide +kernel
theorem d3_8 : decode jdk_42_method_66_code 8 = .ok (.instanceof 10, 3) := by decide +kernel
theorem d3_11 : decode jdk_42_method_66_code 11 = .ok (.ifCond .eq 43, 3) := by decide +kernel
theorem d3_14 : decode jdk_42_method_66_code 14 = .ok (.aload_n 1, 1) := by decide +kernel
theorem d3_15 : decode jdk_42_method_66_code 15 = .ok (.checkcast 10, 3) := by decide +kernel
theorem d3_18 : decode jdk_42_method_66_code 18 = .ok (.astore_n 2, 1) := by decide +kernel
theorem d3_19 : decode jdk_42_method_66_code 19 = .ok (.getstatic 38, 3) := by decide +kernel
theorem d3_22 : decode jdk_42_method_66_code 22 = .ok (.ifCond .eq 14, 3) := by decide +kernel
theorem d3_25 : decode jdk_42_method_66_code 25 = .ok (.aload_n 0, 1) := by decide +kernel
theorem d3_26 : decode jdk_42_method_66_code 26 = .ok (.getfield 15, 3) := by decide +kernel
theorem d3_29 : decode jdk_42_method_66_code 29 = .ok (.aload_n 2, 1) := by decide +kernel
theorem d3_30 : decode jdk_42_method_66_code 30 = .ok (.getfield 15, 3) := by decide +kernel
theorem d3_33 : decode jdk_42_method_66_code 33 = .ok (.if_icmp .ne 21, 3) := by decide +kernel
theorem d3_36 : decode jdk_42_method_66_code 36 = .ok (.aload_n 0, 1) := by decide +kernel
theorem d3_37 : decode jdk_42_method_66_code 37 = .ok (.getfield 9, 3) := by decide +kernel
theorem d3_40 : decode jdk_42_method_66_code 40 = .ok (.aload_n 2, 1) := by decide +kernel
theorem d3_41 : decode jdk_42_method_66_code 41 = .ok (.getfield 9, 3) := by decide +kernel
theorem pd_0 : parseMethodDescriptor "([B[B)Z" = some ⟨[(.array .byte), (.array .byte)], some .boolean⟩ := by decide +kernel
theorem d3_44 : decode jdk_42_method_66_code 44 = .ok (.invokestatic 541, 3) := by decide +kernel
theorem d3_47 : decode jdk_42_method_66_code 47 = .ok (.ifCond .eq 7, 3) := by decide +kernel
theorem d3_54 : decode jdk_42_method_66_code 54 = .ok (.iconst 0, 1) := by decide +kernel
theorem d3_55 : decode jdk_42_method_66_code 55 = .ok (.ireturn, 1) := by decide +kernel
theorem d3_50 : decode jdk_42_method_66_code 50 = .ok (.iconst 1, 1) := by decide +kernel
theorem d3_51 : decode jdk_42_method_66_code 51 = .ok (.goto 4, 3) := by decide +kernel
theorem ef_rm3 (m : MethodId) (sa : Addr) (sb : Addr) : entryFrame m #[(.ref sa), (.ref sb)] 3 = mkF m 0 #[.val (.ref sa), .val (.ref sb), .unset] [] := by first | (simp [entryFrame, mkF, argsToLocals, Value.category]; done) | rfl
def Q3 (Z : State) (sa : Addr) (sb : Addr) (va : Addr) (vb : Addr) (fa : Nat → Int32) (fb : Nat → Int32) (zc : Int32) (h0 : Heap) (n0 : Nat) (vv : Option Value) (h : Heap) (LL : List Loc) : Prop := ∃ (rr : Int32), vv = some (.int rr) ∧ Fr n0 LL ∧ (rr.toInt = 0 ∨ rr.toInt = 1) ∧ ((fa 0).toInt = (fb 0).toInt ∧ (fa 1).toInt = (fb 1).toInt ∧ (fa 2).toInt = (fb 2).toInt → rr.toInt = 1) ∧ (¬ (fa 0).toInt = (fb 0).toInt → rr.toInt = 0) ∧ h = h0
set_option maxRecDepth 65536 in
set_option maxHeartbeats 40000000 in
theorem rm3 (l : Launch) (Z : State) (a0 : Array Value) (hw : ∀ d ∈ tables_1, d.before a0 Z = true) (ws : List Jvm.Cond) (sa : Addr) (sb : Addr) (va : Addr) (vb : Addr) (fa : Nat → Int32) (fb : Nat → Int32) (zc : Int32) (h0 : Heap) (n0 : Nat) (Z0 : n0 ≤ h0.size) (nab : sa ≠ sb) (E_a : Exa Z h0 sa "java/lang/String") (E_b : Exa Z h0 sb "java/lang/String") (C_sa : Fld Z h0 sa "java/lang/String" "coder" "B" (.int (0 : Int32))) (V_sa : Fld Z h0 sa "java/lang/String" "value" "[B" (.ref va)) (C_sb : Fld Z h0 sb "java/lang/String" "coder" "B" (.int (0 : Int32))) (V_sb : Fld Z h0 sb "java/lang/String" "value" "[B" (.ref vb)) (hA : Vec Z h0 va .byte (3 : Int32) (ints fa)) (hB : Vec Z h0 vb .byte (3 : Int32) (ints fb)) (S_CS : Sta Z h0 "java/lang/String" "COMPACT_STRINGS" "Z" (.int zc)) (P_CS : ¬ zc.toInt = 0) :
    MetFree l (⟨"java/lang/String", "equals", "(Ljava/lang/Object;)Z"⟩ : MethodName) (head1 (Jvm.Cond.code (⟨"java/lang/String", "equals", "(Ljava/lang/Object;)Z"⟩ : MethodName) jdk_42_method_66_code 3 (some .boolean) :: ws) ({ frames := 1, cells := 0, slots := 0, locals := 14 } : Room)) (fun aa UU => aa = #[(.ref sa), (.ref sb)] ∧ Z.Warmed39 UU.vm ∧ UU.heap = h0) (fun _ _ _ _ _ => True) (fun _ UU oo UU' => ∃ vv LL, oo = .returned vv ∧ Q3 Z sa sb va vb fa fb zc h0 n0 vv UU'.heap LL ∧ FrameEnd UU oo UU' LL 0 0) := by
  refine MetFree.of_bodySF (plainFor_of_name pn_1) hisR ?_
  intro p e s m args below meth c s₁ Bd hml0 hP hK
  obtain ⟨rfl, hZ, hh⟩ := hP
  have hx := Bd.exec
  have hby := Bd.bytes
  have hlk : meth.locks = false := BodyLoose.notSynchronized Bd
  have hml : c.maxLocals = 3 := hml0
  have hown : s.vm.findClass "java/lang/String" = some m.cls := findClass_of_methodNamed Bd.named
  have hnm := (name_of_methodNamed Bd.named Bd.method).1
  have X0 : Stand p l e ({ frames := 1, cells := 0, slots := 0, locals := 14 } : Room) s m #[(.ref sa), (.ref sb)] below meth c s₁ [] 0 0 := Stand.of_body Bd
  have e0 : s₁.heap = h0 := by rw [← hh, Bd.state]; rfl
  have N0 := Fr.nil n0
  have K0 : Keep h0 h0 [] := Keep.refl h0 _
  refine (?_ : Go p e below s (Q3 Z sa sb va vb fa fb zc h0 n0) 0 0 (s₁.setTop (entryFrame m #[(.ref sa), (.ref sb)] 3)))
  rw [ef_rm3]
  generalize hQ : Q3 Z sa sb va vb fa fb zc h0 n0 = Q
  show Go p e below s Q 0 0 (s₁.setTop (mkF m 0 #[.val (.ref sa), .val (.ref sb), .unset] []))
  refine Go.st (fun _ k => XS.aloadN X0.here hx rfl (hb hby d3_0) rfl rfl k) ?_
  refine Go.st (fun _ k => XS.aloadN X0.here hx rfl (hb hby d3_1) rfl rfl k) ?_
  refine Go.st (fun _ k => Jvm.RoadKit.acmp (g := (mkF m 2 #[.val (.ref sa), .val (.ref sb), .unset] [(.ref sb), (.ref sa)])) X0 hx rfl rfl rfl (pc0 := 2) (pc' := 7) (same := false) rfl (hb hby d3_2) rfl (decide_eq_false fun q => nab (Value.ref.inj q)) (by decide) (by decide) k) ?_
  refine Go.st (fun _ k => XS.aloadN X0.here hx rfl (hb hby d3_7) rfl rfl k) ?_
  obtain ⟨T1, X1, e1, st1⟩ := instY X0 hx hZ hown (hw _ (List.mem_of_getElem? (i := 30) rfl)) e0 (Ins.self E_b) (g := (mkF m 8 #[.val (.ref sa), .val (.ref sb), .unset] [(.ref sb)])) rfl rfl (hb hby d3_8)
  refine Go.st st1 ?_
  show Go p e below s Q 0 0 (T1.setTop (mkF m 11 #[.val (.ref sa), .val (.ref sb), .unset] [(.int (1 : Int32))]))
  refine Go.st (fun _ k => XS.ifNo X1.here hx rfl (hb hby d3_11) rfl ((if0 _ _).trans (feq (neI liI_1 liI_0 (by decide))).1) k) ?_
  refine Go.st (fun _ k => XS.aloadN X1.here hx rfl (hb hby d3_14) rfl rfl k) ?_
  obtain ⟨T2, X2, e2, st2⟩ := castY X1 hx hZ hown (hw _ (List.mem_of_getElem? (i := 30) rfl)) e1 (Ins.self E_b) (g := (mkF m 15 #[.val (.ref sa), .val (.ref sb), .unset] [(.ref sb)])) rfl rfl (hb hby d3_15)
  refine Go.st st2 ?_
  show Go p e below s Q 0 0 (T2.setTop (mkF m 18 #[.val (.ref sa), .val (.ref sb), .unset] [(.ref sb)]))
  refine Go.st (fun _ k => XS.astoreN X2.here hx rfl (hb hby d3_18) rfl rfl (l' := #[.val (.ref sa), .val (.ref sb), .val (.ref sb)]) rfl k) ?_
  obtain ⟨T3, X3, e3, st3⟩ := getS2 X2 hx hZ hown (host := "") (Or.inl (hw _ (List.mem_of_getElem? (i := 32) rfl))) Via.refl e2 S_CS (g := (mkF m 19 #[.val (.ref sa), .val (.ref sb), .val (.ref sb)] [])) rfl (hb hby d3_19)
  refine Go.st st3 ?_
  show Go p e below s Q 0 0 (T3.setTop (mkF m 22 #[.val (.ref sa), .val (.ref sb), .val (.ref sb)] [(.int zc)]))
  have f4 := rng32 zc
  have f5 := liI_0
  have c6 : ¬ (zc.toInt = 0) := by omega
  refine Go.st (fun _ k => XS.ifNo X3.here hx rfl (hb hby d3_22) rfl ((if0 _ _).trans (feq (neI rfl liI_0 c6)).1) k) ?_
  refine Go.st (fun _ k => XS.aloadN X3.here hx rfl (hb hby d3_25) rfl rfl k) ?_
  obtain ⟨T7, X7, e7, st7⟩ := getF X3 hx hZ hown (host := "") (Or.inl (hw _ (List.mem_of_getElem? (i := 33) rfl))) Via.refl e3 C_sa (g := (mkF m 26 #[.val (.ref sa), .val (.ref sb), .val (.ref sb)] [(.ref sa)])) rfl rfl (hb hby d3_26)
  refine Go.st st7 ?_
  show Go p e below s Q 0 0 (T7.setTop (mkF m 29 #[.val (.ref sa), .val (.ref sb), .val (.ref sb)] [(.int (0 : Int32))]))
  refine Go.st (fun _ k => XS.aloadN X7.here hx rfl (hb hby d3_29) rfl rfl k) ?_
  obtain ⟨T8, X8, e8, st8⟩ := getF X7 hx hZ hown (host := "") (Or.inl (hw _ (List.mem_of_getElem? (i := 33) rfl))) Via.refl e7 C_sb (g := (mkF m 30 #[.val (.ref sa), .val (.ref sb), .val (.ref sb)] [(.ref sb), (.int (0 : Int32))])) rfl rfl (hb hby d3_30)
  refine Go.st st8 ?_
  show Go p e below s Q 0 0 (T8.setTop (mkF m 33 #[.val (.ref sa), .val (.ref sb), .val (.ref sb)] [(.int (0 : Int32)), (.int (0 : Int32))]))
  refine Go.st (fun _ k => XS.icmpNo X8.here hx rfl (hb hby d3_33) rfl (teq (eqI liI_0 liI_0 (by decide))).2 k) ?_
  refine Go.st (fun _ k => XS.aloadN X8.here hx rfl (hb hby d3_36) rfl rfl k) ?_
  obtain ⟨T9, X9, e9, st9⟩ := getF X8 hx hZ hown (host := "") (Or.inl (hw _ (List.mem_of_getElem? (i := 34) rfl))) Via.refl e8 V_sa (g := (mkF m 37 #[.val (.ref sa), .val (.ref sb), .val (.ref sb)] [(.ref sa)])) rfl rfl (hb hby d3_37)
  refine Go.st st9 ?_
  show Go p e below s Q 0 0 (T9.setTop (mkF m 40 #[.val (.ref sa), .val (.ref sb), .val (.ref sb)] [(.ref va)]))
  refine Go.st (fun _ k => XS.aloadN X9.here hx rfl (hb hby d3_40) rfl rfl k) ?_
  obtain ⟨T10, X10, e10, st10⟩ := getF X9 hx hZ hown (host := "") (Or.inl (hw _ (List.mem_of_getElem? (i := 34) rfl))) Via.refl e9 V_sb (g := (mkF m 41 #[.val (.ref sa), .val (.ref sb), .val (.ref sb)] [(.ref sb), (.ref va)])) rfl rfl (hb hby d3_41)
  refine Go.st st10 ?_
  show Go p e below s Q 0 0 (T10.setTop (mkF m 44 #[.val (.ref sa), .val (.ref sb), .val (.ref sb)] [(.ref vb), (.ref va)]))
  obtain ⟨_, _, ⟨T11, L11, k11, n11⟩, -, X11, ⟨Lc11, hQ11, l11, y11, z11⟩, st11⟩ := Jvm.LawKit.callS X10 hx (y := (⟨"java/lang/StringLatin1", "equals", "([B[B)Z"⟩ : MethodName)) hown (mvT hZ (hw _ (List.mem_of_getElem? (i := 35) rfl))) (mvT hZ (hw _ (List.mem_of_getElem? (i := 36) rfl))) (mvT hZ (hw _ (List.mem_of_getElem? (i := 37) rfl))) (mvT hZ (hw _ (List.mem_of_getElem? (i := 38) rfl))) (by decide) (backOf (W := 0) (rm4 l Z a0 hw [] va vb fa fb h0 n0 (Nat.le_trans Z0 K0.1) hA hB) hZ (hw _ (List.mem_of_getElem? (i := 38) rfl)) (hw _ (List.mem_of_getElem? (i := 37) rfl)) (by decide) (by decide)) (g := (mkF m 44 #[.val (.ref sa), .val (.ref sb), .val (.ref sb)] [(.ref vb), (.ref va)])) rfl (by rw [hml]; rfl) (argsL := [(.ref va), (.ref vb)]) (rest := []) (lenOf pd_0 rfl) rfl (by show 2 * 0 + _ ≤ _; exact Nat.le_of_eq rfl) (hb hby d3_44) (fun _ _ => ⟨rfl, e10, (by decide : 0 + 0 ≤ _), (by decide : 0 + 0 ≤ _)⟩)
  dsimp only [Pt.U, Pt.locs, Pt.cells, Pt.slots] at X11 l11 y11 z11 st11 hQ11
  subst l11 y11 z11
  obtain ⟨rr_12, rfl, N11q, f13, f14, f15, e11⟩ := hQ11
  have N11 := Fr.app N0 N11q
  refine Go.st st11 ?_
  show Go p e below s Q 0 0 (T11.setTop (mkF m 47 #[.val (.ref sa), .val (.ref sb), .val (.ref sb)] [(.int rr_12)]))
  have f16 := rng32 rr_12
  by_cases c17 : rr_12.toInt = 0
  ·
    refine Go.st (fun _ k => XS.ifYes X11.here hx rfl (pc0 := 47) (pc' := 54) rfl (hb hby d3_47) rfl ((if0 _ _).trans (teq (eqI rfl liI_0 c17)).1) (by decide) (by decide) k) ?_
    refine Go.st (fun _ k => XS.iconst X11.here hx rfl (hb hby d3_54) k) ?_
    show Go p e below s Q 0 0 (T11.setTop (mkF m 55 #[.val (.ref sa), .val (.ref sb), .val (.ref sb)] [(.int (0 : Int32))]))
    exact Go.retN X11 hx hlk (by simp) Bd.returns (hb hby d3_55) (z' := (0 : Int32)) (by decide) (by rw [← hQ, e11]; exact ⟨(0 : Int32), rfl, N11, (by omega), (by omega), (by omega), rfl⟩) (by decide) (by decide)
  ·
    refine Go.st (fun _ k => XS.ifNo X11.here hx rfl (hb hby d3_47) rfl ((if0 _ _).trans (feq (neI rfl liI_0 c17)).1) k) ?_
    refine Go.st (fun _ k => XS.iconst X11.here hx rfl (hb hby d3_50) k) ?_
    refine Go.st (fun _ k => XS.goto X11.here hx rfl (pc0 := 51) (pc' := 55) rfl (hb hby d3_51) (by decide) (by decide) k) ?_
    show Go p e below s Q 0 0 (T11.setTop (mkF m 55 #[.val (.ref sa), .val (.ref sb), .val (.ref sb)] [(.int (1 : Int32))]))
    have f18 := liI_1
    exact Go.retN X11 hx hlk (by simp) Bd.returns (hb hby d3_55) (z' := (1 : Int32)) (by decide) (by rw [← hQ, e11]; exact ⟨(1 : Int32), rfl, N11, (by omega), (by omega), (by omega), rfl⟩) (by decide) (by decide)
theorem d3_5 : decode jdk_42_method_66_code 5 = .ok (.iconst 1, 1) := by decide +kernel
theorem d3_6 : decode jdk_42_method_66_code 6 = .ok (.ireturn, 1) := by decide +kernel
theorem ef_rmeqs (m : MethodId) (sa : Addr) : entryFrame m #[(.ref sa), (.ref sa)] 3 = mkF m 0 #[.val (.ref sa), .val (.ref sa), .unset] [] := by first | (simp [entryFrame, mkF, argsToLocals, Value.category]; done) | rfl
def Qeqs (Z : State) (sa : Addr) (h0 : Heap) (n0 : Nat) (vv : Option Value) (h : Heap) (LL : List Loc) : Prop := vv = some (.int (1 : Int32)) ∧ Fr n0 LL ∧ h = h0
set_option maxRecDepth 65536 in
set_option maxHeartbeats 40000000 in
theorem rmeqs (l : Launch) (Z : State) (a0 : Array Value) (hw : ∀ d ∈ tables_1, d.before a0 Z = true) (ws : List Jvm.Cond) (sa : Addr) (h0 : Heap) (n0 : Nat) (Z0 : n0 ≤ h0.size) :
    MetFree l (⟨"java/lang/String", "equals", "(Ljava/lang/Object;)Z"⟩ : MethodName) (head1 (Jvm.Cond.code (⟨"java/lang/String", "equals", "(Ljava/lang/Object;)Z"⟩ : MethodName) jdk_42_method_66_code 3 (some .boolean) :: ws) ({ frames := 0, cells := 0, slots := 0, locals := 0 } : Room)) (fun aa UU => aa = #[(.ref sa), (.ref sa)] ∧ Z.Warmed39 UU.vm ∧ UU.heap = h0) (fun _ _ _ _ _ => True) (fun _ UU oo UU' => ∃ vv LL, oo = .returned vv ∧ Qeqs Z sa h0 n0 vv UU'.heap LL ∧ FrameEnd UU oo UU' LL 0 0) := by
  refine MetFree.of_bodySF (plainFor_of_name pn_1) hisR ?_
  intro p e s m args below meth c s₁ Bd hml0 hP hK
  obtain ⟨rfl, hZ, hh⟩ := hP
  have hx := Bd.exec
  have hby := Bd.bytes
  have hlk : meth.locks = false := BodyLoose.notSynchronized Bd
  have hml : c.maxLocals = 3 := hml0
  have hown : s.vm.findClass "java/lang/String" = some m.cls := findClass_of_methodNamed Bd.named
  have hnm := (name_of_methodNamed Bd.named Bd.method).1
  have X0 : Stand p l e ({ frames := 0, cells := 0, slots := 0, locals := 0 } : Room) s m #[(.ref sa), (.ref sa)] below meth c s₁ [] 0 0 := Stand.of_body Bd
  have e0 : s₁.heap = h0 := by rw [← hh, Bd.state]; rfl
  have N0 := Fr.nil n0
  have K0 : Keep h0 h0 [] := Keep.refl h0 _
  refine (?_ : Go p e below s (Qeqs Z sa h0 n0) 0 0 (s₁.setTop (entryFrame m #[(.ref sa), (.ref sa)] 3)))
  rw [ef_rmeqs]
  generalize hQ : Qeqs Z sa h0 n0 = Q
  show Go p e below s Q 0 0 (s₁.setTop (mkF m 0 #[.val (.ref sa), .val (.ref sa), .unset] []))
  refine Go.st (fun _ k => XS.aloadN X0.here hx rfl (hb hby d3_0) rfl rfl k) ?_
  refine Go.st (fun _ k => XS.aloadN X0.here hx rfl (hb hby d3_1) rfl rfl k) ?_
  refine Go.st (fun _ k => Jvm.RoadKit.acmp (g := (mkF m 2 #[.val (.ref sa), .val (.ref sa), .unset] [(.ref sa), (.ref sa)])) X0 hx rfl rfl rfl (pc0 := 2) (pc' := 5) (same := true) rfl (hb hby d3_2) rfl (decide_eq_true rfl) (by decide) (by decide) k) ?_
  refine Go.st (fun _ k => XS.iconst X0.here hx rfl (hb hby d3_5) k) ?_
  show Go p e below s Q 0 0 (s₁.setTop (mkF m 6 #[.val (.ref sa), .val (.ref sa), .unset] [(.int (1 : Int32))]))
  have f1 := liI_1
  exact Go.retN X0 hx hlk (by simp) Bd.returns (hb hby d3_6) (z' := (1 : Int32)) (by decide) (by rw [← hQ, e0]; exact ⟨rfl, N0, rfl⟩) (by decide) (by decide)
theorem pn_2 : plainName "com/example/concordat/concordat/model/Protocol" = true := by first | (simp [plainName, overriddenIn]; done) | decide +kernel
theorem d2_0 : decode prog_32_method_5_code 0 = .ok (.aload_n 0, 1) := by decide +kernel
theorem d2_1 : decode prog_32_method_5_code 1 = .ok (.getfield 35, 3) := by decide +kernel
theorem d2_4 : decode prog_32_method_5_code 4 = .ok (.areturn, 1) := by decide +kernel
theorem ef_rm2 (m : MethodId) (ap : Addr) : entryFrame m #[(.ref ap)] 1 = mkF m 0 #[.val (.ref ap)] [] := by first | (simp [entryFrame, mkF, argsToLocals, Value.category]; done) | rfl
def Q2 (Z : State) (ap : Addr) (aw : Addr) (h0 : Heap) (n0 : Nat) (vv : Option Value) (h : Heap) (LL : List Loc) : Prop := vv = some (.ref aw) ∧ Fr n0 LL ∧ h = h0
set_option maxRecDepth 65536 in
set_option maxHeartbeats 40000000 in
theorem rm2 (l : Launch) (Z : State) (a0 : Array Value) (hw : ∀ d ∈ tables_1, d.before a0 Z = true) (ws : List Jvm.Cond) (ap : Addr) (aw : Addr) (h0 : Heap) (n0 : Nat) (Z0 : n0 ≤ h0.size) (hF : Fld Z h0 ap "com/example/concordat/concordat/model/Protocol" "word" "Ljava/lang/String;" (.ref aw)) :
    MetFree l (⟨"com/example/concordat/concordat/model/Protocol", "word", "()Ljava/lang/String;"⟩ : MethodName) (head1 (Jvm.Cond.code (⟨"com/example/concordat/concordat/model/Protocol", "word", "()Ljava/lang/String;"⟩ : MethodName) prog_32_method_5_code 1 (some (.object "java/lang/String")) :: ws) ({ frames := 0, cells := 0, slots := 0, locals := 0 } : Room)) (fun aa UU => aa = #[(.ref ap)] ∧ Z.Warmed39 UU.vm ∧ UU.heap = h0) (fun _ _ _ _ _ => True) (fun _ UU oo UU' => ∃ vv LL, oo = .returned vv ∧ Q2 Z ap aw h0 n0 vv UU'.heap LL ∧ FrameEnd UU oo UU' LL 0 0) := by
  refine MetFree.of_bodySF (plainFor_of_name pn_2) hisR ?_
  intro p e s m args below meth c s₁ Bd hml0 hP hK
  obtain ⟨rfl, hZ, hh⟩ := hP
  have hx := Bd.exec
  have hby := Bd.bytes
  have hlk : meth.locks = false := BodyLoose.notSynchronized Bd
  have hml : c.maxLocals = 1 := hml0
  have hown : s.vm.findClass "com/example/concordat/concordat/model/Protocol" = some m.cls := findClass_of_methodNamed Bd.named
  have hnm := (name_of_methodNamed Bd.named Bd.method).1
  have X0 : Stand p l e ({ frames := 0, cells := 0, slots := 0, locals := 0 } : Room) s m #[(.ref ap)] below meth c s₁ [] 0 0 := Stand.of_body Bd
  have e0 : s₁.heap = h0 := by rw [← hh, Bd.state]; rfl
  have N0 := Fr.nil n0
  have K0 : Keep h0 h0 [] := Keep.refl h0 _
  refine (?_ : Go p e below s (Q2 Z ap aw h0 n0) 0 0 (s₁.setTop (entryFrame m #[(.ref ap)] 1)))
  rw [ef_rm2]
  generalize hQ : Q2 Z ap aw h0 n0 = Q
  show Go p e below s Q 0 0 (s₁.setTop (mkF m 0 #[.val (.ref ap)] []))
  refine Go.st (fun _ k => XS.aloadN X0.here hx rfl (hb hby d2_0) rfl rfl k) ?_
  obtain ⟨T1, X1, e1, st1⟩ := getF X0 hx hZ hown (host := "") (Or.inl (hw _ (List.mem_of_getElem? (i := 15) rfl))) Via.refl e0 hF (g := (mkF m 1 #[.val (.ref ap)] [(.ref ap)])) rfl rfl (hb hby d2_1)
  refine Go.st st1 ?_
  show Go p e below s Q 0 0 (T1.setTop (mkF m 4 #[.val (.ref ap)] [(.ref aw)]))
  exact Go.retA X1 hx hlk rfl Bd.returns rfl (hb hby d2_4) (by rw [← hQ, e1]; exact ⟨rfl, N0, rfl⟩) (by decide) (by decide)
theorem d1_0 : decode prog_32_method_6_code 0 = .ok (.aload_n 0, 1) := by decide +kernel
theorem d1_1 : decode prog_32_method_6_code 1 = .ok (.getstatic 13, 3) := by decide +kernel
theorem d1_4 : decode prog_32_method_6_code 4 = .ok (.if_acmp .ne 7, 3) := by decide +kernel
theorem d1_7 : decode prog_32_method_6_code 7 = .ok (.iconst 1, 1) := by decide +kernel
theorem d1_8 : decode prog_32_method_6_code 8 = .ok (.goto 4, 3) := by decide +kernel
theorem d1_12 : decode prog_32_method_6_code 12 = .ok (.ireturn, 1) := by decide +kernel
theorem ef_rmmx1 (m : MethodId) (ap : Addr) : entryFrame m #[(.ref ap)] 1 = mkF m 0 #[.val (.ref ap)] [] := by first | (simp [entryFrame, mkF, argsToLocals, Value.category]; done) | rfl
def Qmx1 (Z : State) (ap : Addr) (h0 : Heap) (n0 : Nat) (vv : Option Value) (h : Heap) (LL : List Loc) : Prop := vv = some (.int (1 : Int32)) ∧ Fr n0 LL ∧ h = h0
set_option maxRecDepth 65536 in
set_option maxHeartbeats 40000000 in
theorem rmmx1 (l : Launch) (Z : State) (a0 : Array Value) (hw : ∀ d ∈ tables_1, d.before a0 Z = true) (ws : List Jvm.Cond) (ap : Addr) (h0 : Heap) (n0 : Nat) (Z0 : n0 ≤ h0.size) (hS : Sta Z h0 "com/example/concordat/concordat/model/Protocol" "PRESUMED_ANY" "Lcom/example/concordat/concordat/model/Protocol;" (.ref ap)) :
    MetFree l (⟨"com/example/concordat/concordat/model/Protocol", "isMixed", "()Z"⟩ : MethodName) (head1 (Jvm.Cond.code (⟨"com/example/concordat/concordat/model/Protocol", "isMixed", "()Z"⟩ : MethodName) prog_32_method_6_code 1 (some .boolean) :: ws) ({ frames := 0, cells := 0, slots := 0, locals := 0 } : Room)) (fun aa UU => aa = #[(.ref ap)] ∧ Z.Warmed39 UU.vm ∧ UU.heap = h0) (fun _ _ _ _ _ => True) (fun _ UU oo UU' => ∃ vv LL, oo = .returned vv ∧ Qmx1 Z ap h0 n0 vv UU'.heap LL ∧ FrameEnd UU oo UU' LL 0 0) := by
  refine MetFree.of_bodySF (plainFor_of_name pn_2) hisR ?_
  intro p e s m args below meth c s₁ Bd hml0 hP hK
  obtain ⟨rfl, hZ, hh⟩ := hP
  have hx := Bd.exec
  have hby := Bd.bytes
  have hlk : meth.locks = false := BodyLoose.notSynchronized Bd
  have hml : c.maxLocals = 1 := hml0
  have hown : s.vm.findClass "com/example/concordat/concordat/model/Protocol" = some m.cls := findClass_of_methodNamed Bd.named
  have hnm := (name_of_methodNamed Bd.named Bd.method).1
  have X0 : Stand p l e ({ frames := 0, cells := 0, slots := 0, locals := 0 } : Room) s m #[(.ref ap)] below meth c s₁ [] 0 0 := Stand.of_body Bd
  have e0 : s₁.heap = h0 := by rw [← hh, Bd.state]; rfl
  have N0 := Fr.nil n0
  have K0 : Keep h0 h0 [] := Keep.refl h0 _
  refine (?_ : Go p e below s (Qmx1 Z ap h0 n0) 0 0 (s₁.setTop (entryFrame m #[(.ref ap)] 1)))
  rw [ef_rmmx1]
  generalize hQ : Qmx1 Z ap h0 n0 = Q
  show Go p e below s Q 0 0 (s₁.setTop (mkF m 0 #[.val (.ref ap)] []))
  refine Go.st (fun _ k => XS.aloadN X0.here hx rfl (hb hby d1_0) rfl rfl k) ?_
  obtain ⟨T1, X1, e1, st1⟩ := getS2 X0 hx hZ hown (host := "") (Or.inl (hw _ (List.mem_of_getElem? (i := 8) rfl))) Via.refl e0 hS (g := (mkF m 1 #[.val (.ref ap)] [(.ref ap)])) rfl (hb hby d1_1)
  refine Go.st st1 ?_
  show Go p e below s Q 0 0 (T1.setTop (mkF m 4 #[.val (.ref ap)] [(.ref ap), (.ref ap)]))
  refine Go.st (fun _ k => Jvm.RoadKit.acmp (g := (mkF m 4 #[.val (.ref ap)] [(.ref ap), (.ref ap)])) X1 hx rfl rfl rfl (pc0 := 4) (pc' := 7) (same := true) rfl (hb hby d1_4) rfl (decide_eq_true rfl) (by decide) (by decide) k) ?_
  refine Go.st (fun _ k => XS.iconst X1.here hx rfl (hb hby d1_7) k) ?_
  refine Go.st (fun _ k => XS.goto X1.here hx rfl (pc0 := 8) (pc' := 12) rfl (hb hby d1_8) (by decide) (by decide) k) ?_
  show Go p e below s Q 0 0 (T1.setTop (mkF m 12 #[.val (.ref ap)] [(.int (1 : Int32))]))
  have f2 := liI_1
  exact Go.retN X1 hx hlk (by simp) Bd.returns (hb hby d1_12) (z' := (1 : Int32)) (by decide) (by rw [← hQ, e1]; exact ⟨rfl, N0, rfl⟩) (by decide) (by decide)
theorem d1_11 : decode prog_32_method_6_code 11 = .ok (.iconst 0, 1) := by decide +kernel
theorem ef_rmmx0 (m : MethodId) (ap : Addr) : entryFrame m #[(.ref ap)] 1 = mkF m 0 #[.val (.ref ap)] [] := by first | (simp [entryFrame, mkF, argsToLocals, Value.category]; done) | rfl
def Qmx0 (Z : State) (ap : Addr) (aq : Addr) (h0 : Heap) (n0 : Nat) (vv : Option Value) (h : Heap) (LL : List Loc) : Prop := vv = some (.int (0 : Int32)) ∧ Fr n0 LL ∧ h = h0
set_option maxRecDepth 65536 in
set_option maxHeartbeats 40000000 in
theorem rmmx0 (l : Launch) (Z : State) (a0 : Array Value) (hw : ∀ d ∈ tables_1, d.before a0 Z = true) (ws : List Jvm.Cond) (ap : Addr) (aq : Addr) (h0 : Heap) (n0 : Nat) (Z0 : n0 ≤ h0.size) (hS : Sta Z h0 "com/example/concordat/concordat/model/Protocol" "PRESUMED_ANY" "Lcom/example/concordat/concordat/model/Protocol;" (.ref aq)) (hn : ap ≠ aq) :
    MetFree l (⟨"com/example/concordat/concordat/model/Protocol", "isMixed", "()Z"⟩ : MethodName) (head1 (Jvm.Cond.code (⟨"com/example/concordat/concordat/model/Protocol", "isMixed", "()Z"⟩ : MethodName) prog_32_method_6_code 1 (some .boolean) :: ws) ({ frames := 0, cells := 0, slots := 0, locals := 0 } : Room)) (fun aa UU => aa = #[(.ref ap)] ∧ Z.Warmed39 UU.vm ∧ UU.heap = h0) (fun _ _ _ _ _ => True) (fun _ UU oo UU' => ∃ vv LL, oo = .returned vv ∧ Qmx0 Z ap aq h0 n0 vv UU'.heap LL ∧ FrameEnd UU oo UU' LL 0 0) := by
  refine MetFree.of_bodySF (plainFor_of_name pn_2) hisR ?_
  intro p e s m args below meth c s₁ Bd hml0 hP hK
  obtain ⟨rfl, hZ, hh⟩ := hP
  have hx := Bd.exec
  have hby := Bd.bytes
  have hlk : meth.locks = false := BodyLoose.notSynchronized Bd
  have hml : c.maxLocals = 1 := hml0
  have hown : s.vm.findClass "com/example/concordat/concordat/model/Protocol" = some m.cls := findClass_of_methodNamed Bd.named
  have hnm := (name_of_methodNamed Bd.named Bd.method).1
  have X0 : Stand p l e ({ frames := 0, cells := 0, slots := 0, locals := 0 } : Room) s m #[(.ref ap)] below meth c s₁ [] 0 0 := Stand.of_body Bd
  have e0 : s₁.heap = h0 := by rw [← hh, Bd.state]; rfl
  have N0 := Fr.nil n0
  have K0 : Keep h0 h0 [] := Keep.refl h0 _
  refine (?_ : Go p e below s (Qmx0 Z ap aq h0 n0) 0 0 (s₁.setTop (entryFrame m #[(.ref ap)] 1)))
  rw [ef_rmmx0]
  generalize hQ : Qmx0 Z ap aq h0 n0 = Q
  show Go p e below s Q 0 0 (s₁.setTop (mkF m 0 #[.val (.ref ap)] []))
  refine Go.st (fun _ k => XS.aloadN X0.here hx rfl (hb hby d1_0) rfl rfl k) ?_
  obtain ⟨T1, X1, e1, st1⟩ := getS2 X0 hx hZ hown (host := "") (Or.inl (hw _ (List.mem_of_getElem? (i := 8) rfl))) Via.refl e0 hS (g := (mkF m 1 #[.val (.ref ap)] [(.ref ap)])) rfl (hb hby d1_1)
  refine Go.st st1 ?_
  show Go p e below s Q 0 0 (T1.setTop (mkF m 4 #[.val (.ref ap)] [(.ref aq), (.ref ap)]))
  refine Go.st (fun _ k => Jvm.RoadKit.acmp (g := (mkF m 4 #[.val (.ref ap)] [(.ref aq), (.ref ap)])) X1 hx rfl rfl rfl (pc0 := 4) (pc' := 11) (same := false) rfl (hb hby d1_4) rfl (decide_eq_false fun q => hn (Value.ref.inj q)) (by decide) (by decide) k) ?_
  refine Go.st (fun _ k => XS.iconst X1.here hx rfl (hb hby d1_11) k) ?_
  show Go p e below s Q 0 0 (T1.setTop (mkF m 12 #[.val (.ref ap)] [(.int (0 : Int32))]))
  have f2 := liI_0
  exact Go.retN X1 hx hlk (by simp) Bd.returns (hb hby d1_12) (z' := (0 : Int32)) (by decide) (by rw [← hQ, e1]; exact ⟨rfl, N0, rfl⟩) (by decide) (by decide)
theorem pn_3 : plainName "com/example/concordat/concordat/model/ProtocolIsMixedPinLaw" = true := by first | (simp [plainName, overriddenIn]; done) | decide +kernel
theorem pd_1 : parseMethodDescriptor "()Z" = some ⟨[], some .boolean⟩ := by decide +kernel
theorem pd_2 : parseMethodDescriptor "()Ljava/lang/String;" = some ⟨[], some (.object "java/lang/String")⟩ := by decide +kernel
theorem wStr {Z : State} {a0 : Array Value} (hw : ∀ d ∈ tables_1, d.before a0 Z = true) : ∀ d ∈ Bundle.stringAtoms, d.before a0 Z = true := fun d hd => by
  simp only [Bundle.stringAtoms, Bundle.sN, List.mem_cons, List.not_mem_nil, or_false] at hd
  rcases hd with rfl | rfl | rfl | rfl | rfl | rfl | rfl
  · exact (hw _ (List.mem_of_getElem? (i := 18) rfl))
  · exact (hw _ (List.mem_of_getElem? (i := 19) rfl))
  · exact (hw _ (List.mem_of_getElem? (i := 20) rfl))
  · exact (hw _ (List.mem_of_getElem? (i := 21) rfl))
  · exact (hw _ (List.mem_of_getElem? (i := 22) rfl))
  · exact (hw _ (List.mem_of_getElem? (i := 23) rfl))
  · exact (hw _ (List.mem_of_getElem? (i := 24) rfl))
theorem pd_3 : parseMethodDescriptor "(Ljava/lang/Object;)Z" = some ⟨[(.object "java/lang/Object")], some .boolean⟩ := by decide +kernel
theorem ef_rm0 (m : MethodId) (x0 : Int32) : entryFrame m #[(.int x0)] maxLocals = mkF m 0 #[.val (.int x0), .unset, .unset, .unset, .unset, .unset] [] := by first | (simp [entryFrame, mkF, argsToLocals, Value.category, maxLocals]; done) | rfl
def Q0 (Z : State) (x0 : Int32) (aPRESUMED_NOTHING : Addr) (aPRESUMED_ANY : Addr) (aPRESUMED_NOTHING_word : Addr) (aPRESUMED_NOTHING_word_value : Addr) (aPRESUMED_ANY_word : Addr) (aPRESUMED_ANY_word_value : Addr) (aPRESUMED_COMMIT : Addr) (aPRESUMED_COMMIT_word : Addr) (aPRESUMED_COMMIT_word_value : Addr) (aPRESUMED_ABORT : Addr) (aPRESUMED_ABORT_word : Addr) (aPRESUMED_ABORT_word_value : Addr) (G_aPRESUMED_NOTHING_word_value : Nat → Int32) (G_aPRESUMED_ANY_word_value : Nat → Int32) (G_aPRESUMED_COMMIT_word_value : Nat → Int32) (G_aPRESUMED_ABORT_word_value : Nat → Int32) (zc : Int32) (h0 : Heap) (n0 : Nat) (vv : Option Value) (h : Heap) (LL : List Loc) : Prop := vv = some (.int (1 : Int32)) ∧ Fr n0 LL ∧ Keep h0 h []
set_option maxRecDepth 65536 in
set_option maxHeartbeats 40000000 in
theorem rm0 (l : Launch) (Z : State) (a0 : Array Value) (hw : ∀ d ∈ tables_1, d.before a0 Z = true) (ws : List Jvm.Cond) (x0 : Int32) (aPRESUMED_NOTHING : Addr) (aPRESUMED_ANY : Addr) (aPRESUMED_NOTHING_word : Addr) (aPRESUMED_NOTHING_word_value : Addr) (aPRESUMED_ANY_word : Addr) (aPRESUMED_ANY_word_value : Addr) (aPRESUMED_COMMIT : Addr) (aPRESUMED_COMMIT_word : Addr) (aPRESUMED_COMMIT_word_value : Addr) (aPRESUMED_ABORT : Addr) (aPRESUMED_ABORT_word : Addr) (aPRESUMED_ABORT_word_value : Addr) (G_aPRESUMED_NOTHING_word_value : Nat → Int32) (G_aPRESUMED_ANY_word_value : Nat → Int32) (G_aPRESUMED_COMMIT_word_value : Nat → Int32) (G_aPRESUMED_ABORT_word_value : Nat → Int32) (zc : Int32) (h0 : Heap) (n0 : Nat) (Z0 : n0 ≤ h0.size) (S_aPRESUMED_NOTHING : Sta Z h0 "com/example/concordat/concordat/model/Protocol" "PRESUMED_NOTHING" "Lcom/example/concordat/concordat/model/Protocol;" (.ref aPRESUMED_NOTHING)) (E_aPRESUMED_NOTHING : Exa Z h0 aPRESUMED_NOTHING "com/example/concordat/concordat/model/Protocol") (S_aPRESUMED_ANY : Sta Z h0 "com/example/concordat/concordat/model/Protocol" "PRESUMED_ANY" "Lcom/example/concordat/concordat/model/Protocol;" (.ref aPRESUMED_ANY)) (E_aPRESUMED_ANY : Exa Z h0 aPRESUMED_ANY "com/example/concordat/concordat/model/Protocol") (F_aPRESUMED_NOTHING_ordinal : Fld Z h0 aPRESUMED_NOTHING "java/lang/Enum" "ordinal" "I" (.int (0 : Int32))) (F_aPRESUMED_ANY_ordinal : Fld Z h0 aPRESUMED_ANY "java/lang/Enum" "ordinal" "I" (.int (3 : Int32))) (F_aPRESUMED_NOTHING_word : Fld Z h0 aPRESUMED_NOTHING "com/example/concordat/concordat/model/Protocol" "word" "Ljava/lang/String;" (.ref aPRESUMED_NOTHING_word)) (E_aPRESUMED_NOTHING_word : Exa Z h0 aPRESUMED_NOTHING_word "java/lang/String") (F_aPRESUMED_NOTHING_word_coder : Fld Z h0 aPRESUMED_NOTHING_word "java/lang/String" "coder" "B" (.int (0 : Int32))) (F_aPRESUMED_NOTHING_word_value : Fld Z h0 aPRESUMED_NOTHING_word "java/lang/String" "value" "[B" (.ref aPRESUMED_NOTHING_word_value)) (F_aPRESUMED_ANY_word : Fld Z h0 aPRESUMED_ANY "com/example/concordat/concordat/model/Protocol" "word" "Ljava/lang/String;" (.ref aPRESUMED_ANY_word)) (E_aPRESUMED_ANY_word : Exa Z h0 aPRESUMED_ANY_word "java/lang/String") (F_aPRESUMED_ANY_word_coder : Fld Z h0 aPRESUMED_ANY_word "java/lang/String" "coder" "B" (.int (0 : Int32))) (F_aPRESUMED_ANY_word_value : Fld Z h0 aPRESUMED_ANY_word "java/lang/String" "value" "[B" (.ref aPRESUMED_ANY_word_value)) (S_aPRESUMED_COMMIT : Sta Z h0 "com/example/concordat/concordat/model/Protocol" "PRESUMED_COMMIT" "Lcom/example/concordat/concordat/model/Protocol;" (.ref aPRESUMED_COMMIT)) (E_aPRESUMED_COMMIT : Exa Z h0 aPRESUMED_COMMIT "com/example/concordat/concordat/model/Protocol") (F_aPRESUMED_COMMIT_ordinal : Fld Z h0 aPRESUMED_COMMIT "java/lang/Enum" "ordinal" "I" (.int (2 : Int32))) (F_aPRESUMED_COMMIT_word : Fld Z h0 aPRESUMED_COMMIT "com/example/concordat/concordat/model/Protocol" "word" "Ljava/lang/String;" (.ref aPRESUMED_COMMIT_word)) (E_aPRESUMED_COMMIT_word : Exa Z h0 aPRESUMED_COMMIT_word "java/lang/String") (F_aPRESUMED_COMMIT_word_coder : Fld Z h0 aPRESUMED_COMMIT_word "java/lang/String" "coder" "B" (.int (0 : Int32))) (F_aPRESUMED_COMMIT_word_value : Fld Z h0 aPRESUMED_COMMIT_word "java/lang/String" "value" "[B" (.ref aPRESUMED_COMMIT_word_value)) (S_aPRESUMED_ABORT : Sta Z h0 "com/example/concordat/concordat/model/Protocol" "PRESUMED_ABORT" "Lcom/example/concordat/concordat/model/Protocol;" (.ref aPRESUMED_ABORT)) (E_aPRESUMED_ABORT : Exa Z h0 aPRESUMED_ABORT "com/example/concordat/concordat/model/Protocol") (F_aPRESUMED_ABORT_ordinal : Fld Z h0 aPRESUMED_ABORT "java/lang/Enum" "ordinal" "I" (.int (1 : Int32))) (F_aPRESUMED_ABORT_word : Fld Z h0 aPRESUMED_ABORT "com/example/concordat/concordat/model/Protocol" "word" "Ljava/lang/String;" (.ref aPRESUMED_ABORT_word)) (E_aPRESUMED_ABORT_word : Exa Z h0 aPRESUMED_ABORT_word "java/lang/String") (F_aPRESUMED_ABORT_word_coder : Fld Z h0 aPRESUMED_ABORT_word "java/lang/String" "coder" "B" (.int (0 : Int32))) (F_aPRESUMED_ABORT_word_value : Fld Z h0 aPRESUMED_ABORT_word "java/lang/String" "value" "[B" (.ref aPRESUMED_ABORT_word_value)) (V_aPRESUMED_NOTHING_word_value : Vec Z h0 aPRESUMED_NOTHING_word_value .byte (3 : Int32) (ints G_aPRESUMED_NOTHING_word_value)) (P_aPRESUMED_NOTHING_word_value_0 : (G_aPRESUMED_NOTHING_word_value 0).toInt = 112) (P_aPRESUMED_NOTHING_word_value_1 : (G_aPRESUMED_NOTHING_word_value 1).toInt = 114) (P_aPRESUMED_NOTHING_word_value_2 : (G_aPRESUMED_NOTHING_word_value 2).toInt = 110) (V_aPRESUMED_ANY_word_value : Vec Z h0 aPRESUMED_ANY_word_value .byte (3 : Int32) (ints G_aPRESUMED_ANY_word_value)) (P_aPRESUMED_ANY_word_value_0 : (G_aPRESUMED_ANY_word_value 0).toInt = 97) (P_aPRESUMED_ANY_word_value_1 : (G_aPRESUMED_ANY_word_value 1).toInt = 110) (P_aPRESUMED_ANY_word_value_2 : (G_aPRESUMED_ANY_word_value 2).toInt = 121) (V_aPRESUMED_COMMIT_word_value : Vec Z h0 aPRESUMED_COMMIT_word_value .byte (3 : Int32) (ints G_aPRESUMED_COMMIT_word_value)) (P_aPRESUMED_COMMIT_word_value_0 : (G_aPRESUMED_COMMIT_word_value 0).toInt = 112) (P_aPRESUMED_COMMIT_word_value_1 : (G_aPRESUMED_COMMIT_word_value 1).toInt = 114) (P_aPRESUMED_COMMIT_word_value_2 : (G_aPRESUMED_COMMIT_word_value 2).toInt = 99) (V_aPRESUMED_ABORT_word_value : Vec Z h0 aPRESUMED_ABORT_word_value .byte (3 : Int32) (ints G_aPRESUMED_ABORT_word_value)) (P_aPRESUMED_ABORT_word_value_0 : (G_aPRESUMED_ABORT_word_value 0).toInt = 112) (P_aPRESUMED_ABORT_word_value_1 : (G_aPRESUMED_ABORT_word_value 1).toInt = 114) (P_aPRESUMED_ABORT_word_value_2 : (G_aPRESUMED_ABORT_word_value 2).toInt = 97) (ne_aPRESUMED_NOTHING_aPRESUMED_ANY : aPRESUMED_NOTHING ≠ aPRESUMED_ANY) (ne_aPRESUMED_NOTHING_aPRESUMED_COMMIT : aPRESUMED_NOTHING ≠ aPRESUMED_COMMIT) (ne_aPRESUMED_NOTHING_aPRESUMED_ABORT : aPRESUMED_NOTHING ≠ aPRESUMED_ABORT) (ne_aPRESUMED_ANY_aPRESUMED_COMMIT : aPRESUMED_ANY ≠ aPRESUMED_COMMIT) (ne_aPRESUMED_ANY_aPRESUMED_ABORT : aPRESUMED_ANY ≠ aPRESUMED_ABORT) (ne_aPRESUMED_COMMIT_aPRESUMED_ABORT : aPRESUMED_COMMIT ≠ aPRESUMED_ABORT) (S_CS : Sta Z h0 "java/lang/String" "COMPACT_STRINGS" "Z" (.int zc)) (P_CS : ¬ zc.toInt = 0) (HN0 : n0 = h0.size) (hcst_30 : Jvm.Lit.constHeld Z "com/example/concordat/concordat/model/ProtocolIsMixedPinLaw" 30) (hcw : Jvm.Lit.compactW.before a0 Z = true) :
    MetFree l x (head1 (Jvm.Cond.code x code maxLocals ret :: ws) room_1) (fun aa UU => aa = #[(.int x0)] ∧ Z.Warmed39 UU.vm ∧ UU.heap = h0 ∧ UU = Z) (fun _ _ _ _ _ => True) (fun _ UU oo UU' => ∃ vv LL, oo = .returned vv ∧ Q0 Z x0 aPRESUMED_NOTHING aPRESUMED_ANY aPRESUMED_NOTHING_word aPRESUMED_NOTHING_word_value aPRESUMED_ANY_word aPRESUMED_ANY_word_value aPRESUMED_COMMIT aPRESUMED_COMMIT_word aPRESUMED_COMMIT_word_value aPRESUMED_ABORT aPRESUMED_ABORT_word aPRESUMED_ABORT_word_value G_aPRESUMED_NOTHING_word_value G_aPRESUMED_ANY_word_value G_aPRESUMED_COMMIT_word_value G_aPRESUMED_ABORT_word_value zc h0 n0 vv UU'.heap LL ∧ ReturnedEndW UU oo UU' LL 2 16) := by
  refine MetFree.of_bodySF (plainFor_of_name pn_3) hisR ?_
  intro p e s m args below meth c s₁ Bd hml0 hP hK
  obtain ⟨rfl, hZ, hh, hsz⟩ := hP
  have hx := Bd.exec
  have hby := Bd.bytes
  have hlk : meth.locks = false := BodyLoose.notSynchronized Bd
  have hml : c.maxLocals = 6 := hml0
  have hown : s.vm.findClass "com/example/concordat/concordat/model/ProtocolIsMixedPinLaw" = some m.cls := findClass_of_methodNamed Bd.named
  have hnm := (name_of_methodNamed Bd.named Bd.method).1
  have X0 : Stand p l e room_1 s m #[(.int x0)] below meth c s₁ [] 0 0 := Stand.of_body Bd
  have e0 : s₁.heap = h0 := by rw [← hh, Bd.state]; rfl
  have N0 := Fr.nil n0
  have K0 : Keep h0 h0 [] := Keep.refl h0 _
  refine (?_ : GoW p e below s (Q0 Z x0 aPRESUMED_NOTHING aPRESUMED_ANY aPRESUMED_NOTHING_word aPRESUMED_NOTHING_word_value aPRESUMED_ANY_word aPRESUMED_ANY_word_value aPRESUMED_COMMIT aPRESUMED_COMMIT_word aPRESUMED_COMMIT_word_value aPRESUMED_ABORT aPRESUMED_ABORT_word aPRESUMED_ABORT_word_value G_aPRESUMED_NOTHING_word_value G_aPRESUMED_ANY_word_value G_aPRESUMED_COMMIT_word_value G_aPRESUMED_ABORT_word_value zc h0 n0) 2 16 (s₁.setTop (entryFrame m #[(.int x0)] maxLocals)))
  rw [ef_rm0]
  generalize hQ : Q0 Z x0 aPRESUMED_NOTHING aPRESUMED_ANY aPRESUMED_NOTHING_word aPRESUMED_NOTHING_word_value aPRESUMED_ANY_word aPRESUMED_ANY_word_value aPRESUMED_COMMIT aPRESUMED_COMMIT_word aPRESUMED_COMMIT_word_value aPRESUMED_ABORT aPRESUMED_ABORT_word aPRESUMED_ABORT_word_value G_aPRESUMED_NOTHING_word_value G_aPRESUMED_ANY_word_value G_aPRESUMED_COMMIT_word_value G_aPRESUMED_ABORT_word_value zc h0 n0 = Q
  show GoW p e below s Q 2 16 (s₁.setTop (mkF m 0 #[.val (.int x0), .unset, .unset, .unset, .unset, .unset] []))
  have f1 := rng32 x0
  refine GoW.st (fun _ k => XS.iloadN X0.here hx rfl (hb hby at_0) rfl k) ?_
  refine GoW.st (fun _ k => XS.iconst X0.here hx rfl (hb hby at_1) k) ?_
  refine GoW.st (fun _ k => XS.iand X0.here hx rfl (hb hby at_2) rfl k) ?_
  refine GoW.st (fun _ k => XS.istoreN X0.here hx rfl (hb hby at_3) rfl (l' := #[.val (.int x0), .val (.int (x0 &&& (3 : Int32))), .unset, .unset, .unset, .unset]) rfl k) ?_
  show GoW p e below s Q 2 16 (s₁.setTop (mkF m 4 #[.val (.int x0), .val (.int (x0 &&& (3 : Int32))), .unset, .unset, .unset, .unset] []))
  have f2 := liI_3
  have f3 : (x0 &&& (3 : Int32)).toInt = x0.toInt % 4 := c_mask x0 (3 : Int32) 2 (by decide) (by decide)
  generalize hv_v4 : (x0 &&& (3 : Int32)) = v4 at f3 ⊢
  have cs5 : v4.toInt = 0 ∨ v4.toInt = 1 ∨ v4.toInt = 2 ∨ v4.toInt = 3 := by omega
  rcases cs5 with cs6 | cs7 | cs8 | cs9
  ·
    have cs6' : v4 = (0 : Int32) := eqI cs6 liI_0 rfl
    subst cs6'
    have f10 := liI_0
    show GoW p e below s Q 2 16 (s₁.setTop (mkF m 4 #[.val (.int x0), .val (.int (0 : Int32)), .unset, .unset, .unset, .unset] []))
    refine GoW.st (fun _ k => XS.iloadN X0.here hx rfl (hb hby at_4) rfl k) ?_
    refine GoW.st (fun _ k => XS.ifNo X0.here hx rfl (hb hby at_5) rfl ((if0 _ _).trans (teq (eqI liI_0 liI_0 (by decide))).2) k) ?_
    obtain ⟨T11, X11, e11, st11⟩ := getS2 X0 hx hZ hown (host := "") (Or.inl (hw _ (List.mem_of_getElem? (i := 0) rfl))) Via.refl e0 S_aPRESUMED_NOTHING (g := (mkF m 8 #[.val (.int x0), .val (.int (0 : Int32)), .unset, .unset, .unset, .unset] [])) rfl (hb hby at_8)
    refine GoW.st st11 ?_
    show GoW p e below s Q 2 16 (T11.setTop (mkF m 11 #[.val (.int x0), .val (.int (0 : Int32)), .unset, .unset, .unset, .unset] [(.ref aPRESUMED_NOTHING)]))
    refine GoW.st (fun _ k => XS.astoreN X11.here hx rfl (hb hby at_11) rfl rfl (l' := #[.val (.int x0), .val (.int (0 : Int32)), .val (.ref aPRESUMED_NOTHING), .unset, .unset, .unset]) rfl k) ?_
    refine GoW.st (fun _ k => XS.goto X11.here hx rfl (pc0 := 12) (pc' := 43) rfl (hb hby at_12) (by decide) (by decide) k) ?_
    refine GoW.st (fun _ k => XS.iloadN X11.here hx rfl (hb hby at_43) rfl k) ?_
    refine GoW.st (fun _ k => XS.iconst X11.here hx rfl (hb hby at_44) k) ?_
    refine GoW.st (fun _ k => XS.icmpYes X11.here hx rfl (pc0 := 45) (pc' := 52) rfl (hb hby at_45) rfl (feq (neI liI_0 liI_3 (by decide))).2 (by decide) (by decide) k) ?_
    refine GoW.st (fun _ k => XS.iconst X11.here hx rfl (hb hby at_52) k) ?_
    show GoW p e below s Q 2 16 (T11.setTop (mkF m 53 #[.val (.int x0), .val (.int (0 : Int32)), .val (.ref aPRESUMED_NOTHING), .unset, .unset, .unset] [(.int (0 : Int32))]))
    refine GoW.st (fun _ k => XS.istoreN X11.here hx rfl (hb hby at_53) rfl (l' := #[.val (.int x0), .val (.int (0 : Int32)), .val (.ref aPRESUMED_NOTHING), .val (.int (0 : Int32)), .unset, .unset]) rfl k) ?_
    refine GoW.st (fun _ k => XS.aloadN X11.here hx rfl (hb hby at_54) rfl rfl k) ?_
    obtain ⟨cq12, kq12, q12a, q12b, q12c⟩ := isOf hZ e11 E_aPRESUMED_NOTHING
    obtain ⟨_, _, ⟨T12, L12, k12, n12⟩, -, X12, ⟨Lc12, hQ12, l12, y12, z12⟩, st12⟩ := X11.virtualBack hx (y := (⟨"com/example/concordat/concordat/model/Protocol", "isMixed", "()Z"⟩ : MethodName)) (z := (⟨"com/example/concordat/concordat/model/Protocol", "isMixed", "()Z"⟩ : MethodName)) hown (mvT hZ (hw _ (List.mem_of_getElem? (i := 3) rfl))) (mvT hZ (hw _ (List.mem_of_getElem? (i := 4) rfl))) (notFace_of_selects (args := #[]) (mvT hZ (hw _ (List.mem_of_getElem? (i := 6) rfl)))) (mvT hZ (hw _ (List.mem_of_getElem? (i := 6) rfl))) (mvT hZ (hw _ (List.mem_of_getElem? (i := 5) rfl))) (by decide) (backOf (W := 0) (rmmx0 l Z a0 hw [] aPRESUMED_NOTHING aPRESUMED_ANY h0 n0 (Nat.le_trans Z0 K0.1) S_aPRESUMED_ANY ne_aPRESUMED_NOTHING_aPRESUMED_ANY) hZ (hw _ (List.mem_of_getElem? (i := 7) rfl)) (hw _ (List.mem_of_getElem? (i := 1) rfl)) (by decide) (by decide)) q12a q12c (g := (mkF m 55 #[.val (.int x0), .val (.int (0 : Int32)), .val (.ref aPRESUMED_NOTHING), .val (.int (0 : Int32)), .unset, .unset] [(.ref aPRESUMED_NOTHING)])) rfl (by rw [hml]; rfl) (Steps.refl _) (argsL := []) (rest := []) (lenOf pd_1 rfl) rfl (by show 2 * 0 + _ ≤ _; exact Nat.le_of_eq rfl) (hb hby at_55) (fun _ _ => ⟨rfl, e11, (by decide : 0 + 0 ≤ _), (by decide : 0 + 0 ≤ _)⟩)
    dsimp only [Pt.U, Pt.locs, Pt.cells, Pt.slots] at X12 l12 y12 z12 st12 hQ12
    subst l12 y12 z12
    obtain ⟨rfl, N12q, e12⟩ := hQ12
    have N12 := Fr.app N0 N12q
    refine GoW.tr  st12 ?_
    show GoW p e below s Q 2 16 (T12.setTop (mkF m 58 #[.val (.int x0), .val (.int (0 : Int32)), .val (.ref aPRESUMED_NOTHING), .val (.int (0 : Int32)), .unset, .unset] [(.int (0 : Int32))]))
    refine GoW.st (fun _ k => XS.istore X12.here hx rfl (hb hby at_58) rfl (l' := #[.val (.int x0), .val (.int (0 : Int32)), .val (.ref aPRESUMED_NOTHING), .val (.int (0 : Int32)), .val (.int (0 : Int32)), .unset]) rfl k) ?_
    refine GoW.st (fun _ k => XS.aloadN X12.here hx rfl (hb hby at_60) rfl rfl k) ?_
    obtain ⟨cq13, kq13, q13a, q13b, q13c⟩ := isOf hZ e12 E_aPRESUMED_NOTHING
    obtain ⟨_, _, ⟨T13, L13, k13, n13⟩, -, X13, ⟨Lc13, hQ13, l13, y13, z13⟩, st13⟩ := X12.virtualBack hx (y := (⟨"com/example/concordat/concordat/model/Protocol", "word", "()Ljava/lang/String;"⟩ : MethodName)) (z := (⟨"com/example/concordat/concordat/model/Protocol", "word", "()Ljava/lang/String;"⟩ : MethodName)) hown (mvT hZ (hw _ (List.mem_of_getElem? (i := 10) rfl))) (mvT hZ (hw _ (List.mem_of_getElem? (i := 11) rfl))) (notFace_of_selects (args := #[]) (mvT hZ (hw _ (List.mem_of_getElem? (i := 13) rfl)))) (mvT hZ (hw _ (List.mem_of_getElem? (i := 13) rfl))) (mvT hZ (hw _ (List.mem_of_getElem? (i := 12) rfl))) (by decide) (backOf (W := 0) (rm2 l Z a0 hw [] aPRESUMED_NOTHING aPRESUMED_NOTHING_word h0 n0 (Nat.le_trans Z0 K0.1) F_aPRESUMED_NOTHING_word) hZ (hw _ (List.mem_of_getElem? (i := 14) rfl)) (hw _ (List.mem_of_getElem? (i := 1) rfl)) (by decide) (by decide)) q13a q13c (g := (mkF m 61 #[.val (.int x0), .val (.int (0 : Int32)), .val (.ref aPRESUMED_NOTHING), .val (.int (0 : Int32)), .val (.int (0 : Int32)), .unset] [(.ref aPRESUMED_NOTHING)])) rfl (by rw [hml]; rfl) (Steps.refl _) (argsL := []) (rest := []) (lenOf pd_2 rfl) rfl (by show 2 * 0 + _ ≤ _; exact Nat.le_of_eq rfl) (hb hby at_61) (fun _ _ => ⟨rfl, e12, (by decide : 0 + 0 ≤ _), (by decide : 0 + 0 ≤ _)⟩)
    dsimp only [Pt.U, Pt.locs, Pt.cells, Pt.slots] at X13 l13 y13 z13 st13 hQ13
    subst l13 y13 z13
    obtain ⟨rfl, N13q, e13⟩ := hQ13
    have N13 := Fr.app N12 N13q
    refine GoW.tr  st13 ?_
    show GoW p e below s Q 2 16 (T13.setTop (mkF m 64 #[.val (.int x0), .val (.int (0 : Int32)), .val (.ref aPRESUMED_NOTHING), .val (.int (0 : Int32)), .val (.int (0 : Int32)), .unset] [(.ref aPRESUMED_NOTHING_word)]))
    obtain ⟨b14, T14, h14, k14, u14, kc14, X14, e14, E14, hS14, hk14, hZ14, hown14, A14, C14, D14, V14, -, -, IB14, -, st14⟩ := ldcSVL (s := s) (vm0 := s.vm) X13 hx hZ hown (hw _ (List.mem_of_getElem? (i := 17) rfl)) (wStr hw) e13 (since0 s) (Nat.zero_le _) (by rw [hh, ← HN0]; exact N13) (fun b cl q => by rw [hsz]; exact q) (Ts := []) (by rw [hsz]; exact IB.start) (by decide) hcst_30 hcw (vs := [(97 : Int32), (110 : Int32), (121 : Int32)].map Value.int) (z := (3 : Int32)) (by first | exact ⟨by decide, rfl⟩ | exact ⟨by decide, by decide +kernel⟩) (by decide) (by decide) (g := (mkF m 64 #[.val (.int x0), .val (.int (0 : Int32)), .val (.ref aPRESUMED_NOTHING), .val (.int (0 : Int32)), .val (.int (0 : Int32)), .unset] [(.ref aPRESUMED_NOTHING_word)])) rfl (hb hby at_64) (n := 12) (by decide) (by decide) (by decide) (by decide)
    have h15 : Sta Z h14 "com/example/concordat/concordat/model/Protocol" "PRESUMED_NOTHING" "Lcom/example/concordat/concordat/model/Protocol;" (.ref aPRESUMED_NOTHING) := S_aPRESUMED_NOTHING.ext E14
    have h16 : Exa Z h14 aPRESUMED_NOTHING "com/example/concordat/concordat/model/Protocol" := E_aPRESUMED_NOTHING.ext E14
    have h17 : Sta Z h14 "com/example/concordat/concordat/model/Protocol" "PRESUMED_ANY" "Lcom/example/concordat/concordat/model/Protocol;" (.ref aPRESUMED_ANY) := S_aPRESUMED_ANY.ext E14
    have h18 : Exa Z h14 aPRESUMED_ANY "com/example/concordat/concordat/model/Protocol" := E_aPRESUMED_ANY.ext E14
    have h19 : Fld Z h14 aPRESUMED_NOTHING "java/lang/Enum" "ordinal" "I" (.int (0 : Int32)) := F_aPRESUMED_NOTHING_ordinal.ext E14
    have h20 : Fld Z h14 aPRESUMED_ANY "java/lang/Enum" "ordinal" "I" (.int (3 : Int32)) := F_aPRESUMED_ANY_ordinal.ext E14
    have h21 : Fld Z h14 aPRESUMED_NOTHING "com/example/concordat/concordat/model/Protocol" "word" "Ljava/lang/String;" (.ref aPRESUMED_NOTHING_word) := F_aPRESUMED_NOTHING_word.ext E14
    have h22 : Exa Z h14 aPRESUMED_NOTHING_word "java/lang/String" := E_aPRESUMED_NOTHING_word.ext E14
    have h23 : Fld Z h14 aPRESUMED_NOTHING_word "java/lang/String" "coder" "B" (.int (0 : Int32)) := F_aPRESUMED_NOTHING_word_coder.ext E14
    have h24 : Fld Z h14 aPRESUMED_NOTHING_word "java/lang/String" "value" "[B" (.ref aPRESUMED_NOTHING_word_value) := F_aPRESUMED_NOTHING_word_value.ext E14
    have h25 : Fld Z h14 aPRESUMED_ANY "com/example/concordat/concordat/model/Protocol" "word" "Ljava/lang/String;" (.ref aPRESUMED_ANY_word) := F_aPRESUMED_ANY_word.ext E14
    have h26 : Exa Z h14 aPRESUMED_ANY_word "java/lang/String" := E_aPRESUMED_ANY_word.ext E14
    have h27 : Fld Z h14 aPRESUMED_ANY_word "java/lang/String" "coder" "B" (.int (0 : Int32)) := F_aPRESUMED_ANY_word_coder.ext E14
    have h28 : Fld Z h14 aPRESUMED_ANY_word "java/lang/String" "value" "[B" (.ref aPRESUMED_ANY_word_value) := F_aPRESUMED_ANY_word_value.ext E14
    have h29 : Sta Z h14 "com/example/concordat/concordat/model/Protocol" "PRESUMED_COMMIT" "Lcom/example/concordat/concordat/model/Protocol;" (.ref aPRESUMED_COMMIT) := S_aPRESUMED_COMMIT.ext E14
    have h30 : Exa Z h14 aPRESUMED_COMMIT "com/example/concordat/concordat/model/Protocol" := E_aPRESUMED_COMMIT.ext E14
    have h31 : Fld Z h14 aPRESUMED_COMMIT "java/lang/Enum" "ordinal" "I" (.int (2 : Int32)) := F_aPRESUMED_COMMIT_ordinal.ext E14
    have h32 : Fld Z h14 aPRESUMED_COMMIT "com/example/concordat/concordat/model/Protocol" "word" "Ljava/lang/String;" (.ref aPRESUMED_COMMIT_word) := F_aPRESUMED_COMMIT_word.ext E14
    have h33 : Exa Z h14 aPRESUMED_COMMIT_word "java/lang/String" := E_aPRESUMED_COMMIT_word.ext E14
    have h34 : Fld Z h14 aPRESUMED_COMMIT_word "java/lang/String" "coder" "B" (.int (0 : Int32)) := F_aPRESUMED_COMMIT_word_coder.ext E14
    have h35 : Fld Z h14 aPRESUMED_COMMIT_word "java/lang/String" "value" "[B" (.ref aPRESUMED_COMMIT_word_value) := F_aPRESUMED_COMMIT_word_value.ext E14
    have h36 : Sta Z h14 "com/example/concordat/concordat/model/Protocol" "PRESUMED_ABORT" "Lcom/example/concordat/concordat/model/Protocol;" (.ref aPRESUMED_ABORT) := S_aPRESUMED_ABORT.ext E14
    have h37 : Exa Z h14 aPRESUMED_ABORT "com/example/concordat/concordat/model/Protocol" := E_aPRESUMED_ABORT.ext E14
    have h38 : Fld Z h14 aPRESUMED_ABORT "java/lang/Enum" "ordinal" "I" (.int (1 : Int32)) := F_aPRESUMED_ABORT_ordinal.ext E14
    have h39 : Fld Z h14 aPRESUMED_ABORT "com/example/concordat/concordat/model/Protocol" "word" "Ljava/lang/String;" (.ref aPRESUMED_ABORT_word) := F_aPRESUMED_ABORT_word.ext E14
    have h40 : Exa Z h14 aPRESUMED_ABORT_word "java/lang/String" := E_aPRESUMED_ABORT_word.ext E14
    have h41 : Fld Z h14 aPRESUMED_ABORT_word "java/lang/String" "coder" "B" (.int (0 : Int32)) := F_aPRESUMED_ABORT_word_coder.ext E14
    have h42 : Fld Z h14 aPRESUMED_ABORT_word "java/lang/String" "value" "[B" (.ref aPRESUMED_ABORT_word_value) := F_aPRESUMED_ABORT_word_value.ext E14
    have h43 : Vec Z h14 aPRESUMED_NOTHING_word_value .byte (3 : Int32) (ints G_aPRESUMED_NOTHING_word_value) := V_aPRESUMED_NOTHING_word_value.ext E14
    have h44 : Vec Z h14 aPRESUMED_ANY_word_value .byte (3 : Int32) (ints G_aPRESUMED_ANY_word_value) := V_aPRESUMED_ANY_word_value.ext E14
    have h45 : Vec Z h14 aPRESUMED_COMMIT_word_value .byte (3 : Int32) (ints G_aPRESUMED_COMMIT_word_value) := V_aPRESUMED_COMMIT_word_value.ext E14
    have h46 : Vec Z h14 aPRESUMED_ABORT_word_value .byte (3 : Int32) (ints G_aPRESUMED_ABORT_word_value) := V_aPRESUMED_ABORT_word_value.ext E14
    have h47 : Sta Z h14 "java/lang/String" "COMPACT_STRINGS" "Z" (.int zc) := S_CS.ext E14
    have K14 : Keep h0 h14 [] := K0.ext E14
    obtain ⟨FL14, q14⟩ : ∃ F : Nat → Int32, F = lst [(97 : Int32), (110 : Int32), (121 : Int32)] := ⟨_, rfl⟩
    have V14' : Vec Z h14 u14 .byte (3 : Int32) (ints FL14) := by rw [q14]; exact vec_arv V14 (by decide)
    have f48 : (FL14 0).toInt = 97 := by rw [q14]; decide
    have f49 : (FL14 1).toInt = 110 := by rw [q14]; decide
    have f50 : (FL14 2).toInt = 121 := by rw [q14]; decide
    refine GoW.st st14 ?_
    show GoW p e below s Q 2 16 (T14.setTop (mkF m 66 #[.val (.int x0), .val (.int (0 : Int32)), .val (.ref aPRESUMED_NOTHING), .val (.int (0 : Int32)), .val (.int (0 : Int32)), .unset] [(.ref b14), (.ref aPRESUMED_NOTHING_word)]))
    have hne : aPRESUMED_NOTHING_word ≠ b14 := str_ne h24 D14 h43 V14' (by decide) (by decide) (by omega)
    have f52 := rng32 zc
    have p53 : ¬ zc.toInt = 0 := by omega
    obtain ⟨cq51, kq51, q51a, q51b, q51c⟩ := isOf hZ14 e14 h22
    obtain ⟨_, _, ⟨T51, L51, k51, n51⟩, -, X51, ⟨Lc51, hQ51, l51, y51, z51⟩, st51⟩ := X14.virtualBack hx (y := (⟨"java/lang/String", "equals", "(Ljava/lang/Object;)Z"⟩ : MethodName)) (z := (⟨"java/lang/String", "equals", "(Ljava/lang/Object;)Z"⟩ : MethodName)) hown14 (mvT hZ14 (hw _ (List.mem_of_getElem? (i := 25) rfl))) (mvT hZ14 (hw _ (List.mem_of_getElem? (i := 26) rfl))) (notFace_of_selects (args := #[]) (mvT hZ14 (hw _ (List.mem_of_getElem? (i := 28) rfl)))) (mvT hZ14 (hw _ (List.mem_of_getElem? (i := 28) rfl))) (mvT hZ14 (hw _ (List.mem_of_getElem? (i := 27) rfl))) (by decide) (backOf (W := 0) (rm3 l Z a0 hw [] aPRESUMED_NOTHING_word b14 aPRESUMED_NOTHING_word_value u14 G_aPRESUMED_NOTHING_word_value FL14 zc h14 n0 (Nat.le_trans Z0 K14.1) hne h22 A14 h23 h24 C14 D14 h43 V14' h47 p53) hZ14 (hw _ (List.mem_of_getElem? (i := 29) rfl)) (hw _ (List.mem_of_getElem? (i := 18) rfl)) (by decide) (by decide)) q51a q51c (g := (mkF m 66 #[.val (.int x0), .val (.int (0 : Int32)), .val (.ref aPRESUMED_NOTHING), .val (.int (0 : Int32)), .val (.int (0 : Int32)), .unset] [(.ref b14), (.ref aPRESUMED_NOTHING_word)])) rfl (by rw [hml]; rfl) (Steps.refl _) (argsL := [(.ref b14)]) (rest := []) (lenOf pd_3 rfl) rfl (by show 2 * 0 + _ ≤ _; exact Nat.le_of_eq rfl) (hb hby at_66) (fun _ _ => ⟨rfl, e14, (by decide : 2 + 0 ≤ _), (by decide : 16 + 0 ≤ _)⟩)
    dsimp only [Pt.U, Pt.locs, Pt.cells, Pt.slots] at X51 l51 y51 z51 st51 hQ51
    subst l51 y51 z51
    obtain ⟨rr_54, rfl, N51q, f55, f56, f57, e51⟩ := hQ51
    have N51 := Fr.app N13 N51q
    refine GoW.tr  st51 ?_
    show GoW p e below s Q 2 16 (T51.setTop (mkF m 69 #[.val (.int x0), .val (.int (0 : Int32)), .val (.ref aPRESUMED_NOTHING), .val (.int (0 : Int32)), .val (.int (0 : Int32)), .unset] [(.int rr_54)]))
    have f58 := rng32 rr_54
    refine GoW.st (fun _ k => XS.istore X51.here hx rfl (hb hby at_69) rfl (l' := #[.val (.int x0), .val (.int (0 : Int32)), .val (.ref aPRESUMED_NOTHING), .val (.int (0 : Int32)), .val (.int (0 : Int32)), .val (.int rr_54)]) rfl k) ?_
    refine GoW.st (fun _ k => XS.iload X51.here hx rfl (hb hby at_71) rfl k) ?_
    refine GoW.st (fun _ k => XS.iloadN X51.here hx rfl (hb hby at_73) rfl k) ?_
    refine GoW.st (fun _ k => XS.icmpNo X51.here hx rfl (hb hby at_74) rfl (teq (eqI liI_0 liI_0 (by decide))).2 k) ?_
    refine GoW.st (fun _ k => XS.iload X51.here hx rfl (hb hby at_77) rfl k) ?_
    refine GoW.st (fun _ k => XS.iload X51.here hx rfl (hb hby at_79) rfl k) ?_
    show GoW p e below s Q 2 16 (T51.setTop (mkF m 81 #[.val (.int x0), .val (.int (0 : Int32)), .val (.ref aPRESUMED_NOTHING), .val (.int (0 : Int32)), .val (.int (0 : Int32)), .val (.int rr_54)] [(.int rr_54), (.int (0 : Int32))]))
    have c59 : 0 = rr_54.toInt := by omega
    refine GoW.st (fun _ k => XS.icmpNo X51.here hx rfl (hb hby at_81) rfl (teq (eqI liI_0 rfl c59)).2 k) ?_
    refine GoW.st (fun _ k => XS.iconst X51.here hx rfl (hb hby at_84) k) ?_
    refine GoW.st (fun _ k => XS.goto X51.here hx rfl (pc0 := 85) (pc' := 89) rfl (hb hby at_85) (by decide) (by decide) k) ?_
    show GoW p e below s Q 2 16 (T51.setTop (mkF m 89 #[.val (.int x0), .val (.int (0 : Int32)), .val (.ref aPRESUMED_NOTHING), .val (.int (0 : Int32)), .val (.int (0 : Int32)), .val (.int rr_54)] [(.int (1 : Int32))]))
    have f60 := liI_1
    exact GoW.retN hS14 (vm0 := T14.vm) X51 (by rw [e51]; exact hk14) hx hlk (by simp) Bd.returns (hb hby at_89) (z' := (1 : Int32)) (by decide) (by rw [← hQ, e51]; exact ⟨rfl, N51, K14⟩) (by decide) (by decide)
  ·
    have cs7' : v4 = (1 : Int32) := eqI cs7 liI_1 rfl
    subst cs7'
    have f61 := liI_1
    show GoW p e below s Q 2 16 (s₁.setTop (mkF m 4 #[.val (.int x0), .val (.int (1 : Int32)), .unset, .unset, .unset, .unset] []))
    refine GoW.st (fun _ k => XS.iloadN X0.here hx rfl (hb hby at_4) rfl k) ?_
    refine GoW.st (fun _ k => XS.ifYes X0.here hx rfl (pc0 := 5) (pc' := 15) rfl (hb hby at_5) rfl ((if0 _ _).trans (feq (neI liI_1 liI_0 (by decide))).2) (by decide) (by decide) k) ?_
    refine GoW.st (fun _ k => XS.iloadN X0.here hx rfl (hb hby at_15) rfl k) ?_
    refine GoW.st (fun _ k => XS.iconst X0.here hx rfl (hb hby at_16) k) ?_
    refine GoW.st (fun _ k => XS.icmpNo X0.here hx rfl (hb hby at_17) rfl (teq (eqI liI_1 liI_1 (by decide))).2 k) ?_
    obtain ⟨T62, X62, e62, st62⟩ := getS2 X0 hx hZ hown (host := "") (Or.inl (hw _ (List.mem_of_getElem? (i := 42) rfl))) Via.refl e0 S_aPRESUMED_ABORT (g := (mkF m 20 #[.val (.int x0), .val (.int (1 : Int32)), .unset, .unset, .unset, .unset] [])) rfl (hb hby at_20)
    refine GoW.st st62 ?_
    show GoW p e below s Q 2 16 (T62.setTop (mkF m 23 #[.val (.int x0), .val (.int (1 : Int32)), .unset, .unset, .unset, .unset] [(.ref aPRESUMED_ABORT)]))
    refine GoW.st (fun _ k => XS.astoreN X62.here hx rfl (hb hby at_23) rfl rfl (l' := #[.val (.int x0), .val (.int (1 : Int32)), .val (.ref aPRESUMED_ABORT), .unset, .unset, .unset]) rfl k) ?_
    refine GoW.st (fun _ k => XS.goto X62.here hx rfl (pc0 := 24) (pc' := 43) rfl (hb hby at_24) (by decide) (by decide) k) ?_
    refine GoW.st (fun _ k => XS.iloadN X62.here hx rfl (hb hby at_43) rfl k) ?_
    refine GoW.st (fun _ k => XS.iconst X62.here hx rfl (hb hby at_44) k) ?_
    refine GoW.st (fun _ k => XS.icmpYes X62.here hx rfl (pc0 := 45) (pc' := 52) rfl (hb hby at_45) rfl (feq (neI liI_1 liI_3 (by decide))).2 (by decide) (by decide) k) ?_
    refine GoW.st (fun _ k => XS.iconst X62.here hx rfl (hb hby at_52) k) ?_
    show GoW p e below s Q 2 16 (T62.setTop (mkF m 53 #[.val (.int x0), .val (.int (1 : Int32)), .val (.ref aPRESUMED_ABORT), .unset, .unset, .unset] [(.int (0 : Int32))]))
    refine GoW.st (fun _ k => XS.istoreN X62.here hx rfl (hb hby at_53) rfl (l' := #[.val (.int x0), .val (.int (1 : Int32)), .val (.ref aPRESUMED_ABORT), .val (.int (0 : Int32)), .unset, .unset]) rfl k) ?_
    refine GoW.st (fun _ k => XS.aloadN X62.here hx rfl (hb hby at_54) rfl rfl k) ?_
    obtain ⟨cq63, kq63, q63a, q63b, q63c⟩ := isOf hZ e62 E_aPRESUMED_ABORT
    obtain ⟨_, _, ⟨T63, L63, k63, n63⟩, -, X63, ⟨Lc63, hQ63, l63, y63, z63⟩, st63⟩ := X62.virtualBack hx (y := (⟨"com/example/concordat/concordat/model/Protocol", "isMixed", "()Z"⟩ : MethodName)) (z := (⟨"com/example/concordat/concordat/model/Protocol", "isMixed", "()Z"⟩ : MethodName)) hown (mvT hZ (hw _ (List.mem_of_getElem? (i := 3) rfl))) (mvT hZ (hw _ (List.mem_of_getElem? (i := 4) rfl))) (notFace_of_selects (args := #[]) (mvT hZ (hw _ (List.mem_of_getElem? (i := 6) rfl)))) (mvT hZ (hw _ (List.mem_of_getElem? (i := 6) rfl))) (mvT hZ (hw _ (List.mem_of_getElem? (i := 5) rfl))) (by decide) (backOf (W := 0) (rmmx0 l Z a0 hw [] aPRESUMED_ABORT aPRESUMED_ANY h0 n0 (Nat.le_trans Z0 K0.1) S_aPRESUMED_ANY (Ne.symm ne_aPRESUMED_ANY_aPRESUMED_ABORT)) hZ (hw _ (List.mem_of_getElem? (i := 7) rfl)) (hw _ (List.mem_of_getElem? (i := 1) rfl)) (by decide) (by decide)) q63a q63c (g := (mkF m 55 #[.val (.int x0), .val (.int (1 : Int32)), .val (.ref aPRESUMED_ABORT), .val (.int (0 : Int32)), .unset, .unset] [(.ref aPRESUMED_ABORT)])) rfl (by rw [hml]; rfl) (Steps.refl _) (argsL := []) (rest := []) (lenOf pd_1 rfl) rfl (by show 2 * 0 + _ ≤ _; exact Nat.le_of_eq rfl) (hb hby at_55) (fun _ _ => ⟨rfl, e62, (by decide : 0 + 0 ≤ _), (by decide : 0 + 0 ≤ _)⟩)
    dsimp only [Pt.U, Pt.locs, Pt.cells, Pt.slots] at X63 l63 y63 z63 st63 hQ63
    subst l63 y63 z63
    obtain ⟨rfl, N63q, e63⟩ := hQ63
    have N63 := Fr.app N0 N63q
    refine GoW.tr  st63 ?_
    show GoW p e below s Q 2 16 (T63.setTop (mkF m 58 #[.val (.int x0), .val (.int (1 : Int32)), .val (.ref aPRESUMED_ABORT), .val (.int (0 : Int32)), .unset, .unset] [(.int (0 : Int32))]))
    have f64 := liI_0
    refine GoW.st (fun _ k => XS.istore X63.here hx rfl (hb hby at_58) rfl (l' := #[.val (.int x0), .val (.int (1 : Int32)), .val (.ref aPRESUMED_ABORT), .val (.int (0 : Int32)), .val (.int (0 : Int32)), .unset]) rfl k) ?_
    refine GoW.st (fun _ k => XS.aloadN X63.here hx rfl (hb hby at_60) rfl rfl k) ?_
    obtain ⟨cq65, kq65, q65a, q65b, q65c⟩ := isOf hZ e63 E_aPRESUMED_ABORT
    obtain ⟨_, _, ⟨T65, L65, k65, n65⟩, -, X65, ⟨Lc65, hQ65, l65, y65, z65⟩, st65⟩ := X63.virtualBack hx (y := (⟨"com/example/concordat/concordat/model/Protocol", "word", "()Ljava/lang/String;"⟩ : MethodName)) (z := (⟨"com/example/concordat/concordat/model/Protocol", "word", "()Ljava/lang/String;"⟩ : MethodName)) hown (mvT hZ (hw _ (List.mem_of_getElem? (i := 10) rfl))) (mvT hZ (hw _ (List.mem_of_getElem? (i := 11) rfl))) (notFace_of_selects (args := #[]) (mvT hZ (hw _ (List.mem_of_getElem? (i := 13) rfl)))) (mvT hZ (hw _ (List.mem_of_getElem? (i := 13) rfl))) (mvT hZ (hw _ (List.mem_of_getElem? (i := 12) rfl))) (by decide) (backOf (W := 0) (rm2 l Z a0 hw [] aPRESUMED_ABORT aPRESUMED_ABORT_word h0 n0 (Nat.le_trans Z0 K0.1) F_aPRESUMED_ABORT_word) hZ (hw _ (List.mem_of_getElem? (i := 14) rfl)) (hw _ (List.mem_of_getElem? (i := 1) rfl)) (by decide) (by decide)) q65a q65c (g := (mkF m 61 #[.val (.int x0), .val (.int (1 : Int32)), .val (.ref aPRESUMED_ABORT), .val (.int (0 : Int32)), .val (.int (0 : Int32)), .unset] [(.ref aPRESUMED_ABORT)])) rfl (by rw [hml]; rfl) (Steps.refl _) (argsL := []) (rest := []) (lenOf pd_2 rfl) rfl (by show 2 * 0 + _ ≤ _; exact Nat.le_of_eq rfl) (hb hby at_61) (fun _ _ => ⟨rfl, e63, (by decide : 0 + 0 ≤ _), (by decide : 0 + 0 ≤ _)⟩)
    dsimp only [Pt.U, Pt.locs, Pt.cells, Pt.slots] at X65 l65 y65 z65 st65 hQ65
    subst l65 y65 z65
    obtain ⟨rfl, N65q, e65⟩ := hQ65
    have N65 := Fr.app N63 N65q
    refine GoW.tr  st65 ?_
    show GoW p e below s Q 2 16 (T65.setTop (mkF m 64 #[.val (.int x0), .val (.int (1 : Int32)), .val (.ref aPRESUMED_ABORT), .val (.int (0 : Int32)), .val (.int (0 : Int32)), .unset] [(.ref aPRESUMED_ABORT_word)]))
    obtain ⟨b66, T66, h66, k66, u66, kc66, X66, e66, E66, hS66, hk66, hZ66, hown66, A66, C66, D66, V66, -, -, IB66, -, st66⟩ := ldcSVL (s := s) (vm0 := s.vm) X65 hx hZ hown (hw _ (List.mem_of_getElem? (i := 17) rfl)) (wStr hw) e65 (since0 s) (Nat.zero_le _) (by rw [hh, ← HN0]; exact N65) (fun b cl q => by rw [hsz]; exact q) (Ts := []) (by rw [hsz]; exact IB.start) (by decide) hcst_30 hcw (vs := [(97 : Int32), (110 : Int32), (121 : Int32)].map Value.int) (z := (3 : Int32)) (by first | exact ⟨by decide, rfl⟩ | exact ⟨by decide, by decide +kernel⟩) (by decide) (by decide) (g := (mkF m 64 #[.val (.int x0), .val (.int (1 : Int32)), .val (.ref aPRESUMED_ABORT), .val (.int (0 : Int32)), .val (.int (0 : Int32)), .unset] [(.ref aPRESUMED_ABORT_word)])) rfl (hb hby at_64) (n := 12) (by decide) (by decide) (by decide) (by decide)
    have h67 : Sta Z h66 "com/example/concordat/concordat/model/Protocol" "PRESUMED_NOTHING" "Lcom/example/concordat/concordat/model/Protocol;" (.ref aPRESUMED_NOTHING) := S_aPRESUMED_NOTHING.ext E66
    have h68 : Exa Z h66 aPRESUMED_NOTHING "com/example/concordat/concordat/model/Protocol" := E_aPRESUMED_NOTHING.ext E66
    have h69 : Sta Z h66 "com/example/concordat/concordat/model/Protocol" "PRESUMED_ANY" "Lcom/example/concordat/concordat/model/Protocol;" (.ref aPRESUMED_ANY) := S_aPRESUMED_ANY.ext E66
    have h70 : Exa Z h66 aPRESUMED_ANY "com/example/concordat/concordat/model/Protocol" := E_aPRESUMED_ANY.ext E66
    have h71 : Fld Z h66 aPRESUMED_NOTHING "java/lang/Enum" "ordinal" "I" (.int (0 : Int32)) := F_aPRESUMED_NOTHING_ordinal.ext E66
    have h72 : Fld Z h66 aPRESUMED_ANY "java/lang/Enum" "ordinal" "I" (.int (3 : Int32)) := F_aPRESUMED_ANY_ordinal.ext E66
    have h73 : Fld Z h66 aPRESUMED_NOTHING "com/example/concordat/concordat/model/Protocol" "word" "Ljava/lang/String;" (.ref aPRESUMED_NOTHING_word) := F_aPRESUMED_NOTHING_word.ext E66
    have h74 : Exa Z h66 aPRESUMED_NOTHING_word "java/lang/String" := E_aPRESUMED_NOTHING_word.ext E66
    have h75 : Fld Z h66 aPRESUMED_NOTHING_word "java/lang/String" "coder" "B" (.int (0 : Int32)) := F_aPRESUMED_NOTHING_word_coder.ext E66
    have h76 : Fld Z h66 aPRESUMED_NOTHING_word "java/lang/String" "value" "[B" (.ref aPRESUMED_NOTHING_word_value) := F_aPRESUMED_NOTHING_word_value.ext E66
    have h77 : Fld Z h66 aPRESUMED_ANY "com/example/concordat/concordat/model/Protocol" "word" "Ljava/lang/String;" (.ref aPRESUMED_ANY_word) := F_aPRESUMED_ANY_word.ext E66
    have h78 : Exa Z h66 aPRESUMED_ANY_word "java/lang/String" := E_aPRESUMED_ANY_word.ext E66
    have h79 : Fld Z h66 aPRESUMED_ANY_word "java/lang/String" "coder" "B" (.int (0 : Int32)) := F_aPRESUMED_ANY_word_coder.ext E66
    have h80 : Fld Z h66 aPRESUMED_ANY_word "java/lang/String" "value" "[B" (.ref aPRESUMED_ANY_word_value) := F_aPRESUMED_ANY_word_value.ext E66
    have h81 : Sta Z h66 "com/example/concordat/concordat/model/Protocol" "PRESUMED_COMMIT" "Lcom/example/concordat/concordat/model/Protocol;" (.ref aPRESUMED_COMMIT) := S_aPRESUMED_COMMIT.ext E66
    have h82 : Exa Z h66 aPRESUMED_COMMIT "com/example/concordat/concordat/model/Protocol" := E_aPRESUMED_COMMIT.ext E66
    have h83 : Fld Z h66 aPRESUMED_COMMIT "java/lang/Enum" "ordinal" "I" (.int (2 : Int32)) := F_aPRESUMED_COMMIT_ordinal.ext E66
    have h84 : Fld Z h66 aPRESUMED_COMMIT "com/example/concordat/concordat/model/Protocol" "word" "Ljava/lang/String;" (.ref aPRESUMED_COMMIT_word) := F_aPRESUMED_COMMIT_word.ext E66
    have h85 : Exa Z h66 aPRESUMED_COMMIT_word "java/lang/String" := E_aPRESUMED_COMMIT_word.ext E66
    have h86 : Fld Z h66 aPRESUMED_COMMIT_word "java/lang/String" "coder" "B" (.int (0 : Int32)) := F_aPRESUMED_COMMIT_word_coder.ext E66
    have h87 : Fld Z h66 aPRESUMED_COMMIT_word "java/lang/String" "value" "[B" (.ref aPRESUMED_COMMIT_word_value) := F_aPRESUMED_COMMIT_word_value.ext E66
    have h88 : Sta Z h66 "com/example/concordat/concordat/model/Protocol" "PRESUMED_ABORT" "Lcom/example/concordat/concordat/model/Protocol;" (.ref aPRESUMED_ABORT) := S_aPRESUMED_ABORT.ext E66
    have h89 : Exa Z h66 aPRESUMED_ABORT "com/example/concordat/concordat/model/Protocol" := E_aPRESUMED_ABORT.ext E66
    have h90 : Fld Z h66 aPRESUMED_ABORT "java/lang/Enum" "ordinal" "I" (.int (1 : Int32)) := F_aPRESUMED_ABORT_ordinal.ext E66
    have h91 : Fld Z h66 aPRESUMED_ABORT "com/example/concordat/concordat/model/Protocol" "word" "Ljava/lang/String;" (.ref aPRESUMED_ABORT_word) := F_aPRESUMED_ABORT_word.ext E66
    have h92 : Exa Z h66 aPRESUMED_ABORT_word "java/lang/String" := E_aPRESUMED_ABORT_word.ext E66
    have h93 : Fld Z h66 aPRESUMED_ABORT_word "java/lang/String" "coder" "B" (.int (0 : Int32)) := F_aPRESUMED_ABORT_word_coder.ext E66
    have h94 : Fld Z h66 aPRESUMED_ABORT_word "java/lang/String" "value" "[B" (.ref aPRESUMED_ABORT_word_value) := F_aPRESUMED_ABORT_word_value.ext E66
    have h95 : Vec Z h66 aPRESUMED_NOTHING_word_value .byte (3 : Int32) (ints G_aPRESUMED_NOTHING_word_value) := V_aPRESUMED_NOTHING_word_value.ext E66
    have h96 : Vec Z h66 aPRESUMED_ANY_word_value .byte (3 : Int32) (ints G_aPRESUMED_ANY_word_value) := V_aPRESUMED_ANY_word_value.ext E66
    have h97 : Vec Z h66 aPRESUMED_COMMIT_word_value .byte (3 : Int32) (ints G_aPRESUMED_COMMIT_word_value) := V_aPRESUMED_COMMIT_word_value.ext E66
    have h98 : Vec Z h66 aPRESUMED_ABORT_word_value .byte (3 : Int32) (ints G_aPRESUMED_ABORT_word_value) := V_aPRESUMED_ABORT_word_value.ext E66
    have h99 : Sta Z h66 "java/lang/String" "COMPACT_STRINGS" "Z" (.int zc) := S_CS.ext E66
    have K66 : Keep h0 h66 [] := K0.ext E66
    obtain ⟨FL66, q66⟩ : ∃ F : Nat → Int32, F = lst [(97 : Int32), (110 : Int32), (121 : Int32)] := ⟨_, rfl⟩
    have V66' : Vec Z h66 u66 .byte (3 : Int32) (ints FL66) := by rw [q66]; exact vec_arv V66 (by decide)
    have f100 : (FL66 0).toInt = 97 := by rw [q66]; decide
    have f101 : (FL66 1).toInt = 110 := by rw [q66]; decide
    have f102 : (FL66 2).toInt = 121 := by rw [q66]; decide
    refine GoW.st st66 ?_
    show GoW p e below s Q 2 16 (T66.setTop (mkF m 66 #[.val (.int x0), .val (.int (1 : Int32)), .val (.ref aPRESUMED_ABORT), .val (.int (0 : Int32)), .val (.int (0 : Int32)), .unset] [(.ref b66), (.ref aPRESUMED_ABORT_word)]))
    have hne : aPRESUMED_ABORT_word ≠ b66 := str_ne h94 D66 h98 V66' (by decide) (by decide) (by omega)
    have f104 := rng32 zc
    have p105 : ¬ zc.toInt = 0 := by omega
    obtain ⟨cq103, kq103, q103a, q103b, q103c⟩ := isOf hZ66 e66 h92
    obtain ⟨_, _, ⟨T103, L103, k103, n103⟩, -, X103, ⟨Lc103, hQ103, l103, y103, z103⟩, st103⟩ := X66.virtualBack hx (y := (⟨"java/lang/String", "equals", "(Ljava/lang/Object;)Z"⟩ : MethodName)) (z := (⟨"java/lang/String", "equals", "(Ljava/lang/Object;)Z"⟩ : MethodName)) hown66 (mvT hZ66 (hw _ (List.mem_of_getElem? (i := 25) rfl))) (mvT hZ66 (hw _ (List.mem_of_getElem? (i := 26) rfl))) (notFace_of_selects (args := #[]) (mvT hZ66 (hw _ (List.mem_of_getElem? (i := 28) rfl)))) (mvT hZ66 (hw _ (List.mem_of_getElem? (i := 28) rfl))) (mvT hZ66 (hw _ (List.mem_of_getElem? (i := 27) rfl))) (by decide) (backOf (W := 0) (rm3 l Z a0 hw [] aPRESUMED_ABORT_word b66 aPRESUMED_ABORT_word_value u66 G_aPRESUMED_ABORT_word_value FL66 zc h66 n0 (Nat.le_trans Z0 K66.1) hne h92 A66 h93 h94 C66 D66 h98 V66' h99 p105) hZ66 (hw _ (List.mem_of_getElem? (i := 29) rfl)) (hw _ (List.mem_of_getElem? (i := 18) rfl)) (by decide) (by decide)) q103a q103c (g := (mkF m 66 #[.val (.int x0), .val (.int (1 : Int32)), .val (.ref aPRESUMED_ABORT), .val (.int (0 : Int32)), .val (.int (0 : Int32)), .unset] [(.ref b66), (.ref aPRESUMED_ABORT_word)])) rfl (by rw [hml]; rfl) (Steps.refl _) (argsL := [(.ref b66)]) (rest := []) (lenOf pd_3 rfl) rfl (by show 2 * 0 + _ ≤ _; exact Nat.le_of_eq rfl) (hb hby at_66) (fun _ _ => ⟨rfl, e66, (by decide : 2 + 0 ≤ _), (by decide : 16 + 0 ≤ _)⟩)
    dsimp only [Pt.U, Pt.locs, Pt.cells, Pt.slots] at X103 l103 y103 z103 st103 hQ103
    subst l103 y103 z103
    obtain ⟨rr_106, rfl, N103q, f107, f108, f109, e103⟩ := hQ103
    have N103 := Fr.app N65 N103q
    refine GoW.tr  st103 ?_
    show GoW p e below s Q 2 16 (T103.setTop (mkF m 69 #[.val (.int x0), .val (.int (1 : Int32)), .val (.ref aPRESUMED_ABORT), .val (.int (0 : Int32)), .val (.int (0 : Int32)), .unset] [(.int rr_106)]))
    have f110 := rng32 rr_106
    refine GoW.st (fun _ k => XS.istore X103.here hx rfl (hb hby at_69) rfl (l' := #[.val (.int x0), .val (.int (1 : Int32)), .val (.ref aPRESUMED_ABORT), .val (.int (0 : Int32)), .val (.int (0 : Int32)), .val (.int rr_106)]) rfl k) ?_
    refine GoW.st (fun _ k => XS.iload X103.here hx rfl (hb hby at_71) rfl k) ?_
    refine GoW.st (fun _ k => XS.iloadN X103.here hx rfl (hb hby at_73) rfl k) ?_
    refine GoW.st (fun _ k => XS.icmpNo X103.here hx rfl (hb hby at_74) rfl (teq (eqI liI_0 liI_0 (by decide))).2 k) ?_
    refine GoW.st (fun _ k => XS.iload X103.here hx rfl (hb hby at_77) rfl k) ?_
    refine GoW.st (fun _ k => XS.iload X103.here hx rfl (hb hby at_79) rfl k) ?_
    show GoW p e below s Q 2 16 (T103.setTop (mkF m 81 #[.val (.int x0), .val (.int (1 : Int32)), .val (.ref aPRESUMED_ABORT), .val (.int (0 : Int32)), .val (.int (0 : Int32)), .val (.int rr_106)] [(.int rr_106), (.int (0 : Int32))]))
    have c111 : 0 = rr_106.toInt := by omega
    refine GoW.st (fun _ k => XS.icmpNo X103.here hx rfl (hb hby at_81) rfl (teq (eqI liI_0 rfl c111)).2 k) ?_
    refine GoW.st (fun _ k => XS.iconst X103.here hx rfl (hb hby at_84) k) ?_
    refine GoW.st (fun _ k => XS.goto X103.here hx rfl (pc0 := 85) (pc' := 89) rfl (hb hby at_85) (by decide) (by decide) k) ?_
    show GoW p e below s Q 2 16 (T103.setTop (mkF m 89 #[.val (.int x0), .val (.int (1 : Int32)), .val (.ref aPRESUMED_ABORT), .val (.int (0 : Int32)), .val (.int (0 : Int32)), .val (.int rr_106)] [(.int (1 : Int32))]))
    exact GoW.retN hS66 (vm0 := T66.vm) X103 (by rw [e103]; exact hk66) hx hlk (by simp) Bd.returns (hb hby at_89) (z' := (1 : Int32)) (by decide) (by rw [← hQ, e103]; exact ⟨rfl, N103, K66⟩) (by decide) (by decide)
  ·
    have cs8' : v4 = (2 : Int32) := eqI cs8 liI_2 rfl
    subst cs8'
    have f112 := liI_2
    show GoW p e below s Q 2 16 (s₁.setTop (mkF m 4 #[.val (.int x0), .val (.int (2 : Int32)), .unset, .unset, .unset, .unset] []))
    refine GoW.st (fun _ k => XS.iloadN X0.here hx rfl (hb hby at_4) rfl k) ?_
    refine GoW.st (fun _ k => XS.ifYes X0.here hx rfl (pc0 := 5) (pc' := 15) rfl (hb hby at_5) rfl ((if0 _ _).trans (feq (neI liI_2 liI_0 (by decide))).2) (by decide) (by decide) k) ?_
    refine GoW.st (fun _ k => XS.iloadN X0.here hx rfl (hb hby at_15) rfl k) ?_
    refine GoW.st (fun _ k => XS.iconst X0.here hx rfl (hb hby at_16) k) ?_
    refine GoW.st (fun _ k => XS.icmpYes X0.here hx rfl (pc0 := 17) (pc' := 27) rfl (hb hby at_17) rfl (feq (neI liI_2 liI_1 (by decide))).2 (by decide) (by decide) k) ?_
    refine GoW.st (fun _ k => XS.iloadN X0.here hx rfl (hb hby at_27) rfl k) ?_
    show GoW p e below s Q 2 16 (s₁.setTop (mkF m 28 #[.val (.int x0), .val (.int (2 : Int32)), .unset, .unset, .unset, .unset] [(.int (2 : Int32))]))
    refine GoW.st (fun _ k => XS.iconst X0.here hx rfl (hb hby at_28) k) ?_
    refine GoW.st (fun _ k => XS.icmpNo X0.here hx rfl (hb hby at_29) rfl (teq (eqI liI_2 liI_2 (by decide))).2 k) ?_
    obtain ⟨T113, X113, e113, st113⟩ := getS2 X0 hx hZ hown (host := "") (Or.inl (hw _ (List.mem_of_getElem? (i := 40) rfl))) Via.refl e0 S_aPRESUMED_COMMIT (g := (mkF m 32 #[.val (.int x0), .val (.int (2 : Int32)), .unset, .unset, .unset, .unset] [])) rfl (hb hby at_32)
    refine GoW.st st113 ?_
    show GoW p e below s Q 2 16 (T113.setTop (mkF m 35 #[.val (.int x0), .val (.int (2 : Int32)), .unset, .unset, .unset, .unset] [(.ref aPRESUMED_COMMIT)]))
    refine GoW.st (fun _ k => XS.astoreN X113.here hx rfl (hb hby at_35) rfl rfl (l' := #[.val (.int x0), .val (.int (2 : Int32)), .val (.ref aPRESUMED_COMMIT), .unset, .unset, .unset]) rfl k) ?_
    refine GoW.st (fun _ k => XS.goto X113.here hx rfl (pc0 := 36) (pc' := 43) rfl (hb hby at_36) (by decide) (by decide) k) ?_
    refine GoW.st (fun _ k => XS.iloadN X113.here hx rfl (hb hby at_43) rfl k) ?_
    refine GoW.st (fun _ k => XS.iconst X113.here hx rfl (hb hby at_44) k) ?_
    refine GoW.st (fun _ k => XS.icmpYes X113.here hx rfl (pc0 := 45) (pc' := 52) rfl (hb hby at_45) rfl (feq (neI liI_2 liI_3 (by decide))).2 (by decide) (by decide) k) ?_
    refine GoW.st (fun _ k => XS.iconst X113.here hx rfl (hb hby at_52) k) ?_
    show GoW p e below s Q 2 16 (T113.setTop (mkF m 53 #[.val (.int x0), .val (.int (2 : Int32)), .val (.ref aPRESUMED_COMMIT), .unset, .unset, .unset] [(.int (0 : Int32))]))
    refine GoW.st (fun _ k => XS.istoreN X113.here hx rfl (hb hby at_53) rfl (l' := #[.val (.int x0), .val (.int (2 : Int32)), .val (.ref aPRESUMED_COMMIT), .val (.int (0 : Int32)), .unset, .unset]) rfl k) ?_
    refine GoW.st (fun _ k => XS.aloadN X113.here hx rfl (hb hby at_54) rfl rfl k) ?_
    obtain ⟨cq114, kq114, q114a, q114b, q114c⟩ := isOf hZ e113 E_aPRESUMED_COMMIT
    obtain ⟨_, _, ⟨T114, L114, k114, n114⟩, -, X114, ⟨Lc114, hQ114, l114, y114, z114⟩, st114⟩ := X113.virtualBack hx (y := (⟨"com/example/concordat/concordat/model/Protocol", "isMixed", "()Z"⟩ : MethodName)) (z := (⟨"com/example/concordat/concordat/model/Protocol", "isMixed", "()Z"⟩ : MethodName)) hown (mvT hZ (hw _ (List.mem_of_getElem? (i := 3) rfl))) (mvT hZ (hw _ (List.mem_of_getElem? (i := 4) rfl))) (notFace_of_selects (args := #[]) (mvT hZ (hw _ (List.mem_of_getElem? (i := 6) rfl)))) (mvT hZ (hw _ (List.mem_of_getElem? (i := 6) rfl))) (mvT hZ (hw _ (List.mem_of_getElem? (i := 5) rfl))) (by decide) (backOf (W := 0) (rmmx0 l Z a0 hw [] aPRESUMED_COMMIT aPRESUMED_ANY h0 n0 (Nat.le_trans Z0 K0.1) S_aPRESUMED_ANY (Ne.symm ne_aPRESUMED_ANY_aPRESUMED_COMMIT)) hZ (hw _ (List.mem_of_getElem? (i := 7) rfl)) (hw _ (List.mem_of_getElem? (i := 1) rfl)) (by decide) (by decide)) q114a q114c (g := (mkF m 55 #[.val (.int x0), .val (.int (2 : Int32)), .val (.ref aPRESUMED_COMMIT), .val (.int (0 : Int32)), .unset, .unset] [(.ref aPRESUMED_COMMIT)])) rfl (by rw [hml]; rfl) (Steps.refl _) (argsL := []) (rest := []) (lenOf pd_1 rfl) rfl (by show 2 * 0 + _ ≤ _; exact Nat.le_of_eq rfl) (hb hby at_55) (fun _ _ => ⟨rfl, e113, (by decide : 0 + 0 ≤ _), (by decide : 0 + 0 ≤ _)⟩)
    dsimp only [Pt.U, Pt.locs, Pt.cells, Pt.slots] at X114 l114 y114 z114 st114 hQ114
    subst l114 y114 z114
    obtain ⟨rfl, N114q, e114⟩ := hQ114
    have N114 := Fr.app N0 N114q
    refine GoW.tr  st114 ?_
    show GoW p e below s Q 2 16 (T114.setTop (mkF m 58 #[.val (.int x0), .val (.int (2 : Int32)), .val (.ref aPRESUMED_COMMIT), .val (.int (0 : Int32)), .unset, .unset] [(.int (0 : Int32))]))
    have f115 := liI_0
    refine GoW.st (fun _ k => XS.istore X114.here hx rfl (hb hby at_58) rfl (l' := #[.val (.int x0), .val (.int (2 : Int32)), .val (.ref aPRESUMED_COMMIT), .val (.int (0 : Int32)), .val (.int (0 : Int32)), .unset]) rfl k) ?_
    refine GoW.st (fun _ k => XS.aloadN X114.here hx rfl (hb hby at_60) rfl rfl k) ?_
    obtain ⟨cq116, kq116, q116a, q116b, q116c⟩ := isOf hZ e114 E_aPRESUMED_COMMIT
    obtain ⟨_, _, ⟨T116, L116, k116, n116⟩, -, X116, ⟨Lc116, hQ116, l116, y116, z116⟩, st116⟩ := X114.virtualBack hx (y := (⟨"com/example/concordat/concordat/model/Protocol", "word", "()Ljava/lang/String;"⟩ : MethodName)) (z := (⟨"com/example/concordat/concordat/model/Protocol", "word", "()Ljava/lang/String;"⟩ : MethodName)) hown (mvT hZ (hw _ (List.mem_of_getElem? (i := 10) rfl))) (mvT hZ (hw _ (List.mem_of_getElem? (i := 11) rfl))) (notFace_of_selects (args := #[]) (mvT hZ (hw _ (List.mem_of_getElem? (i := 13) rfl)))) (mvT hZ (hw _ (List.mem_of_getElem? (i := 13) rfl))) (mvT hZ (hw _ (List.mem_of_getElem? (i := 12) rfl))) (by decide) (backOf (W := 0) (rm2 l Z a0 hw [] aPRESUMED_COMMIT aPRESUMED_COMMIT_word h0 n0 (Nat.le_trans Z0 K0.1) F_aPRESUMED_COMMIT_word) hZ (hw _ (List.mem_of_getElem? (i := 14) rfl)) (hw _ (List.mem_of_getElem? (i := 1) rfl)) (by decide) (by decide)) q116a q116c (g := (mkF m 61 #[.val (.int x0), .val (.int (2 : Int32)), .val (.ref aPRESUMED_COMMIT), .val (.int (0 : Int32)), .val (.int (0 : Int32)), .unset] [(.ref aPRESUMED_COMMIT)])) rfl (by rw [hml]; rfl) (Steps.refl _) (argsL := []) (rest := []) (lenOf pd_2 rfl) rfl (by show 2 * 0 + _ ≤ _; exact Nat.le_of_eq rfl) (hb hby at_61) (fun _ _ => ⟨rfl, e114, (by decide : 0 + 0 ≤ _), (by decide : 0 + 0 ≤ _)⟩)
    dsimp only [Pt.U, Pt.locs, Pt.cells, Pt.slots] at X116 l116 y116 z116 st116 hQ116
    subst l116 y116 z116
    obtain ⟨rfl, N116q, e116⟩ := hQ116
    have N116 := Fr.app N114 N116q
    refine GoW.tr  st116 ?_
    show GoW p e below s Q 2 16 (T116.setTop (mkF m 64 #[.val (.int x0), .val (.int (2 : Int32)), .val (.ref aPRESUMED_COMMIT), .val (.int (0 : Int32)), .val (.int (0 : Int32)), .unset] [(.ref aPRESUMED_COMMIT_word)]))
    obtain ⟨b117, T117, h117, k117, u117, kc117, X117, e117, E117, hS117, hk117, hZ117, hown117, A117, C117, D117, V117, -, -, IB117, -, st117⟩ := ldcSVL (s := s) (vm0 := s.vm) X116 hx hZ hown (hw _ (List.mem_of_getElem? (i := 17) rfl)) (wStr hw) e116 (since0 s) (Nat.zero_le _) (by rw [hh, ← HN0]; exact N116) (fun b cl q => by rw [hsz]; exact q) (Ts := []) (by rw [hsz]; exact IB.start) (by decide) hcst_30 hcw (vs := [(97 : Int32), (110 : Int32), (121 : Int32)].map Value.int) (z := (3 : Int32)) (by first | exact ⟨by decide, rfl⟩ | exact ⟨by decide, by decide +kernel⟩) (by decide) (by decide) (g := (mkF m 64 #[.val (.int x0), .val (.int (2 : Int32)), .val (.ref aPRESUMED_COMMIT), .val (.int (0 : Int32)), .val (.int (0 : Int32)), .unset] [(.ref aPRESUMED_COMMIT_word)])) rfl (hb hby at_64) (n := 12) (by decide) (by decide) (by decide) (by decide)
    have h118 : Sta Z h117 "com/example/concordat/concordat/model/Protocol" "PRESUMED_NOTHING" "Lcom/example/concordat/concordat/model/Protocol;" (.ref aPRESUMED_NOTHING) := S_aPRESUMED_NOTHING.ext E117
    have h119 : Exa Z h117 aPRESUMED_NOTHING "com/example/concordat/concordat/model/Protocol" := E_aPRESUMED_NOTHING.ext E117
    have h120 : Sta Z h117 "com/example/concordat/concordat/model/Protocol" "PRESUMED_ANY" "Lcom/example/concordat/concordat/model/Protocol;" (.ref aPRESUMED_ANY) := S_aPRESUMED_ANY.ext E117
    have h121 : Exa Z h117 aPRESUMED_ANY "com/example/concordat/concordat/model/Protocol" := E_aPRESUMED_ANY.ext E117
    have h122 : Fld Z h117 aPRESUMED_NOTHING "java/lang/Enum" "ordinal" "I" (.int (0 : Int32)) := F_aPRESUMED_NOTHING_ordinal.ext E117
    have h123 : Fld Z h117 aPRESUMED_ANY "java/lang/Enum" "ordinal" "I" (.int (3 : Int32)) := F_aPRESUMED_ANY_ordinal.ext E117
    have h124 : Fld Z h117 aPRESUMED_NOTHING "com/example/concordat/concordat/model/Protocol" "word" "Ljava/lang/String;" (.ref aPRESUMED_NOTHING_word) := F_aPRESUMED_NOTHING_word.ext E117
    have h125 : Exa Z h117 aPRESUMED_NOTHING_word "java/lang/String" := E_aPRESUMED_NOTHING_word.ext E117
    have h126 : Fld Z h117 aPRESUMED_NOTHING_word "java/lang/String" "coder" "B" (.int (0 : Int32)) := F_aPRESUMED_NOTHING_word_coder.ext E117
    have h127 : Fld Z h117 aPRESUMED_NOTHING_word "java/lang/String" "value" "[B" (.ref aPRESUMED_NOTHING_word_value) := F_aPRESUMED_NOTHING_word_value.ext E117
    have h128 : Fld Z h117 aPRESUMED_ANY "com/example/concordat/concordat/model/Protocol" "word" "Ljava/lang/String;" (.ref aPRESUMED_ANY_word) := F_aPRESUMED_ANY_word.ext E117
    have h129 : Exa Z h117 aPRESUMED_ANY_word "java/lang/String" := E_aPRESUMED_ANY_word.ext E117
    have h130 : Fld Z h117 aPRESUMED_ANY_word "java/lang/String" "coder" "B" (.int (0 : Int32)) := F_aPRESUMED_ANY_word_coder.ext E117
    have h131 : Fld Z h117 aPRESUMED_ANY_word "java/lang/String" "value" "[B" (.ref aPRESUMED_ANY_word_value) := F_aPRESUMED_ANY_word_value.ext E117
    have h132 : Sta Z h117 "com/example/concordat/concordat/model/Protocol" "PRESUMED_COMMIT" "Lcom/example/concordat/concordat/model/Protocol;" (.ref aPRESUMED_COMMIT) := S_aPRESUMED_COMMIT.ext E117
    have h133 : Exa Z h117 aPRESUMED_COMMIT "com/example/concordat/concordat/model/Protocol" := E_aPRESUMED_COMMIT.ext E117
    have h134 : Fld Z h117 aPRESUMED_COMMIT "java/lang/Enum" "ordinal" "I" (.int (2 : Int32)) := F_aPRESUMED_COMMIT_ordinal.ext E117
    have h135 : Fld Z h117 aPRESUMED_COMMIT "com/example/concordat/concordat/model/Protocol" "word" "Ljava/lang/String;" (.ref aPRESUMED_COMMIT_word) := F_aPRESUMED_COMMIT_word.ext E117
    have h136 : Exa Z h117 aPRESUMED_COMMIT_word "java/lang/String" := E_aPRESUMED_COMMIT_word.ext E117
    have h137 : Fld Z h117 aPRESUMED_COMMIT_word "java/lang/String" "coder" "B" (.int (0 : Int32)) := F_aPRESUMED_COMMIT_word_coder.ext E117
    have h138 : Fld Z h117 aPRESUMED_COMMIT_word "java/lang/String" "value" "[B" (.ref aPRESUMED_COMMIT_word_value) := F_aPRESUMED_COMMIT_word_value.ext E117
    have h139 : Sta Z h117 "com/example/concordat/concordat/model/Protocol" "PRESUMED_ABORT" "Lcom/example/concordat/concordat/model/Protocol;" (.ref aPRESUMED_ABORT) := S_aPRESUMED_ABORT.ext E117
    have h140 : Exa Z h117 aPRESUMED_ABORT "com/example/concordat/concordat/model/Protocol" := E_aPRESUMED_ABORT.ext E117
    have h141 : Fld Z h117 aPRESUMED_ABORT "java/lang/Enum" "ordinal" "I" (.int (1 : Int32)) := F_aPRESUMED_ABORT_ordinal.ext E117
    have h142 : Fld Z h117 aPRESUMED_ABORT "com/example/concordat/concordat/model/Protocol" "word" "Ljava/lang/String;" (.ref aPRESUMED_ABORT_word) := F_aPRESUMED_ABORT_word.ext E117
    have h143 : Exa Z h117 aPRESUMED_ABORT_word "java/lang/String" := E_aPRESUMED_ABORT_word.ext E117
    have h144 : Fld Z h117 aPRESUMED_ABORT_word "java/lang/String" "coder" "B" (.int (0 : Int32)) := F_aPRESUMED_ABORT_word_coder.ext E117
    have h145 : Fld Z h117 aPRESUMED_ABORT_word "java/lang/String" "value" "[B" (.ref aPRESUMED_ABORT_word_value) := F_aPRESUMED_ABORT_word_value.ext E117
    have h146 : Vec Z h117 aPRESUMED_NOTHING_word_value .byte (3 : Int32) (ints G_aPRESUMED_NOTHING_word_value) := V_aPRESUMED_NOTHING_word_value.ext E117
    have h147 : Vec Z h117 aPRESUMED_ANY_word_value .byte (3 : Int32) (ints G_aPRESUMED_ANY_word_value) := V_aPRESUMED_ANY_word_value.ext E117
    have h148 : Vec Z h117 aPRESUMED_COMMIT_word_value .byte (3 : Int32) (ints G_aPRESUMED_COMMIT_word_value) := V_aPRESUMED_COMMIT_word_value.ext E117
    have h149 : Vec Z h117 aPRESUMED_ABORT_word_value .byte (3 : Int32) (ints G_aPRESUMED_ABORT_word_value) := V_aPRESUMED_ABORT_word_value.ext E117
    have h150 : Sta Z h117 "java/lang/String" "COMPACT_STRINGS" "Z" (.int zc) := S_CS.ext E117
    have K117 : Keep h0 h117 [] := K0.ext E117
    obtain ⟨FL117, q117⟩ : ∃ F : Nat → Int32, F = lst [(97 : Int32), (110 : Int32), (121 : Int32)] := ⟨_, rfl⟩
    have V117' : Vec Z h117 u117 .byte (3 : Int32) (ints FL117) := by rw [q117]; exact vec_arv V117 (by decide)
    have f151 : (FL117 0).toInt = 97 := by rw [q117]; decide
    have f152 : (FL117 1).toInt = 110 := by rw [q117]; decide
    have f153 : (FL117 2).toInt = 121 := by rw [q117]; decide
    refine GoW.st st117 ?_
    show GoW p e below s Q 2 16 (T117.setTop (mkF m 66 #[.val (.int x0), .val (.int (2 : Int32)), .val (.ref aPRESUMED_COMMIT), .val (.int (0 : Int32)), .val (.int (0 : Int32)), .unset] [(.ref b117), (.ref aPRESUMED_COMMIT_word)]))
    have hne : aPRESUMED_COMMIT_word ≠ b117 := str_ne h138 D117 h148 V117' (by decide) (by decide) (by omega)
    have f155 := rng32 zc
    have p156 : ¬ zc.toInt = 0 := by omega
    obtain ⟨cq154, kq154, q154a, q154b, q154c⟩ := isOf hZ117 e117 h136
    obtain ⟨_, _, ⟨T154, L154, k154, n154⟩, -, X154, ⟨Lc154, hQ154, l154, y154, z154⟩, st154⟩ := X117.virtualBack hx (y := (⟨"java/lang/String", "equals", "(Ljava/lang/Object;)Z"⟩ : MethodName)) (z := (⟨"java/lang/String", "equals", "(Ljava/lang/Object;)Z"⟩ : MethodName)) hown117 (mvT hZ117 (hw _ (List.mem_of_getElem? (i := 25) rfl))) (mvT hZ117 (hw _ (List.mem_of_getElem? (i := 26) rfl))) (notFace_of_selects (args := #[]) (mvT hZ117 (hw _ (List.mem_of_getElem? (i := 28) rfl)))) (mvT hZ117 (hw _ (List.mem_of_getElem? (i := 28) rfl))) (mvT hZ117 (hw _ (List.mem_of_getElem? (i := 27) rfl))) (by decide) (backOf (W := 0) (rm3 l Z a0 hw [] aPRESUMED_COMMIT_word b117 aPRESUMED_COMMIT_word_value u117 G_aPRESUMED_COMMIT_word_value FL117 zc h117 n0 (Nat.le_trans Z0 K117.1) hne h136 A117 h137 h138 C117 D117 h148 V117' h150 p156) hZ117 (hw _ (List.mem_of_getElem? (i := 29) rfl)) (hw _ (List.mem_of_getElem? (i := 18) rfl)) (by decide) (by decide)) q154a q154c (g := (mkF m 66 #[.val (.int x0), .val (.int (2 : Int32)), .val (.ref aPRESUMED_COMMIT), .val (.int (0 : Int32)), .val (.int (0 : Int32)), .unset] [(.ref b117), (.ref aPRESUMED_COMMIT_word)])) rfl (by rw [hml]; rfl) (Steps.refl _) (argsL := [(.ref b117)]) (rest := []) (lenOf pd_3 rfl) rfl (by show 2 * 0 + _ ≤ _; exact Nat.le_of_eq rfl) (hb hby at_66) (fun _ _ => ⟨rfl, e117, (by decide : 2 + 0 ≤ _), (by decide : 16 + 0 ≤ _)⟩)
    dsimp only [Pt.U, Pt.locs, Pt.cells, Pt.slots] at X154 l154 y154 z154 st154 hQ154
    subst l154 y154 z154
    obtain ⟨rr_157, rfl, N154q, f158, f159, f160, e154⟩ := hQ154
    have N154 := Fr.app N116 N154q
    refine GoW.tr  st154 ?_
    show GoW p e below s Q 2 16 (T154.setTop (mkF m 69 #[.val (.int x0), .val (.int (2 : Int32)), .val (.ref aPRESUMED_COMMIT), .val (.int (0 : Int32)), .val (.int (0 : Int32)), .unset] [(.int rr_157)]))
    have f161 := rng32 rr_157
    refine GoW.st (fun _ k => XS.istore X154.here hx rfl (hb hby at_69) rfl (l' := #[.val (.int x0), .val (.int (2 : Int32)), .val (.ref aPRESUMED_COMMIT), .val (.int (0 : Int32)), .val (.int (0 : Int32)), .val (.int rr_157)]) rfl k) ?_
    refine GoW.st (fun _ k => XS.iload X154.here hx rfl (hb hby at_71) rfl k) ?_
    refine GoW.st (fun _ k => XS.iloadN X154.here hx rfl (hb hby at_73) rfl k) ?_
    refine GoW.st (fun _ k => XS.icmpNo X154.here hx rfl (hb hby at_74) rfl (teq (eqI liI_0 liI_0 (by decide))).2 k) ?_
    refine GoW.st (fun _ k => XS.iload X154.here hx rfl (hb hby at_77) rfl k) ?_
    refine GoW.st (fun _ k => XS.iload X154.here hx rfl (hb hby at_79) rfl k) ?_
    show GoW p e below s Q 2 16 (T154.setTop (mkF m 81 #[.val (.int x0), .val (.int (2 : Int32)), .val (.ref aPRESUMED_COMMIT), .val (.int (0 : Int32)), .val (.int (0 : Int32)), .val (.int rr_157)] [(.int rr_157), (.int (0 : Int32))]))
    have c162 : 0 = rr_157.toInt := by omega
    refine GoW.st (fun _ k => XS.icmpNo X154.here hx rfl (hb hby at_81) rfl (teq (eqI liI_0 rfl c162)).2 k) ?_
    refine GoW.st (fun _ k => XS.iconst X154.here hx rfl (hb hby at_84) k) ?_
    refine GoW.st (fun _ k => XS.goto X154.here hx rfl (pc0 := 85) (pc' := 89) rfl (hb hby at_85) (by decide) (by decide) k) ?_
    show GoW p e below s Q 2 16 (T154.setTop (mkF m 89 #[.val (.int x0), .val (.int (2 : Int32)), .val (.ref aPRESUMED_COMMIT), .val (.int (0 : Int32)), .val (.int (0 : Int32)), .val (.int rr_157)] [(.int (1 : Int32))]))
    have f163 := liI_1
    exact GoW.retN hS117 (vm0 := T117.vm) X154 (by rw [e154]; exact hk117) hx hlk (by simp) Bd.returns (hb hby at_89) (z' := (1 : Int32)) (by decide) (by rw [← hQ, e154]; exact ⟨rfl, N154, K117⟩) (by decide) (by decide)
  ·
    have cs9' : v4 = (3 : Int32) := eqI cs9 liI_3 rfl
    subst cs9'
    show GoW p e below s Q 2 16 (s₁.setTop (mkF m 4 #[.val (.int x0), .val (.int (3 : Int32)), .unset, .unset, .unset, .unset] []))
    refine GoW.st (fun _ k => XS.iloadN X0.here hx rfl (hb hby at_4) rfl k) ?_
    refine GoW.st (fun _ k => XS.ifYes X0.here hx rfl (pc0 := 5) (pc' := 15) rfl (hb hby at_5) rfl ((if0 _ _).trans (feq (neI liI_3 liI_0 (by decide))).2) (by decide) (by decide) k) ?_
    refine GoW.st (fun _ k => XS.iloadN X0.here hx rfl (hb hby at_15) rfl k) ?_
    refine GoW.st (fun _ k => XS.iconst X0.here hx rfl (hb hby at_16) k) ?_
    refine GoW.st (fun _ k => XS.icmpYes X0.here hx rfl (pc0 := 17) (pc' := 27) rfl (hb hby at_17) rfl (feq (neI liI_3 liI_1 (by decide))).2 (by decide) (by decide) k) ?_
    refine GoW.st (fun _ k => XS.iloadN X0.here hx rfl (hb hby at_27) rfl k) ?_
    show GoW p e below s Q 2 16 (s₁.setTop (mkF m 28 #[.val (.int x0), .val (.int (3 : Int32)), .unset, .unset, .unset, .unset] [(.int (3 : Int32))]))
    refine GoW.st (fun _ k => XS.iconst X0.here hx rfl (hb hby at_28) k) ?_
    refine GoW.st (fun _ k => XS.icmpYes X0.here hx rfl (pc0 := 29) (pc' := 39) rfl (hb hby at_29) rfl (feq (neI liI_3 liI_2 (by decide))).2 (by decide) (by decide) k) ?_
    obtain ⟨T164, X164, e164, st164⟩ := getS2 X0 hx hZ hown (host := "") (Or.inl (hw _ (List.mem_of_getElem? (i := 39) rfl))) Via.refl e0 S_aPRESUMED_ANY (g := (mkF m 39 #[.val (.int x0), .val (.int (3 : Int32)), .unset, .unset, .unset, .unset] [])) rfl (hb hby at_39)
    refine GoW.st st164 ?_
    show GoW p e below s Q 2 16 (T164.setTop (mkF m 42 #[.val (.int x0), .val (.int (3 : Int32)), .unset, .unset, .unset, .unset] [(.ref aPRESUMED_ANY)]))
    refine GoW.st (fun _ k => XS.astoreN X164.here hx rfl (hb hby at_42) rfl rfl (l' := #[.val (.int x0), .val (.int (3 : Int32)), .val (.ref aPRESUMED_ANY), .unset, .unset, .unset]) rfl k) ?_
    refine GoW.st (fun _ k => XS.iloadN X164.here hx rfl (hb hby at_43) rfl k) ?_
    refine GoW.st (fun _ k => XS.iconst X164.here hx rfl (hb hby at_44) k) ?_
    refine GoW.st (fun _ k => XS.icmpNo X164.here hx rfl (hb hby at_45) rfl (teq (eqI liI_3 liI_3 (by decide))).2 k) ?_
    refine GoW.st (fun _ k => XS.iconst X164.here hx rfl (hb hby at_48) k) ?_
    refine GoW.st (fun _ k => XS.goto X164.here hx rfl (pc0 := 49) (pc' := 53) rfl (hb hby at_49) (by decide) (by decide) k) ?_
    show GoW p e below s Q 2 16 (T164.setTop (mkF m 53 #[.val (.int x0), .val (.int (3 : Int32)), .val (.ref aPRESUMED_ANY), .unset, .unset, .unset] [(.int (1 : Int32))]))
    refine GoW.st (fun _ k => XS.istoreN X164.here hx rfl (hb hby at_53) rfl (l' := #[.val (.int x0), .val (.int (3 : Int32)), .val (.ref aPRESUMED_ANY), .val (.int (1 : Int32)), .unset, .unset]) rfl k) ?_
    refine GoW.st (fun _ k => XS.aloadN X164.here hx rfl (hb hby at_54) rfl rfl k) ?_
    obtain ⟨cq165, kq165, q165a, q165b, q165c⟩ := isOf hZ e164 E_aPRESUMED_ANY
    obtain ⟨_, _, ⟨T165, L165, k165, n165⟩, -, X165, ⟨Lc165, hQ165, l165, y165, z165⟩, st165⟩ := X164.virtualBack hx (y := (⟨"com/example/concordat/concordat/model/Protocol", "isMixed", "()Z"⟩ : MethodName)) (z := (⟨"com/example/concordat/concordat/model/Protocol", "isMixed", "()Z"⟩ : MethodName)) hown (mvT hZ (hw _ (List.mem_of_getElem? (i := 3) rfl))) (mvT hZ (hw _ (List.mem_of_getElem? (i := 4) rfl))) (notFace_of_selects (args := #[]) (mvT hZ (hw _ (List.mem_of_getElem? (i := 6) rfl)))) (mvT hZ (hw _ (List.mem_of_getElem? (i := 6) rfl))) (mvT hZ (hw _ (List.mem_of_getElem? (i := 5) rfl))) (by decide) (backOf (W := 0) (rmmx1 l Z a0 hw [] aPRESUMED_ANY h0 n0 (Nat.le_trans Z0 K0.1) S_aPRESUMED_ANY) hZ (hw _ (List.mem_of_getElem? (i := 7) rfl)) (hw _ (List.mem_of_getElem? (i := 1) rfl)) (by decide) (by decide)) q165a q165c (g := (mkF m 55 #[.val (.int x0), .val (.int (3 : Int32)), .val (.ref aPRESUMED_ANY), .val (.int (1 : Int32)), .unset, .unset] [(.ref aPRESUMED_ANY)])) rfl (by rw [hml]; rfl) (Steps.refl _) (argsL := []) (rest := []) (lenOf pd_1 rfl) rfl (by show 2 * 0 + _ ≤ _; exact Nat.le_of_eq rfl) (hb hby at_55) (fun _ _ => ⟨rfl, e164, (by decide : 0 + 0 ≤ _), (by decide : 0 + 0 ≤ _)⟩)
    dsimp only [Pt.U, Pt.locs, Pt.cells, Pt.slots] at X165 l165 y165 z165 st165 hQ165
    subst l165 y165 z165
    obtain ⟨rfl, N165q, e165⟩ := hQ165
    have N165 := Fr.app N0 N165q
    refine GoW.tr  st165 ?_
    show GoW p e below s Q 2 16 (T165.setTop (mkF m 58 #[.val (.int x0), .val (.int (3 : Int32)), .val (.ref aPRESUMED_ANY), .val (.int (1 : Int32)), .unset, .unset] [(.int (1 : Int32))]))
    have f166 := liI_1
    refine GoW.st (fun _ k => XS.istore X165.here hx rfl (hb hby at_58) rfl (l' := #[.val (.int x0), .val (.int (3 : Int32)), .val (.ref aPRESUMED_ANY), .val (.int (1 : Int32)), .val (.int (1 : Int32)), .unset]) rfl k) ?_
    refine GoW.st (fun _ k => XS.aloadN X165.here hx rfl (hb hby at_60) rfl rfl k) ?_
    obtain ⟨cq167, kq167, q167a, q167b, q167c⟩ := isOf hZ e165 E_aPRESUMED_ANY
    obtain ⟨_, _, ⟨T167, L167, k167, n167⟩, -, X167, ⟨Lc167, hQ167, l167, y167, z167⟩, st167⟩ := X165.virtualBack hx (y := (⟨"com/example/concordat/concordat/model/Protocol", "word", "()Ljava/lang/String;"⟩ : MethodName)) (z := (⟨"com/example/concordat/concordat/model/Protocol", "word", "()Ljava/lang/String;"⟩ : MethodName)) hown (mvT hZ (hw _ (List.mem_of_getElem? (i := 10) rfl))) (mvT hZ (hw _ (List.mem_of_getElem? (i := 11) rfl))) (notFace_of_selects (args := #[]) (mvT hZ (hw _ (List.mem_of_getElem? (i := 13) rfl)))) (mvT hZ (hw _ (List.mem_of_getElem? (i := 13) rfl))) (mvT hZ (hw _ (List.mem_of_getElem? (i := 12) rfl))) (by decide) (backOf (W := 0) (rm2 l Z a0 hw [] aPRESUMED_ANY aPRESUMED_ANY_word h0 n0 (Nat.le_trans Z0 K0.1) F_aPRESUMED_ANY_word) hZ (hw _ (List.mem_of_getElem? (i := 14) rfl)) (hw _ (List.mem_of_getElem? (i := 1) rfl)) (by decide) (by decide)) q167a q167c (g := (mkF m 61 #[.val (.int x0), .val (.int (3 : Int32)), .val (.ref aPRESUMED_ANY), .val (.int (1 : Int32)), .val (.int (1 : Int32)), .unset] [(.ref aPRESUMED_ANY)])) rfl (by rw [hml]; rfl) (Steps.refl _) (argsL := []) (rest := []) (lenOf pd_2 rfl) rfl (by show 2 * 0 + _ ≤ _; exact Nat.le_of_eq rfl) (hb hby at_61) (fun _ _ => ⟨rfl, e165, (by decide : 0 + 0 ≤ _), (by decide : 0 + 0 ≤ _)⟩)
    dsimp only [Pt.U, Pt.locs, Pt.cells, Pt.slots] at X167 l167 y167 z167 st167 hQ167
    subst l167 y167 z167
    obtain ⟨rfl, N167q, e167⟩ := hQ167
    have N167 := Fr.app N165 N167q
    refine GoW.tr  st167 ?_
    show GoW p e below s Q 2 16 (T167.setTop (mkF m 64 #[.val (.int x0), .val (.int (3 : Int32)), .val (.ref aPRESUMED_ANY), .val (.int (1 : Int32)), .val (.int (1 : Int32)), .unset] [(.ref aPRESUMED_ANY_word)]))
    obtain ⟨b168, T168, h168, k168, u168, kc168, X168, e168, E168, hS168, hk168, hZ168, hown168, A168, C168, D168, V168, -, -, IB168, -, st168⟩ := ldcSVL (s := s) (vm0 := s.vm) X167 hx hZ hown (hw _ (List.mem_of_getElem? (i := 17) rfl)) (wStr hw) e167 (since0 s) (Nat.zero_le _) (by rw [hh, ← HN0]; exact N167) (fun b cl q => by rw [hsz]; exact q) (Ts := []) (by rw [hsz]; exact IB.start) (by decide) hcst_30 hcw (vs := [(97 : Int32), (110 : Int32), (121 : Int32)].map Value.int) (z := (3 : Int32)) (by first | exact ⟨by decide, rfl⟩ | exact ⟨by decide, by decide +kernel⟩) (by decide) (by decide) (g := (mkF m 64 #[.val (.int x0), .val (.int (3 : Int32)), .val (.ref aPRESUMED_ANY), .val (.int (1 : Int32)), .val (.int (1 : Int32)), .unset] [(.ref aPRESUMED_ANY_word)])) rfl (hb hby at_64) (n := 12) (by decide) (by decide) (by decide) (by decide)
    have h169 : Sta Z h168 "com/example/concordat/concordat/model/Protocol" "PRESUMED_NOTHING" "Lcom/example/concordat/concordat/model/Protocol;" (.ref aPRESUMED_NOTHING) := S_aPRESUMED_NOTHING.ext E168
    have h170 : Exa Z h168 aPRESUMED_NOTHING "com/example/concordat/concordat/model/Protocol" := E_aPRESUMED_NOTHING.ext E168
    have h171 : Sta Z h168 "com/example/concordat/concordat/model/Protocol" "PRESUMED_ANY" "Lcom/example/concordat/concordat/model/Protocol;" (.ref aPRESUMED_ANY) := S_aPRESUMED_ANY.ext E168
    have h172 : Exa Z h168 aPRESUMED_ANY "com/example/concordat/concordat/model/Protocol" := E_aPRESUMED_ANY.ext E168
    have h173 : Fld Z h168 aPRESUMED_NOTHING "java/lang/Enum" "ordinal" "I" (.int (0 : Int32)) := F_aPRESUMED_NOTHING_ordinal.ext E168
    have h174 : Fld Z h168 aPRESUMED_ANY "java/lang/Enum" "ordinal" "I" (.int (3 : Int32)) := F_aPRESUMED_ANY_ordinal.ext E168
    have h175 : Fld Z h168 aPRESUMED_NOTHING "com/example/concordat/concordat/model/Protocol" "word" "Ljava/lang/String;" (.ref aPRESUMED_NOTHING_word) := F_aPRESUMED_NOTHING_word.ext E168
    have h176 : Exa Z h168 aPRESUMED_NOTHING_word "java/lang/String" := E_aPRESUMED_NOTHING_word.ext E168
    have h177 : Fld Z h168 aPRESUMED_NOTHING_word "java/lang/String" "coder" "B" (.int (0 : Int32)) := F_aPRESUMED_NOTHING_word_coder.ext E168
    have h178 : Fld Z h168 aPRESUMED_NOTHING_word "java/lang/String" "value" "[B" (.ref aPRESUMED_NOTHING_word_value) := F_aPRESUMED_NOTHING_word_value.ext E168
    have h179 : Fld Z h168 aPRESUMED_ANY "com/example/concordat/concordat/model/Protocol" "word" "Ljava/lang/String;" (.ref aPRESUMED_ANY_word) := F_aPRESUMED_ANY_word.ext E168
    have h180 : Exa Z h168 aPRESUMED_ANY_word "java/lang/String" := E_aPRESUMED_ANY_word.ext E168
    have h181 : Fld Z h168 aPRESUMED_ANY_word "java/lang/String" "coder" "B" (.int (0 : Int32)) := F_aPRESUMED_ANY_word_coder.ext E168
    have h182 : Fld Z h168 aPRESUMED_ANY_word "java/lang/String" "value" "[B" (.ref aPRESUMED_ANY_word_value) := F_aPRESUMED_ANY_word_value.ext E168
    have h183 : Sta Z h168 "com/example/concordat/concordat/model/Protocol" "PRESUMED_COMMIT" "Lcom/example/concordat/concordat/model/Protocol;" (.ref aPRESUMED_COMMIT) := S_aPRESUMED_COMMIT.ext E168
    have h184 : Exa Z h168 aPRESUMED_COMMIT "com/example/concordat/concordat/model/Protocol" := E_aPRESUMED_COMMIT.ext E168
    have h185 : Fld Z h168 aPRESUMED_COMMIT "java/lang/Enum" "ordinal" "I" (.int (2 : Int32)) := F_aPRESUMED_COMMIT_ordinal.ext E168
    have h186 : Fld Z h168 aPRESUMED_COMMIT "com/example/concordat/concordat/model/Protocol" "word" "Ljava/lang/String;" (.ref aPRESUMED_COMMIT_word) := F_aPRESUMED_COMMIT_word.ext E168
    have h187 : Exa Z h168 aPRESUMED_COMMIT_word "java/lang/String" := E_aPRESUMED_COMMIT_word.ext E168
    have h188 : Fld Z h168 aPRESUMED_COMMIT_word "java/lang/String" "coder" "B" (.int (0 : Int32)) := F_aPRESUMED_COMMIT_word_coder.ext E168
    have h189 : Fld Z h168 aPRESUMED_COMMIT_word "java/lang/String" "value" "[B" (.ref aPRESUMED_COMMIT_word_value) := F_aPRESUMED_COMMIT_word_value.ext E168
    have h190 : Sta Z h168 "com/example/concordat/concordat/model/Protocol" "PRESUMED_ABORT" "Lcom/example/concordat/concordat/model/Protocol;" (.ref aPRESUMED_ABORT) := S_aPRESUMED_ABORT.ext E168
    have h191 : Exa Z h168 aPRESUMED_ABORT "com/example/concordat/concordat/model/Protocol" := E_aPRESUMED_ABORT.ext E168
    have h192 : Fld Z h168 aPRESUMED_ABORT "java/lang/Enum" "ordinal" "I" (.int (1 : Int32)) := F_aPRESUMED_ABORT_ordinal.ext E168
    have h193 : Fld Z h168 aPRESUMED_ABORT "com/example/concordat/concordat/model/Protocol" "word" "Ljava/lang/String;" (.ref aPRESUMED_ABORT_word) := F_aPRESUMED_ABORT_word.ext E168
    have h194 : Exa Z h168 aPRESUMED_ABORT_word "java/lang/String" := E_aPRESUMED_ABORT_word.ext E168
    have h195 : Fld Z h168 aPRESUMED_ABORT_word "java/lang/String" "coder" "B" (.int (0 : Int32)) := F_aPRESUMED_ABORT_word_coder.ext E168
    have h196 : Fld Z h168 aPRESUMED_ABORT_word "java/lang/String" "value" "[B" (.ref aPRESUMED_ABORT_word_value) := F_aPRESUMED_ABORT_word_value.ext E168
    have h197 : Vec Z h168 aPRESUMED_NOTHING_word_value .byte (3 : Int32) (ints G_aPRESUMED_NOTHING_word_value) := V_aPRESUMED_NOTHING_word_value.ext E168
    have h198 : Vec Z h168 aPRESUMED_ANY_word_value .byte (3 : Int32) (ints G_aPRESUMED_ANY_word_value) := V_aPRESUMED_ANY_word_value.ext E168
    have h199 : Vec Z h168 aPRESUMED_COMMIT_word_value .byte (3 : Int32) (ints G_aPRESUMED_COMMIT_word_value) := V_aPRESUMED_COMMIT_word_value.ext E168
    have h200 : Vec Z h168 aPRESUMED_ABORT_word_value .byte (3 : Int32) (ints G_aPRESUMED_ABORT_word_value) := V_aPRESUMED_ABORT_word_value.ext E168
    have h201 : Sta Z h168 "java/lang/String" "COMPACT_STRINGS" "Z" (.int zc) := S_CS.ext E168
    have K168 : Keep h0 h168 [] := K0.ext E168
    obtain ⟨FL168, q168⟩ : ∃ F : Nat → Int32, F = lst [(97 : Int32), (110 : Int32), (121 : Int32)] := ⟨_, rfl⟩
    have V168' : Vec Z h168 u168 .byte (3 : Int32) (ints FL168) := by rw [q168]; exact vec_arv V168 (by decide)
    have f202 : (FL168 0).toInt = 97 := by rw [q168]; decide
    have f203 : (FL168 1).toInt = 110 := by rw [q168]; decide
    have f204 : (FL168 2).toInt = 121 := by rw [q168]; decide
    refine GoW.st st168 ?_
    show GoW p e below s Q 2 16 (T168.setTop (mkF m 66 #[.val (.int x0), .val (.int (3 : Int32)), .val (.ref aPRESUMED_ANY), .val (.int (1 : Int32)), .val (.int (1 : Int32)), .unset] [(.ref b168), (.ref aPRESUMED_ANY_word)]))
    by_cases heq : aPRESUMED_ANY_word = b168
    ·
      subst heq
      show GoW p e below s Q 2 16 (T168.setTop (mkF m 66 #[.val (.int x0), .val (.int (3 : Int32)), .val (.ref aPRESUMED_ANY), .val (.int (1 : Int32)), .val (.int (1 : Int32)), .unset] [(.ref aPRESUMED_ANY_word), (.ref aPRESUMED_ANY_word)]))
      obtain ⟨cq205, kq205, q205a, q205b, q205c⟩ := isOf hZ168 e168 h180
      obtain ⟨_, _, ⟨T205, L205, k205, n205⟩, -, X205, ⟨Lc205, hQ205, l205, y205, z205⟩, st205⟩ := X168.virtualBack hx (y := (⟨"java/lang/String", "equals", "(Ljava/lang/Object;)Z"⟩ : MethodName)) (z := (⟨"java/lang/String", "equals", "(Ljava/lang/Object;)Z"⟩ : MethodName)) hown168 (mvT hZ168 (hw _ (List.mem_of_getElem? (i := 25) rfl))) (mvT hZ168 (hw _ (List.mem_of_getElem? (i := 26) rfl))) (notFace_of_selects (args := #[]) (mvT hZ168 (hw _ (List.mem_of_getElem? (i := 28) rfl)))) (mvT hZ168 (hw _ (List.mem_of_getElem? (i := 28) rfl))) (mvT hZ168 (hw _ (List.mem_of_getElem? (i := 27) rfl))) (by decide) (backOf (W := 0) (rmeqs l Z a0 hw [] aPRESUMED_ANY_word h168 n0 (Nat.le_trans Z0 K168.1) ) hZ168 (hw _ (List.mem_of_getElem? (i := 29) rfl)) (hw _ (List.mem_of_getElem? (i := 18) rfl)) (by decide) (by decide)) q205a q205c (g := (mkF m 66 #[.val (.int x0), .val (.int (3 : Int32)), .val (.ref aPRESUMED_ANY), .val (.int (1 : Int32)), .val (.int (1 : Int32)), .unset] [(.ref aPRESUMED_ANY_word), (.ref aPRESUMED_ANY_word)])) rfl (by rw [hml]; rfl) (Steps.refl _) (argsL := [(.ref aPRESUMED_ANY_word)]) (rest := []) (lenOf pd_3 rfl) rfl (by show 2 * 0 + _ ≤ _; exact Nat.le_of_eq rfl) (hb hby at_66) (fun _ _ => ⟨rfl, e168, (by decide : 2 + 0 ≤ _), (by decide : 16 + 0 ≤ _)⟩)
      dsimp only [Pt.U, Pt.locs, Pt.cells, Pt.slots] at X205 l205 y205 z205 st205 hQ205
      subst l205 y205 z205
      obtain ⟨rfl, N205q, e205⟩ := hQ205
      have N205 := Fr.app N167 N205q
      refine GoW.tr  st205 ?_
      show GoW p e below s Q 2 16 (T205.setTop (mkF m 69 #[.val (.int x0), .val (.int (3 : Int32)), .val (.ref aPRESUMED_ANY), .val (.int (1 : Int32)), .val (.int (1 : Int32)), .unset] [(.int (1 : Int32))]))
      refine GoW.st (fun _ k => XS.istore X205.here hx rfl (hb hby at_69) rfl (l' := #[.val (.int x0), .val (.int (3 : Int32)), .val (.ref aPRESUMED_ANY), .val (.int (1 : Int32)), .val (.int (1 : Int32)), .val (.int (1 : Int32))]) rfl k) ?_
      refine GoW.st (fun _ k => XS.iload X205.here hx rfl (hb hby at_71) rfl k) ?_
      refine GoW.st (fun _ k => XS.iloadN X205.here hx rfl (hb hby at_73) rfl k) ?_
      refine GoW.st (fun _ k => XS.icmpNo X205.here hx rfl (hb hby at_74) rfl (teq (eqI liI_1 liI_1 (by decide))).2 k) ?_
      refine GoW.st (fun _ k => XS.iload X205.here hx rfl (hb hby at_77) rfl k) ?_
      refine GoW.st (fun _ k => XS.iload X205.here hx rfl (hb hby at_79) rfl k) ?_
      show GoW p e below s Q 2 16 (T205.setTop (mkF m 81 #[.val (.int x0), .val (.int (3 : Int32)), .val (.ref aPRESUMED_ANY), .val (.int (1 : Int32)), .val (.int (1 : Int32)), .val (.int (1 : Int32))] [(.int (1 : Int32)), (.int (1 : Int32))]))
      refine GoW.st (fun _ k => XS.icmpNo X205.here hx rfl (hb hby at_81) rfl (teq (eqI liI_1 liI_1 (by decide))).2 k) ?_
      refine GoW.st (fun _ k => XS.iconst X205.here hx rfl (hb hby at_84) k) ?_
      refine GoW.st (fun _ k => XS.goto X205.here hx rfl (pc0 := 85) (pc' := 89) rfl (hb hby at_85) (by decide) (by decide) k) ?_
      show GoW p e below s Q 2 16 (T205.setTop (mkF m 89 #[.val (.int x0), .val (.int (3 : Int32)), .val (.ref aPRESUMED_ANY), .val (.int (1 : Int32)), .val (.int (1 : Int32)), .val (.int (1 : Int32))] [(.int (1 : Int32))]))
      exact GoW.retN hS168 (vm0 := T168.vm) X205 (by rw [e205]; exact hk168) hx hlk (by simp) Bd.returns (hb hby at_89) (z' := (1 : Int32)) (by decide) (by rw [← hQ, e205]; exact ⟨rfl, N205, K168⟩) (by decide) (by decide)
    ·
      have f207 := rng32 zc
      have p208 : ¬ zc.toInt = 0 := by omega
      obtain ⟨cq206, kq206, q206a, q206b, q206c⟩ := isOf hZ168 e168 h180
      obtain ⟨_, _, ⟨T206, L206, k206, n206⟩, -, X206, ⟨Lc206, hQ206, l206, y206, z206⟩, st206⟩ := X168.virtualBack hx (y := (⟨"java/lang/String", "equals", "(Ljava/lang/Object;)Z"⟩ : MethodName)) (z := (⟨"java/lang/String", "equals", "(Ljava/lang/Object;)Z"⟩ : MethodName)) hown168 (mvT hZ168 (hw _ (List.mem_of_getElem? (i := 25) rfl))) (mvT hZ168 (hw _ (List.mem_of_getElem? (i := 26) rfl))) (notFace_of_selects (args := #[]) (mvT hZ168 (hw _ (List.mem_of_getElem? (i := 28) rfl)))) (mvT hZ168 (hw _ (List.mem_of_getElem? (i := 28) rfl))) (mvT hZ168 (hw _ (List.mem_of_getElem? (i := 27) rfl))) (by decide) (backOf (W := 0) (rm3 l Z a0 hw [] aPRESUMED_ANY_word b168 aPRESUMED_ANY_word_value u168 G_aPRESUMED_ANY_word_value FL168 zc h168 n0 (Nat.le_trans Z0 K168.1) heq h180 A168 h181 h182 C168 D168 h198 V168' h201 p208) hZ168 (hw _ (List.mem_of_getElem? (i := 29) rfl)) (hw _ (List.mem_of_getElem? (i := 18) rfl)) (by decide) (by decide)) q206a q206c (g := (mkF m 66 #[.val (.int x0), .val (.int (3 : Int32)), .val (.ref aPRESUMED_ANY), .val (.int (1 : Int32)), .val (.int (1 : Int32)), .unset] [(.ref b168), (.ref aPRESUMED_ANY_word)])) rfl (by rw [hml]; rfl) (Steps.refl _) (argsL := [(.ref b168)]) (rest := []) (lenOf pd_3 rfl) rfl (by show 2 * 0 + _ ≤ _; exact Nat.le_of_eq rfl) (hb hby at_66) (fun _ _ => ⟨rfl, e168, (by decide : 2 + 0 ≤ _), (by decide : 16 + 0 ≤ _)⟩)
      dsimp only [Pt.U, Pt.locs, Pt.cells, Pt.slots] at X206 l206 y206 z206 st206 hQ206
      subst l206 y206 z206
      obtain ⟨rr_209, rfl, N206q, f210, f211, f212, e206⟩ := hQ206
      have N206 := Fr.app N167 N206q
      refine GoW.tr  st206 ?_
      show GoW p e below s Q 2 16 (T206.setTop (mkF m 69 #[.val (.int x0), .val (.int (3 : Int32)), .val (.ref aPRESUMED_ANY), .val (.int (1 : Int32)), .val (.int (1 : Int32)), .unset] [(.int rr_209)]))
      have f213 := rng32 rr_209
      refine GoW.st (fun _ k => XS.istore X206.here hx rfl (hb hby at_69) rfl (l' := #[.val (.int x0), .val (.int (3 : Int32)), .val (.ref aPRESUMED_ANY), .val (.int (1 : Int32)), .val (.int (1 : Int32)), .val (.int rr_209)]) rfl k) ?_
      refine GoW.st (fun _ k => XS.iload X206.here hx rfl (hb hby at_71) rfl k) ?_
      refine GoW.st (fun _ k => XS.iloadN X206.here hx rfl (hb hby at_73) rfl k) ?_
      refine GoW.st (fun _ k => XS.icmpNo X206.here hx rfl (hb hby at_74) rfl (teq (eqI liI_1 liI_1 (by decide))).2 k) ?_
      refine GoW.st (fun _ k => XS.iload X206.here hx rfl (hb hby at_77) rfl k) ?_
      refine GoW.st (fun _ k => XS.iload X206.here hx rfl (hb hby at_79) rfl k) ?_
      show GoW p e below s Q 2 16 (T206.setTop (mkF m 81 #[.val (.int x0), .val (.int (3 : Int32)), .val (.ref aPRESUMED_ANY), .val (.int (1 : Int32)), .val (.int (1 : Int32)), .val (.int rr_209)] [(.int rr_209), (.int (1 : Int32))]))
      have c214 : 1 = rr_209.toInt := by omega
      refine GoW.st (fun _ k => XS.icmpNo X206.here hx rfl (hb hby at_81) rfl (teq (eqI liI_1 rfl c214)).2 k) ?_
      refine GoW.st (fun _ k => XS.iconst X206.here hx rfl (hb hby at_84) k) ?_
      refine GoW.st (fun _ k => XS.goto X206.here hx rfl (pc0 := 85) (pc' := 89) rfl (hb hby at_85) (by decide) (by decide) k) ?_
      show GoW p e below s Q 2 16 (T206.setTop (mkF m 89 #[.val (.int x0), .val (.int (3 : Int32)), .val (.ref aPRESUMED_ANY), .val (.int (1 : Int32)), .val (.int (1 : Int32)), .val (.int rr_209)] [(.int (1 : Int32))]))
      exact GoW.retN hS168 (vm0 := T168.vm) X206 (by rw [e206]; exact hk168) hx hlk (by simp) Bd.returns (hb hby at_89) (z' := (1 : Int32)) (by decide) (by rw [← hQ, e206]; exact ⟨rfl, N206, K168⟩) (by decide) (by decide)
set_option maxRecDepth 65536 in
set_option maxHeartbeats 40000000 in
theorem comes_1 {Post : Tables → Env → Array Value → State → Outcome → State → Prop} (hpost : ∀ tb e args s v u, (limb_1_1.after args s (.returned v) u = true ∧ limb_1_2.after args s (.returned v) u = true ∧ True) → ReturnedEndW s (.returned v) u (Jvm.fieldLocs frame_1_writes args s ++ Jvm.arrayLocs frame_1_arrays args s ++ Jvm.staticLocs frame_1_statics s) 8 1088 → Post tb e args s (.returned v) u) :
    ArmFor flags0 classFile x code maxLocals ret World_1 tables_1 room_1 Calls_1 rest_1 Pre_1 Post := by
  intro l hfl _ _ p e ha hc hk s m args below hf hA hF happ hP
  obtain ⟨hcalls, hrest, hpre⟩ := hP
  obtain ⟨-, -, -, hnamed, -, -, -, hat⟩ := (Spec.applies_iff hf).mp happ
  obtain ⟨hg, hn⟩ := and_e (Cond.before_iff.mp (show (Jvm.Cond.and given_1 narrow_1).before args s = true from hpre))
  obtain ⟨hcount, g0⟩ := and_e hg
  obtain ⟨w0, rfl⟩ : ∃ w0 : Value, args = #[w0] := by
    have hs : args.size = 1 := by simpa [Cond.value, given_1] using hcount
    obtain ⟨L⟩ := args
    match L, hs with
    | [w0], _ => exact ⟨w0, rfl⟩
  have hw := fun d (hd : d ∈ tables_1) => atoms_spec (ws := Jvm.Cond.code x code maxLocals ret :: tables_1) hat d (List.mem_cons_of_mem _ hd)
  have hfit : Fit s := fun {y c} hc i hi => by
    obtain ⟨ha, rfl⟩ := Array.getElem?_eq_some_iff.mp hc
    have q := List.all_eq_true.mp ((Array.all_eq_true_iff_forall_mem.mp hF) _ (Array.getElem_mem ha)) i (List.mem_range.mpr hi)
    simpa [Array.getElem?_eq_getElem hi] using q
  obtain ⟨hsets, hown0⟩ := atoms_of _ (rest_1_c_eq ▸ (show rest_1_c.before _ s = true from hrest))
  obtain ⟨i0, ei0⟩ := is_v g0
  obtain rfl : w0 = (.int i0) := Option.some.inj ei0
  obtain ⟨u1, u2⟩ := and_e hn
  obtain ⟨u3, u4⟩ := and_e u2
  obtain ⟨u5, u6⟩ := and_e u4
  obtain ⟨u7, u8⟩ := and_e u6
  obtain ⟨u9, u10⟩ := and_e u8
  obtain ⟨u11, u12⟩ := and_e u10
  obtain ⟨u13, u14⟩ := and_e u12
  obtain ⟨u15, u16⟩ := and_e u14
  obtain ⟨u17, u18⟩ := and_e u16
  obtain ⟨u19, u20⟩ := and_e u18
  obtain ⟨u21, u22⟩ := and_e u20
  obtain ⟨u23, u24⟩ := and_e u22
  obtain ⟨u25, u26⟩ := and_e u24
  obtain ⟨u27, u28⟩ := and_e u26
  obtain ⟨u29, u30⟩ := and_e u28
  obtain ⟨u31, u32⟩ := and_e u30
  obtain ⟨u33, u34⟩ := and_e u32
  obtain ⟨u35, u36⟩ := and_e u34
  obtain ⟨u37, u38⟩ := and_e u36
  obtain ⟨u39, u40⟩ := and_e u38
  obtain ⟨u41, u42⟩ := and_e u40
  obtain ⟨u43, u44⟩ := and_e u42
  obtain ⟨u45, u46⟩ := and_e u44
  obtain ⟨u47, u48⟩ := and_e u46
  obtain ⟨u49, u50⟩ := and_e u48
  obtain ⟨u51, u52⟩ := and_e u50
  obtain ⟨u53, u54⟩ := and_e u52
  obtain ⟨u55, u56⟩ := and_e u54
  obtain ⟨u57, u58⟩ := and_e u56
  obtain ⟨u59, u60⟩ := and_e u58
  obtain ⟨u61, u62⟩ := and_e u60
  obtain ⟨u63, u64⟩ := and_e u62
  obtain ⟨u65, u66⟩ := and_e u64
  obtain ⟨u67, u68⟩ := and_e u66
  obtain ⟨u69, u70⟩ := and_e u68
  obtain ⟨aPRESUMED_NOTHING, ev_aPRESUMED_NOTHING⟩ := exa_v u1
  have S_aPRESUMED_NOTHING : Sta s s.heap "com/example/concordat/concordat/model/Protocol" "PRESUMED_NOTHING" "Lcom/example/concordat/concordat/model/Protocol;" (.ref aPRESUMED_NOTHING) := Sta.start ev_aPRESUMED_NOTHING (Or.inr ⟨(hw _ (List.mem_of_getElem? (i := 1) rfl)), (hw _ (List.mem_of_getElem? (i := 2) rfl))⟩)
  have E_aPRESUMED_NOTHING : Exa s s.heap aPRESUMED_NOTHING "com/example/concordat/concordat/model/Protocol" := Exa.start ev_aPRESUMED_NOTHING u1
  obtain ⟨aPRESUMED_ANY, ev_aPRESUMED_ANY⟩ := exa_v u3
  have S_aPRESUMED_ANY : Sta s s.heap "com/example/concordat/concordat/model/Protocol" "PRESUMED_ANY" "Lcom/example/concordat/concordat/model/Protocol;" (.ref aPRESUMED_ANY) := Sta.start ev_aPRESUMED_ANY (Or.inr ⟨(hw _ (List.mem_of_getElem? (i := 1) rfl)), (hw _ (List.mem_of_getElem? (i := 9) rfl))⟩)
  have E_aPRESUMED_ANY : Exa s s.heap aPRESUMED_ANY "com/example/concordat/concordat/model/Protocol" := Exa.start ev_aPRESUMED_ANY u3
  have F_aPRESUMED_NOTHING_ordinal : Fld s s.heap aPRESUMED_NOTHING "java/lang/Enum" "ordinal" "I" (.int (0 : Int32)) := fld_int ev_aPRESUMED_NOTHING u5
  have F_aPRESUMED_ANY_ordinal : Fld s s.heap aPRESUMED_ANY "java/lang/Enum" "ordinal" "I" (.int (3 : Int32)) := fld_int ev_aPRESUMED_ANY u7
  obtain ⟨aPRESUMED_NOTHING_word, ev_aPRESUMED_NOTHING_word⟩ := exa_v u9
  have F_aPRESUMED_NOTHING_word : Fld s s.heap aPRESUMED_NOTHING "com/example/concordat/concordat/model/Protocol" "word" "Ljava/lang/String;" (.ref aPRESUMED_NOTHING_word) := Fld.start (by rw [← fld_at (args := _) (first := s) (o := none) (idx := []) ev_aPRESUMED_NOTHING]; exact ev_aPRESUMED_NOTHING_word)
  have E_aPRESUMED_NOTHING_word : Exa s s.heap aPRESUMED_NOTHING_word "java/lang/String" := Exa.start ev_aPRESUMED_NOTHING_word u9
  have F_aPRESUMED_NOTHING_word_coder : Fld s s.heap aPRESUMED_NOTHING_word "java/lang/String" "coder" "B" (.int (0 : Int32)) := fld_int ev_aPRESUMED_NOTHING_word u11
  obtain ⟨aPRESUMED_NOTHING_word_value, ev_aPRESUMED_NOTHING_word_value⟩ := arr_v u13
  have F_aPRESUMED_NOTHING_word_value : Fld s s.heap aPRESUMED_NOTHING_word "java/lang/String" "value" "[B" (.ref aPRESUMED_NOTHING_word_value) := Fld.start (by rw [← fld_at (args := _) (first := s) (o := none) (idx := []) ev_aPRESUMED_NOTHING_word]; exact ev_aPRESUMED_NOTHING_word_value)
  obtain ⟨aPRESUMED_ANY_word, ev_aPRESUMED_ANY_word⟩ := exa_v u19
  have F_aPRESUMED_ANY_word : Fld s s.heap aPRESUMED_ANY "com/example/concordat/concordat/model/Protocol" "word" "Ljava/lang/String;" (.ref aPRESUMED_ANY_word) := Fld.start (by rw [← fld_at (args := _) (first := s) (o := none) (idx := []) ev_aPRESUMED_ANY]; exact ev_aPRESUMED_ANY_word)
  have E_aPRESUMED_ANY_word : Exa s s.heap aPRESUMED_ANY_word "java/lang/String" := Exa.start ev_aPRESUMED_ANY_word u19
  have F_aPRESUMED_ANY_word_coder : Fld s s.heap aPRESUMED_ANY_word "java/lang/String" "coder" "B" (.int (0 : Int32)) := fld_int ev_aPRESUMED_ANY_word u21
  obtain ⟨aPRESUMED_ANY_word_value, ev_aPRESUMED_ANY_word_value⟩ := arr_v u23
  have F_aPRESUMED_ANY_word_value : Fld s s.heap aPRESUMED_ANY_word "java/lang/String" "value" "[B" (.ref aPRESUMED_ANY_word_value) := Fld.start (by rw [← fld_at (args := _) (first := s) (o := none) (idx := []) ev_aPRESUMED_ANY_word]; exact ev_aPRESUMED_ANY_word_value)
  obtain ⟨aPRESUMED_COMMIT, ev_aPRESUMED_COMMIT⟩ := exa_v u33
  have S_aPRESUMED_COMMIT : Sta s s.heap "com/example/concordat/concordat/model/Protocol" "PRESUMED_COMMIT" "Lcom/example/concordat/concordat/model/Protocol;" (.ref aPRESUMED_COMMIT) := Sta.start ev_aPRESUMED_COMMIT (Or.inr ⟨(hw _ (List.mem_of_getElem? (i := 1) rfl)), (hw _ (List.mem_of_getElem? (i := 41) rfl))⟩)
  have E_aPRESUMED_COMMIT : Exa s s.heap aPRESUMED_COMMIT "com/example/concordat/concordat/model/Protocol" := Exa.start ev_aPRESUMED_COMMIT u33
  have F_aPRESUMED_COMMIT_ordinal : Fld s s.heap aPRESUMED_COMMIT "java/lang/Enum" "ordinal" "I" (.int (2 : Int32)) := fld_int ev_aPRESUMED_COMMIT u35
  obtain ⟨aPRESUMED_COMMIT_word, ev_aPRESUMED_COMMIT_word⟩ := exa_v u37
  have F_aPRESUMED_COMMIT_word : Fld s s.heap aPRESUMED_COMMIT "com/example/concordat/concordat/model/Protocol" "word" "Ljava/lang/String;" (.ref aPRESUMED_COMMIT_word) := Fld.start (by rw [← fld_at (args := _) (first := s) (o := none) (idx := []) ev_aPRESUMED_COMMIT]; exact ev_aPRESUMED_COMMIT_word)
  have E_aPRESUMED_COMMIT_word : Exa s s.heap aPRESUMED_COMMIT_word "java/lang/String" := Exa.start ev_aPRESUMED_COMMIT_word u37
  have F_aPRESUMED_COMMIT_word_coder : Fld s s.heap aPRESUMED_COMMIT_word "java/lang/String" "coder" "B" (.int (0 : Int32)) := fld_int ev_aPRESUMED_COMMIT_word u39
  obtain ⟨aPRESUMED_COMMIT_word_value, ev_aPRESUMED_COMMIT_word_value⟩ := arr_v u41
  have F_aPRESUMED_COMMIT_word_value : Fld s s.heap aPRESUMED_COMMIT_word "java/lang/String" "value" "[B" (.ref aPRESUMED_COMMIT_word_value) := Fld.start (by rw [← fld_at (args := _) (first := s) (o := none) (idx := []) ev_aPRESUMED_COMMIT_word]; exact ev_aPRESUMED_COMMIT_word_value)
  obtain ⟨aPRESUMED_ABORT, ev_aPRESUMED_ABORT⟩ := exa_v u47
  have S_aPRESUMED_ABORT : Sta s s.heap "com/example/concordat/concordat/model/Protocol" "PRESUMED_ABORT" "Lcom/example/concordat/concordat/model/Protocol;" (.ref aPRESUMED_ABORT) := Sta.start ev_aPRESUMED_ABORT (Or.inr ⟨(hw _ (List.mem_of_getElem? (i := 1) rfl)), (hw _ (List.mem_of_getElem? (i := 43) rfl))⟩)
  have E_aPRESUMED_ABORT : Exa s s.heap aPRESUMED_ABORT "com/example/concordat/concordat/model/Protocol" := Exa.start ev_aPRESUMED_ABORT u47
  have F_aPRESUMED_ABORT_ordinal : Fld s s.heap aPRESUMED_ABORT "java/lang/Enum" "ordinal" "I" (.int (1 : Int32)) := fld_int ev_aPRESUMED_ABORT u49
  obtain ⟨aPRESUMED_ABORT_word, ev_aPRESUMED_ABORT_word⟩ := exa_v u51
  have F_aPRESUMED_ABORT_word : Fld s s.heap aPRESUMED_ABORT "com/example/concordat/concordat/model/Protocol" "word" "Ljava/lang/String;" (.ref aPRESUMED_ABORT_word) := Fld.start (by rw [← fld_at (args := _) (first := s) (o := none) (idx := []) ev_aPRESUMED_ABORT]; exact ev_aPRESUMED_ABORT_word)
  have E_aPRESUMED_ABORT_word : Exa s s.heap aPRESUMED_ABORT_word "java/lang/String" := Exa.start ev_aPRESUMED_ABORT_word u51
  have F_aPRESUMED_ABORT_word_coder : Fld s s.heap aPRESUMED_ABORT_word "java/lang/String" "coder" "B" (.int (0 : Int32)) := fld_int ev_aPRESUMED_ABORT_word u53
  obtain ⟨aPRESUMED_ABORT_word_value, ev_aPRESUMED_ABORT_word_value⟩ := arr_v u55
  have F_aPRESUMED_ABORT_word_value : Fld s s.heap aPRESUMED_ABORT_word "java/lang/String" "value" "[B" (.ref aPRESUMED_ABORT_word_value) := Fld.start (by rw [← fld_at (args := _) (first := s) (o := none) (idx := []) ev_aPRESUMED_ABORT_word]; exact ev_aPRESUMED_ABORT_word_value)
  obtain ⟨G_aPRESUMED_NOTHING_word_value, V_aPRESUMED_NOTHING_word_value, W_aPRESUMED_NOTHING_word_value⟩ := vec_start hfit ev_aPRESUMED_NOTHING_word_value u13 u15 (by decide)
  have P_aPRESUMED_NOTHING_word_value_0 : (G_aPRESUMED_NOTHING_word_value 0).toInt = 112 := (congrArg Int32.toInt (show G_aPRESUMED_NOTHING_word_value 0 = (112 : Int32) from W_aPRESUMED_NOTHING_word_value (0 : Int32) (112 : Int32) u17 (by decide))).trans (by decide)
  have P_aPRESUMED_NOTHING_word_value_1 : (G_aPRESUMED_NOTHING_word_value 1).toInt = 114 := (congrArg Int32.toInt (show G_aPRESUMED_NOTHING_word_value 1 = (114 : Int32) from W_aPRESUMED_NOTHING_word_value (1 : Int32) (114 : Int32) u61 (by decide))).trans (by decide)
  have P_aPRESUMED_NOTHING_word_value_2 : (G_aPRESUMED_NOTHING_word_value 2).toInt = 110 := (congrArg Int32.toInt (show G_aPRESUMED_NOTHING_word_value 2 = (110 : Int32) from W_aPRESUMED_NOTHING_word_value (2 : Int32) (110 : Int32) u63 (by decide))).trans (by decide)
  obtain ⟨G_aPRESUMED_ANY_word_value, V_aPRESUMED_ANY_word_value, W_aPRESUMED_ANY_word_value⟩ := vec_start hfit ev_aPRESUMED_ANY_word_value u23 u25 (by decide)
  have P_aPRESUMED_ANY_word_value_0 : (G_aPRESUMED_ANY_word_value 0).toInt = 97 := (congrArg Int32.toInt (show G_aPRESUMED_ANY_word_value 0 = (97 : Int32) from W_aPRESUMED_ANY_word_value (0 : Int32) (97 : Int32) u27 (by decide))).trans (by decide)
  have P_aPRESUMED_ANY_word_value_1 : (G_aPRESUMED_ANY_word_value 1).toInt = 110 := (congrArg Int32.toInt (show G_aPRESUMED_ANY_word_value 1 = (110 : Int32) from W_aPRESUMED_ANY_word_value (1 : Int32) (110 : Int32) u29 (by decide))).trans (by decide)
  have P_aPRESUMED_ANY_word_value_2 : (G_aPRESUMED_ANY_word_value 2).toInt = 121 := (congrArg Int32.toInt (show G_aPRESUMED_ANY_word_value 2 = (121 : Int32) from W_aPRESUMED_ANY_word_value (2 : Int32) (121 : Int32) u31 (by decide))).trans (by decide)
  obtain ⟨G_aPRESUMED_COMMIT_word_value, V_aPRESUMED_COMMIT_word_value, W_aPRESUMED_COMMIT_word_value⟩ := vec_start hfit ev_aPRESUMED_COMMIT_word_value u41 u43 (by decide)
  have P_aPRESUMED_COMMIT_word_value_0 : (G_aPRESUMED_COMMIT_word_value 0).toInt = 112 := (congrArg Int32.toInt (show G_aPRESUMED_COMMIT_word_value 0 = (112 : Int32) from W_aPRESUMED_COMMIT_word_value (0 : Int32) (112 : Int32) u45 (by decide))).trans (by decide)
  have P_aPRESUMED_COMMIT_word_value_1 : (G_aPRESUMED_COMMIT_word_value 1).toInt = 114 := (congrArg Int32.toInt (show G_aPRESUMED_COMMIT_word_value 1 = (114 : Int32) from W_aPRESUMED_COMMIT_word_value (1 : Int32) (114 : Int32) u65 (by decide))).trans (by decide)
  have P_aPRESUMED_COMMIT_word_value_2 : (G_aPRESUMED_COMMIT_word_value 2).toInt = 99 := (congrArg Int32.toInt (show G_aPRESUMED_COMMIT_word_value 2 = (99 : Int32) from W_aPRESUMED_COMMIT_word_value (2 : Int32) (99 : Int32) u67 (by decide))).trans (by decide)
  obtain ⟨G_aPRESUMED_ABORT_word_value, V_aPRESUMED_ABORT_word_value, W_aPRESUMED_ABORT_word_value⟩ := vec_start hfit ev_aPRESUMED_ABORT_word_value u55 u57 (by decide)
  have P_aPRESUMED_ABORT_word_value_0 : (G_aPRESUMED_ABORT_word_value 0).toInt = 112 := (congrArg Int32.toInt (show G_aPRESUMED_ABORT_word_value 0 = (112 : Int32) from W_aPRESUMED_ABORT_word_value (0 : Int32) (112 : Int32) u59 (by decide))).trans (by decide)
  have P_aPRESUMED_ABORT_word_value_1 : (G_aPRESUMED_ABORT_word_value 1).toInt = 114 := (congrArg Int32.toInt (show G_aPRESUMED_ABORT_word_value 1 = (114 : Int32) from W_aPRESUMED_ABORT_word_value (1 : Int32) (114 : Int32) u69 (by decide))).trans (by decide)
  have P_aPRESUMED_ABORT_word_value_2 : (G_aPRESUMED_ABORT_word_value 2).toInt = 97 := (congrArg Int32.toInt (show G_aPRESUMED_ABORT_word_value 2 = (97 : Int32) from W_aPRESUMED_ABORT_word_value (2 : Int32) (97 : Int32) u70 (by decide))).trans (by decide)
  have ne_aPRESUMED_NOTHING_aPRESUMED_ANY : aPRESUMED_NOTHING ≠ aPRESUMED_ANY := Fld.ne F_aPRESUMED_NOTHING_ordinal F_aPRESUMED_ANY_ordinal (by first | decide | simp)
  have ne_aPRESUMED_NOTHING_aPRESUMED_COMMIT : aPRESUMED_NOTHING ≠ aPRESUMED_COMMIT := Fld.ne F_aPRESUMED_NOTHING_ordinal F_aPRESUMED_COMMIT_ordinal (by first | decide | simp)
  have ne_aPRESUMED_NOTHING_aPRESUMED_ABORT : aPRESUMED_NOTHING ≠ aPRESUMED_ABORT := Fld.ne F_aPRESUMED_NOTHING_ordinal F_aPRESUMED_ABORT_ordinal (by first | decide | simp)
  have ne_aPRESUMED_ANY_aPRESUMED_COMMIT : aPRESUMED_ANY ≠ aPRESUMED_COMMIT := Fld.ne F_aPRESUMED_ANY_ordinal F_aPRESUMED_COMMIT_ordinal (by first | decide | simp)
  have ne_aPRESUMED_ANY_aPRESUMED_ABORT : aPRESUMED_ANY ≠ aPRESUMED_ABORT := Fld.ne F_aPRESUMED_ANY_ordinal F_aPRESUMED_ABORT_ordinal (by first | decide | simp)
  have ne_aPRESUMED_COMMIT_aPRESUMED_ABORT : aPRESUMED_COMMIT ≠ aPRESUMED_ABORT := Fld.ne F_aPRESUMED_COMMIT_ordinal F_aPRESUMED_ABORT_ordinal (by first | decide | simp)
  obtain ⟨zc, ezc⟩ := is_v (Cond.before_iff.mp (hsets _ (List.mem_of_getElem? (i := 1) rfl)))
  have S_CS : Sta s s.heap "java/lang/String" "COMPACT_STRINGS" "Z" (.int zc) := Sta.start ezc (Or.inl (hsets _ (List.mem_of_getElem? (i := 0) rfl)))
  have P_CS : ¬ zc.toInt = 0 := fun q => not_eq_ev ezc (Cond.before_iff.mp (hsets _ (List.mem_of_getElem? (i := 2) rfl))) (Int32.toInt_inj.mp (q.trans (by decide)))
  obtain ⟨n, o, h1, h2, h3, _, L, rfl, ⟨rfl, N, _⟩, hq⟩ := rm0 l s _ hw tables_1 i0 aPRESUMED_NOTHING aPRESUMED_ANY aPRESUMED_NOTHING_word aPRESUMED_NOTHING_word_value aPRESUMED_ANY_word aPRESUMED_ANY_word_value aPRESUMED_COMMIT aPRESUMED_COMMIT_word aPRESUMED_COMMIT_word_value aPRESUMED_ABORT aPRESUMED_ABORT_word aPRESUMED_ABORT_word_value G_aPRESUMED_NOTHING_word_value G_aPRESUMED_ANY_word_value G_aPRESUMED_COMMIT_word_value G_aPRESUMED_ABORT_word_value zc s.heap s.heap.size (Nat.le_refl _) S_aPRESUMED_NOTHING E_aPRESUMED_NOTHING S_aPRESUMED_ANY E_aPRESUMED_ANY F_aPRESUMED_NOTHING_ordinal F_aPRESUMED_ANY_ordinal F_aPRESUMED_NOTHING_word E_aPRESUMED_NOTHING_word F_aPRESUMED_NOTHING_word_coder F_aPRESUMED_NOTHING_word_value F_aPRESUMED_ANY_word E_aPRESUMED_ANY_word F_aPRESUMED_ANY_word_coder F_aPRESUMED_ANY_word_value S_aPRESUMED_COMMIT E_aPRESUMED_COMMIT F_aPRESUMED_COMMIT_ordinal F_aPRESUMED_COMMIT_word E_aPRESUMED_COMMIT_word F_aPRESUMED_COMMIT_word_coder F_aPRESUMED_COMMIT_word_value S_aPRESUMED_ABORT E_aPRESUMED_ABORT F_aPRESUMED_ABORT_ordinal F_aPRESUMED_ABORT_word E_aPRESUMED_ABORT_word F_aPRESUMED_ABORT_word_coder F_aPRESUMED_ABORT_word_value V_aPRESUMED_NOTHING_word_value P_aPRESUMED_NOTHING_word_value_0 P_aPRESUMED_NOTHING_word_value_1 P_aPRESUMED_NOTHING_word_value_2 V_aPRESUMED_ANY_word_value P_aPRESUMED_ANY_word_value_0 P_aPRESUMED_ANY_word_value_1 P_aPRESUMED_ANY_word_value_2 V_aPRESUMED_COMMIT_word_value P_aPRESUMED_COMMIT_word_value_0 P_aPRESUMED_COMMIT_word_value_1 P_aPRESUMED_COMMIT_word_value_2 V_aPRESUMED_ABORT_word_value P_aPRESUMED_ABORT_word_value_0 P_aPRESUMED_ABORT_word_value_1 P_aPRESUMED_ABORT_word_value_2 ne_aPRESUMED_NOTHING_aPRESUMED_ANY ne_aPRESUMED_NOTHING_aPRESUMED_COMMIT ne_aPRESUMED_NOTHING_aPRESUMED_ABORT ne_aPRESUMED_ANY_aPRESUMED_COMMIT ne_aPRESUMED_ANY_aPRESUMED_ABORT ne_aPRESUMED_COMMIT_aPRESUMED_ABORT S_CS P_CS rfl (show Jvm.Lit.constHeld s "com/example/concordat/concordat/model/ProtocolIsMixedPinLaw" 30 from hcalls.1 _ (List.mem_of_getElem? (i := 0) rfl)) (hsets _ (List.mem_of_getElem? (i := 2) rfl)) p e ha hc hk s m _ below hf ((Spec.applies_iff_loose hf).mp happ).1 ⟨rfl, State.Warmed39.refl s, rfl, rfl⟩ trivial
  refine ⟨n, _, h1, h2, h3, hpost _ _ _ _ _ _ ⟨Cond.after_iff.mpr rfl, Cond.after_iff.mpr (eq_i res_at (Term.int_eval (1)) rfl), trivial⟩ ⟨hq.1, hq.2.1, hq.2.2.1, (hq.2.2.2.sift fun y hy => Or.inr (N y hy)).mono (by decide) (by decide)⟩⟩
theorem main_1_1 : Claimed_1_1 := comes_1 fun _ _ _ _ _ _ h hF => ⟨h.1, hF⟩
theorem main_1_2 : Claimed_1_2 := comes_1 fun _ _ _ _ _ _ h hF => ⟨h.2.1, hF⟩
end Jvm.Pilot.@@N@@
namespace Jvm.Pilot.@@N@@
open Jvm Jvm.ClassFile Sem Op Lib Jvm.Free Jvm.Stand Jvm.Pilot.@@N@@.Jvm.D
/-! MADE BY PROGRAM (witnessworld.py) out of the Statement's table words and the real class files: 18 classes; the members and pool entries that the words name. The judged class is class 1, her method 1. -/
namespace start1
open Jvm.ClassFile
def u (s : String) : CpInfo := .utf8 (stringToUtf16 s)
/-- a pool by its gaps: so many unusable entries, then the entry; so many at the end -/
def gap : Nat → List CpInfo → List CpInfo
  | 0, r => r
  | n + 1, r => .unusable :: gap n r
def poolList (es : List (Nat × CpInfo)) (last : Nat) : List CpInfo := es.foldr (fun e r => gap e.1 (e.2 :: r)) (gap last [])
def pool (es : List (Nat × CpInfo)) (last : Nat) : Array CpInfo := ⟨poolList es last⟩
def fileOf (pool : Array CpInfo) (this : Nat) (attrs : Array Attribute := #[]) (ms : Array MethodInfo := #[]) (fl : Nat := 33) (sup : Nat := 0) (ifs : Array Nat := #[]) (fds : Array FieldInfo := #[]) : ClassFile where
  minorVersion := 0
  majorVersion := 65
  constantPool := pool
  accessFlags := fl
  thisClass := this
  superClass := sup
  interfaces := ifs
  fields := fds
  methods := ms
  attributes := attrs
def plain (name : String) (sup : Option ClassId) : Class where
  name := name
  kind := .ordinary
  loader := none
  accessFlags := 33
  super := sup
  interfaces := #[]
  cf := none
  fields := #[]
  methods := #[]
  instanceTypes := #[]
  staticTypes := #[]
  resolved := #[]
  callSites := []
  init := .initialized
  statics := none
  mirror := none

def pool0 : Array CpInfo := pool [(5, u "<init>"), (0, u "()V"), (1, .class_ 10), (1, u "java/lang/Object")] 113

def k0m0 : Method := { name := "<init>", desc := "()V", sig := { parameters := [], returnType := none }, accessFlags := 1, code := none }
/-- java/lang/Object -/
def k0 : Class := { plain "java/lang/Object" none with
  accessFlags := 33
  interfaces := #[]
  cf := some (fileOf pool0 8 #[] #[{ accessFlags := 1, nameIndex := 5, descriptorIndex := 6, attributes := #[] }] 33 0 #[] #[])
  fields := #[]
  methods := #[k0m0]
  instanceTypes := #[]
  staticTypes := #[]
  resolved := Array.replicate 124 none
  statics := none }

def pool1 : Array CpInfo := pool [(2, .class_ 4), (1, u "java/lang/Object"), (0, u "<init>"), (0, u "()V"), (0, .fieldref 8 9), (0, .class_ 10), (0, .nameAndType 11 12), (0, u "com/example/concordat/concordat/model/Protocol"), (0, u "PRESUMED_NOTHING"), (0, u "Lcom/example/concordat/concordat/model/Protocol;"), (0, .fieldref 8 14), (0, .nameAndType 15 12), (0, u "PRESUMED_ABORT"), (0, .fieldref 8 17), (0, .nameAndType 18 12), (0, u "PRESUMED_COMMIT"), (0, .fieldref 8 20), (0, .nameAndType 21 12), (0, u "PRESUMED_ANY"), (0, .methodref 8 23), (0, .nameAndType 24 25), (0, u "isMixed"), (0, u "()Z"), (0, .methodref 8 27), (0, .nameAndType 28 29), (0, u "word"), (0, u "()Ljava/lang/String;"), (0, .string 31), (0, u "any"), (0, .methodref 33 34), (0, .class_ 35), (0, .nameAndType 36 37), (0, u "java/lang/String"), (0, u "equals"), (0, u "(Ljava/lang/Object;)Z"), (0, .class_ 39), (0, u "com/example/concordat/concordat/model/ProtocolIsMixedPinLaw"), (2, u "law"), (0, u "(I)Z")] 3

def k1m0 : Method := { name := "<init>", desc := "()V", sig := { parameters := [], returnType := none }, accessFlags := 1, code := none }
def k1c1 : Code := { maxStack := 2, maxLocals := 6, code := code, exceptionTable := #[], attributes := #[] }
def k1m1 : Method := { name := "law", desc := "(I)Z", sig := { parameters := [.int], returnType := some .boolean }, accessFlags := 9, code := some k1c1 }
/-- com/example/concordat/concordat/model/ProtocolIsMixedPinLaw -/
def k1 : Class := { plain "com/example/concordat/concordat/model/ProtocolIsMixedPinLaw" (some 0) with
  accessFlags := 49
  interfaces := #[]
  cf := some (fileOf pool1 38 #[] #[{ accessFlags := 1, nameIndex := 5, descriptorIndex := 6, attributes := #[] }, { accessFlags := 9, nameIndex := 42, descriptorIndex := 43, attributes := #[] }] 49 2 #[] #[])
  fields := #[]
  methods := #[k1m0, k1m1]
  instanceTypes := #[]
  staticTypes := #[]
  resolved := Array.replicate 47 none
  statics := none }

def pool2 : Array CpInfo := pool [(1, .class_ 2), (0, u "java/lang/constant/Constable"), (0, .class_ 4), (0, u "java/lang/Object")] 6

/-- java/lang/constant/Constable -/
def k2 : Class := { plain "java/lang/constant/Constable" (some 0) with
  accessFlags := 1537
  interfaces := #[]
  cf := some (fileOf pool2 1 #[] #[] 1537 3 #[] #[])
  fields := #[]
  methods := #[]
  instanceTypes := #[]
  staticTypes := #[]
  resolved := Array.replicate 11 none
  statics := none }

def pool3 : Array CpInfo := pool [(1, .class_ 2), (0, u "java/lang/Comparable"), (0, .class_ 4), (0, u "java/lang/Object")] 7

/-- java/lang/Comparable -/
def k3 : Class := { plain "java/lang/Comparable" (some 0) with
  accessFlags := 1537
  interfaces := #[]
  cf := some (fileOf pool3 1 #[] #[] 1537 3 #[] #[])
  fields := #[]
  methods := #[]
  instanceTypes := #[]
  staticTypes := #[]
  resolved := Array.replicate 12 none
  statics := none }

def pool4 : Array CpInfo := pool [(1, .class_ 2), (0, u "java/io/Serializable"), (0, .class_ 4), (0, u "java/lang/Object")] 2

/-- java/io/Serializable -/
def k4 : Class := { plain "java/io/Serializable" (some 0) with
  accessFlags := 1537
  interfaces := #[]
  cf := some (fileOf pool4 1 #[] #[] 1537 3 #[] #[])
  fields := #[]
  methods := #[]
  instanceTypes := #[]
  staticTypes := #[]
  resolved := Array.replicate 7 none
  statics := none }

def pool5 : Array CpInfo := pool [(2, .class_ 4), (1, u "java/lang/Enum"), (0, u "name"), (0, u "Ljava/lang/String;"), (2, u "ordinal"), (0, u "I"), (1, .class_ 14), (1, u "java/lang/Object"), (4, u "hash"), (86, .class_ 108), (1, u "java/lang/Enum$EnumDesc"), (2, .class_ 112), (0, u "java/lang/constant/Constable"), (0, .class_ 114), (0, u "java/lang/Comparable"), (0, .class_ 116), (0, u "java/io/Serializable")] 87

/-- java/lang/Enum -/
def k5 : Class := { plain "java/lang/Enum" (some 0) with
  accessFlags := 1057
  interfaces := #[2, 3, 4]
  cf := some (fileOf pool5 2 #[.nestMembers #[106]] #[] 1057 12 #[111, 113, 115] #[{ accessFlags := 18, nameIndex := 5, descriptorIndex := 6, attributes := #[] }, { accessFlags := 18, nameIndex := 9, descriptorIndex := 10, attributes := #[] }, { accessFlags := 2, nameIndex := 19, descriptorIndex := 10, attributes := #[] }])
  fields := #[{ name := "name", type := (.object "java/lang/String"), accessFlags := 18, slot := 0, constantValue := 0 }, { name := "ordinal", type := .int, accessFlags := 18, slot := 1, constantValue := 0 }, { name := "hash", type := .int, accessFlags := 2, slot := 2, constantValue := 0 }]
  methods := #[]
  instanceTypes := #[(.object "java/lang/String"), .int, .int]
  staticTypes := #[]
  resolved := Array.replicate 204 none
  statics := none }

def pool6 : Array CpInfo := pool [(1, .class_ 2), (0, u "com/example/concordat/concordat/model/Protocol"), (2, u "PRESUMED_NOTHING"), (0, u "Lcom/example/concordat/concordat/model/Protocol;"), (2, u "PRESUMED_ABORT"), (2, u "PRESUMED_COMMIT"), (0, .fieldref 1 14), (0, .nameAndType 15 6), (0, u "PRESUMED_ANY"), (2, u "$VALUES"), (0, u "[Lcom/example/concordat/concordat/model/Protocol;"), (6, .class_ 28), (1, u "java/lang/Enum"), (6, .fieldref 1 36), (0, .nameAndType 37 38), (0, u "word"), (0, u "Ljava/lang/String;"), (2, u "commitAcknowledged"), (0, u "Z"), (2, u "abortAcknowledged"), (2, u "readVote"), (2, u "initiation"), (9, u "isMixed"), (0, u "()Z"), (99, u "()Ljava/lang/String;")] 33

def k6c0 : Code := { maxStack := 1, maxLocals := 1, code := prog_32_method_5_code, exceptionTable := #[], attributes := #[] }
def k6m0 : Method := { name := "word", desc := "()Ljava/lang/String;", sig := { parameters := [], returnType := some (.object "java/lang/String") }, accessFlags := 1, code := some k6c0 }
def k6c1 : Code := { maxStack := 2, maxLocals := 1, code := prog_32_method_6_code, exceptionTable := #[], attributes := #[] }
def k6m1 : Method := { name := "isMixed", desc := "()Z", sig := { parameters := [], returnType := some .boolean }, accessFlags := 1, code := some k6c1 }
/-- com/example/concordat/concordat/model/Protocol -/
def k6 : Class := { plain "com/example/concordat/concordat/model/Protocol" (some 5) with
  accessFlags := 16433
  interfaces := #[]
  cf := some (fileOf pool6 1 #[] #[{ accessFlags := 1, nameIndex := 37, descriptorIndex := 162, attributes := #[] }, { accessFlags := 1, nameIndex := 61, descriptorIndex := 62, attributes := #[] }] 16433 26 #[] #[{ accessFlags := 16409, nameIndex := 5, descriptorIndex := 6, attributes := #[] }, { accessFlags := 16409, nameIndex := 9, descriptorIndex := 6, attributes := #[] }, { accessFlags := 16409, nameIndex := 12, descriptorIndex := 6, attributes := #[] }, { accessFlags := 16409, nameIndex := 15, descriptorIndex := 6, attributes := #[] }, { accessFlags := 18, nameIndex := 37, descriptorIndex := 38, attributes := #[] }, { accessFlags := 18, nameIndex := 41, descriptorIndex := 42, attributes := #[] }, { accessFlags := 18, nameIndex := 45, descriptorIndex := 42, attributes := #[] }, { accessFlags := 18, nameIndex := 48, descriptorIndex := 42, attributes := #[] }, { accessFlags := 18, nameIndex := 51, descriptorIndex := 42, attributes := #[] }, { accessFlags := 4122, nameIndex := 18, descriptorIndex := 19, attributes := #[] }])
  fields := #[{ name := "PRESUMED_NOTHING", type := (.object "com/example/concordat/concordat/model/Protocol"), accessFlags := 16409, slot := 0, constantValue := 0 }, { name := "PRESUMED_ABORT", type := (.object "com/example/concordat/concordat/model/Protocol"), accessFlags := 16409, slot := 1, constantValue := 0 }, { name := "PRESUMED_COMMIT", type := (.object "com/example/concordat/concordat/model/Protocol"), accessFlags := 16409, slot := 2, constantValue := 0 }, { name := "PRESUMED_ANY", type := (.object "com/example/concordat/concordat/model/Protocol"), accessFlags := 16409, slot := 3, constantValue := 0 }, { name := "word", type := (.object "java/lang/String"), accessFlags := 18, slot := 3, constantValue := 0 }, { name := "commitAcknowledged", type := .boolean, accessFlags := 18, slot := 4, constantValue := 0 }, { name := "abortAcknowledged", type := .boolean, accessFlags := 18, slot := 5, constantValue := 0 }, { name := "readVote", type := .boolean, accessFlags := 18, slot := 6, constantValue := 0 }, { name := "initiation", type := .boolean, accessFlags := 18, slot := 7, constantValue := 0 }, { name := "$VALUES", type := (.array (.object "com/example/concordat/concordat/model/Protocol")), accessFlags := 4122, slot := 4, constantValue := 0 }]
  methods := #[k6m0, k6m1]
  instanceTypes := #[(.object "java/lang/String"), .int, .int, (.object "java/lang/String"), .boolean, .boolean, .boolean, .boolean]
  staticTypes := #[(.object "com/example/concordat/concordat/model/Protocol"), (.object "com/example/concordat/concordat/model/Protocol"), (.object "com/example/concordat/concordat/model/Protocol"), (.object "com/example/concordat/concordat/model/Protocol"), (.array (.object "com/example/concordat/concordat/model/Protocol"))]
  resolved := Array.replicate 196 none
  statics := some 0 }

def pool7 : Array CpInfo := pool [(2, .class_ 4), (1, u "java/lang/CharSequence"), (42, .class_ 48), (0, u "java/lang/CharSequence$1CodePointIterator"), (10, .class_ 60), (0, u "java/lang/CharSequence$1CharIterator"), (5, .class_ 67), (0, u "java/lang/Object")] 63

/-- java/lang/CharSequence -/
def k7 : Class := { plain "java/lang/CharSequence" (some 0) with
  accessFlags := 1537
  interfaces := #[]
  cf := some (fileOf pool7 2 #[.nestMembers #[47, 59]] #[] 1537 66 #[] #[])
  fields := #[]
  methods := #[]
  instanceTypes := #[]
  staticTypes := #[]
  resolved := Array.replicate 131 none
  statics := none }

def pool8 : Array CpInfo := pool [(1, .class_ 2), (0, u "java/lang/constant/ConstantDesc"), (0, .class_ 4), (0, u "java/lang/Object")] 32

/-- java/lang/constant/ConstantDesc -/
def k8 : Class := { plain "java/lang/constant/ConstantDesc" (some 0) with
  accessFlags := 1537
  interfaces := #[]
  cf := some (fileOf pool8 1 #[] #[] 1537 3 #[] #[])
  fields := #[]
  methods := #[]
  instanceTypes := #[]
  staticTypes := #[]
  resolved := Array.replicate 37 none
  statics := none }

def pool9 : Array CpInfo := pool [(2, .class_ 4), (1, u "java/lang/Object"), (0, u "<init>"), (0, u "()V"), (2, .fieldref 10 11), (0, .class_ 12), (0, .nameAndType 13 14), (0, u "java/lang/String"), (0, u "value"), (0, u "[B"), (0, .fieldref 10 16), (0, .nameAndType 17 18), (0, u "coder"), (0, u "B"), (2, u "hash"), (0, u "I"), (2, u "hashIsZero"), (0, u "Z"), (11, .fieldref 10 39), (0, .nameAndType 40 26), (0, u "COMPACT_STRINGS"), (66, .class_ 109), (1, u "java/lang/StringLatin1"), (431, .methodref 107 542), (0, .nameAndType 543 544), (0, u "equals"), (0, u "([B[B)Z"), (28, u "(Ljava/lang/Object;)Z"), (1, .class_ 576), (0, u "java/lang/CharSequence"), (22, u "CASE_INSENSITIVE_ORDER"), (0, u "Ljava/util/Comparator;"), (500, u "serialPersistentFields"), (0, u "[Ljava/io/ObjectStreamField;"), (0, .class_ 1104), (0, u "java/lang/String$CaseInsensitiveComparator"), (1, .class_ 1107), (0, u "java/io/Serializable"), (0, .class_ 1109), (0, u "java/lang/Comparable"), (0, .class_ 1111), (0, u "java/lang/constant/Constable"), (0, .class_ 1113), (0, u "java/lang/constant/ConstantDesc"), (2, u "serialVersionUID"), (0, u "J"), (3, u "REPL"), (0, u "C"), (2, u "LATIN1"), (1, u "UTF16")] 323

def k9m0 : Method := { name := "<init>", desc := "()V", sig := { parameters := [], returnType := none }, accessFlags := 1, code := none }
def k9c1 : Code := { maxStack := 2, maxLocals := 3, code := jdk_42_method_66_code, exceptionTable := #[], attributes := #[] }
def k9m1 : Method := { name := "equals", desc := "(Ljava/lang/Object;)Z", sig := { parameters := [(.object "java/lang/Object")], returnType := some .boolean }, accessFlags := 1, code := some k9c1 }
/-- java/lang/String -/
def k9 : Class := { plain "java/lang/String" (some 0) with
  accessFlags := 49
  interfaces := #[4, 3, 7, 2, 8]
  cf := some (fileOf pool9 10 #[.nestMembers #[1103]] #[{ accessFlags := 1, nameIndex := 5, descriptorIndex := 6, attributes := #[] }, { accessFlags := 1, nameIndex := 543, descriptorIndex := 573, attributes := #[] }] 49 2 #[1106, 1108, 575, 1110, 1112] #[{ accessFlags := 18, nameIndex := 13, descriptorIndex := 14, attributes := #[] }, { accessFlags := 18, nameIndex := 17, descriptorIndex := 18, attributes := #[] }, { accessFlags := 2, nameIndex := 21, descriptorIndex := 22, attributes := #[] }, { accessFlags := 2, nameIndex := 25, descriptorIndex := 26, attributes := #[] }, { accessFlags := 26, nameIndex := 1116, descriptorIndex := 1117, attributes := #[] }, { accessFlags := 24, nameIndex := 40, descriptorIndex := 26, attributes := #[] }, { accessFlags := 26, nameIndex := 1101, descriptorIndex := 1102, attributes := #[] }, { accessFlags := 26, nameIndex := 1121, descriptorIndex := 1122, attributes := #[] }, { accessFlags := 25, nameIndex := 599, descriptorIndex := 600, attributes := #[] }, { accessFlags := 24, nameIndex := 1125, descriptorIndex := 18, attributes := #[] }, { accessFlags := 24, nameIndex := 1127, descriptorIndex := 18, attributes := #[] }])
  fields := #[{ name := "value", type := (.array .byte), accessFlags := 18, slot := 0, constantValue := 0 }, { name := "coder", type := .byte, accessFlags := 18, slot := 1, constantValue := 0 }, { name := "hash", type := .int, accessFlags := 2, slot := 2, constantValue := 0 }, { name := "hashIsZero", type := .boolean, accessFlags := 2, slot := 3, constantValue := 0 }, { name := "serialVersionUID", type := .long, accessFlags := 26, slot := 0, constantValue := 0 }, { name := "COMPACT_STRINGS", type := .boolean, accessFlags := 24, slot := 1, constantValue := 0 }, { name := "serialPersistentFields", type := (.array (.object "java/io/ObjectStreamField")), accessFlags := 26, slot := 2, constantValue := 0 }, { name := "REPL", type := .char, accessFlags := 26, slot := 3, constantValue := 0 }, { name := "CASE_INSENSITIVE_ORDER", type := (.object "java/util/Comparator"), accessFlags := 25, slot := 4, constantValue := 0 }, { name := "LATIN1", type := .byte, accessFlags := 24, slot := 5, constantValue := 0 }, { name := "UTF16", type := .byte, accessFlags := 24, slot := 6, constantValue := 0 }]
  methods := #[k9m0, k9m1]
  instanceTypes := #[(.array .byte), .byte, .int, .boolean]
  staticTypes := #[.long, .boolean, (.array (.object "java/io/ObjectStreamField")), .char, (.object "java/util/Comparator"), .byte, .byte]
  resolved := Array.replicate 1451 none
  statics := some 1 }

def pool10 : Array CpInfo := pool [(4, .class_ 6), (1, u "java/lang/Object"), (0, u "<init>"), (0, u "()V"), (5, .class_ 16), (1, u "java/lang/StringLatin1"), (104, u "$assertionsDisabled"), (0, u "Z"), (98, .class_ 223), (1, u "java/lang/StringLatin1$LinesSpliterator"), (57, u "equals"), (0, u "([B[B)Z"), (107, .class_ 391), (0, u "java/lang/StringLatin1$CharsSpliterator")] 3

def k10m0 : Method := { name := "<init>", desc := "()V", sig := { parameters := [], returnType := none }, accessFlags := 0, code := none }
def k10c1 : Code := { maxStack := 3, maxLocals := 3, code := jdk_43_method_13_code, exceptionTable := #[], attributes := #[] }
def k10m1 : Method := { name := "equals", desc := "([B[B)Z", sig := { parameters := [(.array .byte), (.array .byte)], returnType := some .boolean }, accessFlags := 9, code := some k10c1 }
/-- java/lang/StringLatin1 -/
def k10 : Class := { plain "java/lang/StringLatin1" (some 0) with
  accessFlags := 48
  interfaces := #[]
  cf := some (fileOf pool10 14 #[.nestMembers #[390, 221]] #[{ accessFlags := 0, nameIndex := 7, descriptorIndex := 8, attributes := #[] }, { accessFlags := 9, nameIndex := 281, descriptorIndex := 282, attributes := #[] }] 48 4 #[] #[{ accessFlags := 4120, nameIndex := 121, descriptorIndex := 122, attributes := #[] }])
  fields := #[{ name := "$assertionsDisabled", type := .boolean, accessFlags := 4120, slot := 0, constantValue := 0 }]
  methods := #[k10m0, k10m1]
  instanceTypes := #[]
  staticTypes := #[.boolean]
  resolved := Array.replicate 395 none
  statics := none }

def pool11 : Array CpInfo := pool [(2, .class_ 4), (1, u "java/lang/Object"), (0, u "<init>"), (0, u "()V"), (17, .class_ 26), (1, u "jdk/internal/util/Preconditions"), (28, .class_ 56), (0, u "jdk/internal/util/Preconditions$4"), (57, .class_ 115), (0, u "jdk/internal/util/Preconditions$1"), (7, u "SIOOBE_FORMATTER"), (0, u "Ljava/util/function/BiFunction;"), (0, .class_ 126), (0, u "jdk/internal/util/Preconditions$2"), (3, u "AIOOBE_FORMATTER"), (0, .class_ 132), (0, u "jdk/internal/util/Preconditions$3"), (3, u "IOOBE_FORMATTER")] 57

def k11m0 : Method := { name := "<init>", desc := "()V", sig := { parameters := [], returnType := none }, accessFlags := 1, code := none }
/-- jdk/internal/util/Preconditions -/
def k11 : Class := { plain "jdk/internal/util/Preconditions" (some 0) with
  accessFlags := 33
  interfaces := #[]
  cf := some (fileOf pool11 24 #[.nestMembers #[55, 131, 125, 114]] #[{ accessFlags := 1, nameIndex := 5, descriptorIndex := 6, attributes := #[] }] 33 2 #[] #[{ accessFlags := 25, nameIndex := 123, descriptorIndex := 124, attributes := #[] }, { accessFlags := 25, nameIndex := 130, descriptorIndex := 124, attributes := #[] }, { accessFlags := 25, nameIndex := 136, descriptorIndex := 124, attributes := #[] }])
  fields := #[{ name := "SIOOBE_FORMATTER", type := (.object "java/util/function/BiFunction"), accessFlags := 25, slot := 0, constantValue := 0 }, { name := "AIOOBE_FORMATTER", type := (.object "java/util/function/BiFunction"), accessFlags := 25, slot := 1, constantValue := 0 }, { name := "IOOBE_FORMATTER", type := (.object "java/util/function/BiFunction"), accessFlags := 25, slot := 2, constantValue := 0 }]
  methods := #[k11m0]
  instanceTypes := #[]
  staticTypes := #[(.object "java/util/function/BiFunction"), (.object "java/util/function/BiFunction"), (.object "java/util/function/BiFunction")]
  resolved := Array.replicate 194 none
  statics := some 2 }

def pool12 : Array CpInfo := pool [(9, u "<init>"), (6, .class_ 18), (1, u "java/lang/Object"), (0, u "()V"), (1, .class_ 23), (1, u "jdk/internal/util/ArraysSupport"), (0, u "LOG2_ARRAY_LONG_INDEX_SCALE"), (0, u "I"), (2, u "U"), (0, u "Ljdk/internal/misc/Unsafe;"), (8, u "BIG_ENDIAN"), (0, u "Z"), (8, u "LOG2_BYTE_BIT_SIZE"), (4, u "LOG2_ARRAY_INT_INDEX_SCALE"), (54, u "JLA"), (0, u "Ljdk/internal/access/JavaLangAccess;"), (11, u "LOG2_ARRAY_BOOLEAN_INDEX_SCALE"), (9, u "LOG2_ARRAY_BYTE_INDEX_SCALE"), (5, u "LOG2_ARRAY_CHAR_INDEX_SCALE"), (5, u "LOG2_ARRAY_SHORT_INDEX_SCALE"), (18, u "LOG2_ARRAY_FLOAT_INDEX_SCALE"), (24, u "LOG2_ARRAY_DOUBLE_INDEX_SCALE"), (89, u "T_BOOLEAN"), (2, u "T_CHAR"), (1, u "T_FLOAT"), (1, u "T_DOUBLE"), (1, u "T_BYTE"), (1, u "T_SHORT"), (1, u "T_INT"), (1, u "T_LONG"), (1, u "SOFT_MAX_ARRAY_LENGTH")] 83

def k12m0 : Method := { name := "<init>", desc := "()V", sig := { parameters := [], returnType := none }, accessFlags := 2, code := none }
/-- jdk/internal/util/ArraysSupport -/
def k12 : Class := { plain "jdk/internal/util/ArraysSupport" (some 0) with
  accessFlags := 33
  interfaces := #[]
  cf := some (fileOf pool12 21 #[] #[{ accessFlags := 2, nameIndex := 9, descriptorIndex := 19, attributes := #[] }] 33 16 #[] #[{ accessFlags := 24, nameIndex := 28, descriptorIndex := 29, attributes := #[] }, { accessFlags := 26, nameIndex := 38, descriptorIndex := 39, attributes := #[] }, { accessFlags := 25, nameIndex := 121, descriptorIndex := 25, attributes := #[] }, { accessFlags := 25, nameIndex := 131, descriptorIndex := 25, attributes := #[] }, { accessFlags := 25, nameIndex := 137, descriptorIndex := 25, attributes := #[] }, { accessFlags := 25, nameIndex := 143, descriptorIndex := 25, attributes := #[] }, { accessFlags := 25, nameIndex := 53, descriptorIndex := 25, attributes := #[] }, { accessFlags := 25, nameIndex := 24, descriptorIndex := 25, attributes := #[] }, { accessFlags := 25, nameIndex := 162, descriptorIndex := 25, attributes := #[] }, { accessFlags := 25, nameIndex := 187, descriptorIndex := 25, attributes := #[] }, { accessFlags := 26, nameIndex := 48, descriptorIndex := 25, attributes := #[] }, { accessFlags := 25, nameIndex := 277, descriptorIndex := 25, attributes := #[] }, { accessFlags := 25, nameIndex := 280, descriptorIndex := 25, attributes := #[] }, { accessFlags := 25, nameIndex := 282, descriptorIndex := 25, attributes := #[] }, { accessFlags := 25, nameIndex := 284, descriptorIndex := 25, attributes := #[] }, { accessFlags := 25, nameIndex := 286, descriptorIndex := 25, attributes := #[] }, { accessFlags := 25, nameIndex := 288, descriptorIndex := 25, attributes := #[] }, { accessFlags := 25, nameIndex := 290, descriptorIndex := 25, attributes := #[] }, { accessFlags := 25, nameIndex := 292, descriptorIndex := 25, attributes := #[] }, { accessFlags := 26, nameIndex := 108, descriptorIndex := 109, attributes := #[] }, { accessFlags := 25, nameIndex := 294, descriptorIndex := 25, attributes := #[] }])
  fields := #[{ name := "U", type := (.object "jdk/internal/misc/Unsafe"), accessFlags := 24, slot := 0, constantValue := 0 }, { name := "BIG_ENDIAN", type := .boolean, accessFlags := 26, slot := 1, constantValue := 0 }, { name := "LOG2_ARRAY_BOOLEAN_INDEX_SCALE", type := .int, accessFlags := 25, slot := 2, constantValue := 0 }, { name := "LOG2_ARRAY_BYTE_INDEX_SCALE", type := .int, accessFlags := 25, slot := 3, constantValue := 0 }, { name := "LOG2_ARRAY_CHAR_INDEX_SCALE", type := .int, accessFlags := 25, slot := 4, constantValue := 0 }, { name := "LOG2_ARRAY_SHORT_INDEX_SCALE", type := .int, accessFlags := 25, slot := 5, constantValue := 0 }, { name := "LOG2_ARRAY_INT_INDEX_SCALE", type := .int, accessFlags := 25, slot := 6, constantValue := 0 }, { name := "LOG2_ARRAY_LONG_INDEX_SCALE", type := .int, accessFlags := 25, slot := 7, constantValue := 0 }, { name := "LOG2_ARRAY_FLOAT_INDEX_SCALE", type := .int, accessFlags := 25, slot := 8, constantValue := 0 }, { name := "LOG2_ARRAY_DOUBLE_INDEX_SCALE", type := .int, accessFlags := 25, slot := 9, constantValue := 0 }, { name := "LOG2_BYTE_BIT_SIZE", type := .int, accessFlags := 26, slot := 10, constantValue := 0 }, { name := "T_BOOLEAN", type := .int, accessFlags := 25, slot := 11, constantValue := 0 }, { name := "T_CHAR", type := .int, accessFlags := 25, slot := 12, constantValue := 0 }, { name := "T_FLOAT", type := .int, accessFlags := 25, slot := 13, constantValue := 0 }, { name := "T_DOUBLE", type := .int, accessFlags := 25, slot := 14, constantValue := 0 }, { name := "T_BYTE", type := .int, accessFlags := 25, slot := 15, constantValue := 0 }, { name := "T_SHORT", type := .int, accessFlags := 25, slot := 16, constantValue := 0 }, { name := "T_INT", type := .int, accessFlags := 25, slot := 17, constantValue := 0 }, { name := "T_LONG", type := .int, accessFlags := 25, slot := 18, constantValue := 0 }, { name := "JLA", type := (.object "jdk/internal/access/JavaLangAccess"), accessFlags := 26, slot := 19, constantValue := 0 }, { name := "SOFT_MAX_ARRAY_LENGTH", type := .int, accessFlags := 25, slot := 20, constantValue := 0 }]
  methods := #[k12m0]
  instanceTypes := #[]
  staticTypes := #[(.object "jdk/internal/misc/Unsafe"), .boolean, .int, .int, .int, .int, .int, .int, .int, .int, .int, .int, .int, .int, .int, .int, .int, .int, .int, (.object "jdk/internal/access/JavaLangAccess"), .int]
  resolved := Array.replicate 378 none
  statics := none }

def pool13 : Array CpInfo := pool [(1, u "java/lang/Cloneable"), (0, .class_ 1), (0, u "java/lang/Object"), (0, .class_ 3)] 3

/-- java/lang/Cloneable -/
def k13 : Class := { plain "java/lang/Cloneable" (some 0) with
  accessFlags := 1537
  interfaces := #[]
  cf := some (fileOf pool13 2 #[] #[] 1537 4 #[] #[])
  fields := #[]
  methods := #[]
  instanceTypes := #[]
  staticTypes := #[]
  resolved := Array.replicate 8 none
  statics := none }

/-- the primitive byte -/
def k14 : Class := { plain "byte" none with kind := .primitive 'B', accessFlags := 0x411 }
/-- [B -/
def k15 : Class := { plain "[B" (some 0) with kind := .array 14 .byte, interfaces := #[13, 4], accessFlags := 1041 }

/-- the primitive int -/
def k16 : Class := { plain "int" none with kind := .primitive 'I', accessFlags := 0x411 }
/-- [I -/
def k17 : Class := { plain "[I" (some 0) with kind := .array 16 .int, interfaces := #[13, 4], accessFlags := 1041 }

def heap : Heap := #[{ cls := 6, slots := #[.ref 11, .ref 12, .ref 13, .ref 14, .null], vm := .statics 6 },
  { cls := 9, slots := #[.long 0, .int 1, .null, .int 0, .null, .int 0, .int 0], vm := .statics 9 },
  { cls := 11, slots := #[.null, .null, .null], vm := .statics 11 },
  { cls := 15, slots := #[.int 112, .int 114, .int 110], vm := .none },
  { cls := 15, slots := #[.int 112, .int 114, .int 97], vm := .none },
  { cls := 15, slots := #[.int 112, .int 114, .int 99], vm := .none },
  { cls := 15, slots := #[.int 97, .int 110, .int 121], vm := .none },
  { cls := 9, slots := #[.ref 3, .int 0, .int 0, .int 0], vm := .none },
  { cls := 9, slots := #[.ref 4, .int 0, .int 0, .int 0], vm := .none },
  { cls := 9, slots := #[.ref 5, .int 0, .int 0, .int 0], vm := .none },
  { cls := 9, slots := #[.ref 6, .int 0, .int 0, .int 0], vm := .none },
  { cls := 6, slots := #[.null, .int 0, .int 0, .ref 7, .int 0, .int 0, .int 0, .int 0], vm := .none },
  { cls := 6, slots := #[.null, .int 1, .int 0, .ref 8, .int 0, .int 0, .int 0, .int 0], vm := .none },
  { cls := 6, slots := #[.null, .int 2, .int 0, .ref 9, .int 0, .int 0, .int 0, .int 0], vm := .none },
  { cls := 6, slots := #[.null, .int 3, .int 0, .ref 10, .int 0, .int 0, .int 0, .int 0], vm := .none }]
def classes : Array Class := #[k0, k1, k2, k3, k4, k5, k6, k7, k8, k9, k10, k11, k12, k13, k14, k15, k16, k17]
def interned : List (Array UInt16 × Addr) := []
def slotsUsed : Nat := 75
def theMethod : MethodId := ⟨1, 1⟩
def args0 : Array Value := #[.int 5]
def aboutOver (below : List Frame) : State where
  vm := { classes := classes, interned := interned.toArray }
  heap := heap
  slotsUsed := slotsUsed
  threads := #[{ frames := .invoking theMethod args0 :: below }]
def below0 : List Frame := [.native { method := ⟨0, 0⟩, args := #[] }]
def about1 : State := aboutOver below0
def p0 : Program := .bare "" "" ""
def e0 : Env := launch0.env 0 0 0
theorem w_frames : about1.frames = Frame.invoking theMethod args0 :: below0 := rfl
set_option maxRecDepth 65536 in
theorem w_args : argsFit about1.vm theMethod args0 = true := by decide +kernel
set_option maxRecDepth 65536 in
theorem w_heap : heapFits about1 = true := by decide +kernel
set_option maxRecDepth 65536 in
theorem w_runnable : about1.curStatus? = some .runnable := by decide +kernel
set_option maxRecDepth 65536 in
theorem w_alone : about1.alone = true := by decide +kernel
set_option maxRecDepth 65536 in
theorem w_named : about1.methodNamed? x = some theMethod := by decide +kernel
set_option maxRecDepth 65536 in
theorem w_hears : about1.hears theMethod below0 = true := by decide +kernel
set_option maxRecDepth 65536 in
theorem w_ripe : about1.ripe theMethod args0 below0 = true := by decide +kernel
theorem w_running : about1.status = .running := rfl
set_option maxRecDepth 65536 in
theorem w_room : about1.hasRoom e0.platform room_1 = true :=
  launch0.hasRoom_least _ room_1 (by decide +kernel) (by decide +kernel) (by decide +kernel) (by decide +kernel) (by decide +kernel) (by decide +kernel)
theorem allAtoms_all (ts : List Jvm.Cond) (a : Array Jvm.Value) (st : Jvm.State) : (allAtoms ts).before a st = ts.all (fun c => c.before a st) := by
  induction ts with
  | nil => rfl
  | cons c t ih =>
    show (Jvm.Cond.and c (allAtoms t)).before a st = _
    rw [Jvm.Cond.before_and, ih, List.all_cons]
def words1 : List Jvm.Cond := Jvm.Cond.code x code maxLocals ret :: tables_1
/-- a 'code' word, met by the world's own term for the bytes: nothing is compared byte by byte -/
theorem code_word {y : MethodName} {bytes : ByteArray} {mx : Nat} {rt : Option FieldType} {a : Array Value} {s : State} {m : MethodId} {meth : Method} {c : Code} (h1 : s.methodNamed? y = some m) (h2 : s.vm.method? m = some meth) (h3 : meth.code = some c) (h4 : c.code = bytes)
    (h5 : (c.maxLocals == mx && c.exceptionTable.isEmpty && decide (c.maxStack ≤ mostOperands) && decide (meth.sig.returnType = rt) && !meth.locks && decide (parseMethodDescriptor y.desc = some meth.sig)) = true) : (Jvm.Cond.code y bytes mx rt).before a s = true := by
  simp only [Bool.and_eq_true, beq_iff_eq, Bool.not_eq_true', decide_eq_true_eq] at h5
  obtain ⟨⟨⟨⟨⟨g1, g2⟩, g3⟩, g4⟩, g5⟩, g6⟩ := h5
  simp [Cond.before, Cond.holds, Cond.value, h1, h2, h3, h4, g1, g2, g3, g4, g5, g6]
def isCode : Jvm.Cond → Bool
  | .code _ _ _ _ => true
  | _ => false
theorem all_split {L : List Jvm.Cond} {P : Jvm.Cond → Bool} (h1 : L.all (fun c => isCode c || P c) = true) (h2 : ∀ c ∈ L.filter isCode, P c = true) : L.all P = true := by
  refine List.all_eq_true.mpr fun c hc => ?_
  have h := List.all_eq_true.mp h1 c hc
  rcases Bool.eq_false_or_eq_true (isCode c) with hi | hi
  · exact h2 c (List.mem_filter.mpr ⟨hc, hi⟩)
  · simpa [hi] using h
set_option maxRecDepth 65536 in
theorem w_c0 : (Jvm.Cond.code x code maxLocals ret).before args0 about1 = true := code_word (m := ⟨1, 1⟩) (meth := k1m1) (c := k1c1) (by decide +kernel) rfl rfl rfl (by decide +kernel)
set_option maxRecDepth 65536 in
theorem w_c1 : (Jvm.Cond.code ({ cls := "com/example/concordat/concordat/model/Protocol", name := "isMixed", desc := "()Z" } : Jvm.MethodName) prog_32_method_6_code (1 : Nat) (Option.some Jvm.ClassFile.FieldType.boolean)).before args0 about1 = true := code_word (m := ⟨6, 1⟩) (meth := k6m1) (c := k6c1) (by decide +kernel) rfl rfl rfl (by decide +kernel)
set_option maxRecDepth 65536 in
theorem w_c2 : (Jvm.Cond.code ({ cls := "com/example/concordat/concordat/model/Protocol", name := "word", desc := "()Ljava/lang/String;" } : Jvm.MethodName) prog_32_method_5_code (1 : Nat) (Option.some (Jvm.ClassFile.FieldType.object "java/lang/String"))).before args0 about1 = true := code_word (m := ⟨6, 0⟩) (meth := k6m0) (c := k6c0) (by decide +kernel) rfl rfl rfl (by decide +kernel)
set_option maxRecDepth 65536 in
theorem w_c3 : (Jvm.Cond.code ({ cls := "java/lang/String", name := "equals", desc := "(Ljava/lang/Object;)Z" } : Jvm.MethodName) jdk_42_method_66_code (3 : Nat) (Option.some Jvm.ClassFile.FieldType.boolean)).before args0 about1 = true := code_word (m := ⟨9, 1⟩) (meth := k9m1) (c := k9c1) (by decide +kernel) rfl rfl rfl (by decide +kernel)
set_option maxRecDepth 65536 in
theorem w_c4 : (Jvm.Cond.code ({ cls := "java/lang/StringLatin1", name := "equals", desc := "([B[B)Z" } : Jvm.MethodName) jdk_43_method_13_code (3 : Nat) (Option.some Jvm.ClassFile.FieldType.boolean)).before args0 about1 = true := code_word (m := ⟨10, 1⟩) (meth := k10m1) (c := k10c1) (by decide +kernel) rfl rfl rfl (by decide +kernel)
def codes1 : List Jvm.Cond := [Jvm.Cond.code x code maxLocals ret, Jvm.Cond.code ({ cls := "com/example/concordat/concordat/model/Protocol", name := "isMixed", desc := "()Z" } : Jvm.MethodName) prog_32_method_6_code (1 : Nat) (Option.some Jvm.ClassFile.FieldType.boolean), Jvm.Cond.code ({ cls := "com/example/concordat/concordat/model/Protocol", name := "word", desc := "()Ljava/lang/String;" } : Jvm.MethodName) prog_32_method_5_code (1 : Nat) (Option.some (Jvm.ClassFile.FieldType.object "java/lang/String")), Jvm.Cond.code ({ cls := "java/lang/String", name := "equals", desc := "(Ljava/lang/Object;)Z" } : Jvm.MethodName) jdk_42_method_66_code (3 : Nat) (Option.some Jvm.ClassFile.FieldType.boolean), Jvm.Cond.code ({ cls := "java/lang/StringLatin1", name := "equals", desc := "([B[B)Z" } : Jvm.MethodName) jdk_43_method_13_code (3 : Nat) (Option.some Jvm.ClassFile.FieldType.boolean)]
set_option maxRecDepth 65536 in
theorem codes_eq : words1.filter isCode = codes1 := rfl
theorem w_codes : ∀ c ∈ words1.filter isCode, c.before args0 about1 = true := by
  rw [codes_eq]
  intro c hc
  simp only [codes1, List.mem_cons, List.not_mem_nil, or_false] at hc
  rcases hc with rfl | rfl | rfl | rfl | rfl
  · exact w_c0
  · exact w_c1
  · exact w_c2
  · exact w_c3
  · exact w_c4
set_option maxRecDepth 65536 in
theorem w_t1 : (words1.take 24).all (fun c => isCode c || c.before args0 about1) = true := by decide +kernel
set_option maxRecDepth 65536 in
theorem w_t2 : (words1.drop 24).all (fun c => isCode c || c.before args0 about1) = true := by decide +kernel
theorem w_tables : (allAtoms (Jvm.Cond.code x code maxLocals ret :: tables_1)).before args0 about1 = true := by
  rw [allAtoms_all]
  show words1.all (fun c => c.before args0 about1) = true
  refine all_split ?_ w_codes
  rw [← List.take_append_drop 24 words1, List.all_append, w_t1, w_t2]
  rfl
set_option maxRecDepth 65536 in
theorem w_rest : rest_1_c.before args0 about1 = true := by decide +kernel
set_option maxRecDepth 65536 in
theorem w_case : (Jvm.Cond.and given_1 narrow_1).before args0 about1 = true := by decide +kernel
set_option maxRecDepth 65536 in
theorem w_consts : constsHeld consts_1 about1 := Jvm.Lit.constsHeldB_iff.mp (by decide +kernel)
theorem w_applies : (headSpec (Jvm.Cond.code x code maxLocals ret :: tables_1) room_1).applies x e0.platform about1 = true :=
  (Spec.applies_iff w_frames).mpr ⟨w_running, w_runnable, w_alone, w_named, w_hears, w_ripe, w_room, w_tables⟩
theorem atStart : AtStart classFile x code maxLocals ret World_1 tables_1 room_1 Calls_1 rest_1 Pre_1 launch0 p0 e0 about1 theMethod args0 below0 :=
  ⟨lists_1, trivial, launch0.admits_env _ _ _, launch0.least_env, fairChoices_fair.cas, fairChoices_fair.clock, w_frames, w_args, w_heap, w_applies, ⟨w_consts, trivial⟩, w_rest, w_case⟩
end start1
theorem witness_1 : WitnessClaimed_1 := ⟨start1.p0, start1.e0, start1.about1, start1.theMethod, start1.args0, start1.below0, start1.atStart⟩
end Jvm.Pilot.@@N@@
