import JvmDerived
import JvmDerived.Pilot.@@N@@Statement
import JvmDerived.Pilot.@@N@@Code
set_option linter.unusedVariables false
set_option linter.unusedSimpArgs false
namespace Jvm.OwnGo
abbrev cP : String := "com/example/rackwise/rackwise/PathSearch"
abbrev cR : String := "com/example/rackwise/rackwise/RadixHeap"
abbrev vr (a : Jvm.Addr) : Jvm.Slot := .val (.ref a)
abbrev vi (a : Int32) : Jvm.Slot := .val (.int a)
abbrev vj (a : Int64) : Jvm.Slot := .val (.long a)
abbrev sd : Jvm.Slot := .second
abbrev un : Jvm.Slot := .unset
end Jvm.OwnGo
namespace Jvm.OwnGo
open Jvm Jvm.ClassFile Sem Op Lib Jvm.Free Jvm.Stand Jvm.LawKit Jvm.RoadKit
section Own
variable {p : Program} {l : Launch} {e : Env} {R : Room} {s : State} {m : MethodId} {args : Array Value} {below : List Frame} {meth : Method} {c : Code} {T : State} {locs : List Loc} {cells slots : Nat} {Q : Option Value → Heap → List Loc → Prop} {C N : Nat}
/-- from A on the run comes to its return, and what it returns and leaves is as Q says -/
def Go (p : Program) (e : Env) (below : List Frame) (s : State) (Q : Option Value → Heap → List Loc → Prop) (C N : Nat) (A : State) : Prop :=
  ∃ s₂ o, Steps p.tables e below A s₂ ∧ s₂.status = .running ∧ Ended s₂ below o ∧ ∃ v L, o = .returned v ∧ Q v s₂.heap L ∧ FrameEnd s o s₂ L C N
theorem Go.st {A B : State} (h : ∀ t, Steps p.tables e below B t → Steps p.tables e below A t) (k : Go p e below s Q C N B) : Go p e below s Q C N A := by
  obtain ⟨s₂, o, h1, r⟩ := k
  exact ⟨s₂, o, h _ h1, r⟩
theorem Go.tr {A B : State} (h : Steps p.tables e below A B) (k : Go p e below s Q C N B) : Go p e below s Q C N A := k.st fun _ q => h.trans q
theorem Go.retI (X : Stand p l e R s m args below meth c T locs cells slots) (hx : p.tables.exec = Jvm.exec) (hlk : meth.locks = false) (hret : meth.sig.returnType = some .int) {pc : Nat} {Ls : Array Slot} {z : Int32} {rest : List Value} (hd : decode c.code pc = .ok (.ireturn, 1))
    (q : Q (some (.int z)) T.heap locs) (hc : cells ≤ C) (hn : slots ≤ N) : Go p e below s Q C N (T.setTop (mkF m pc Ls (.int z :: rest))) := by
  obtain ⟨fs, hr, hrun, hended, hW, hsame⟩ := X.leave (v := some (.int z)) (fun h => by rw [hret] at h; cases h) hlk
  exact ⟨_, _, retOut X hx hret rfl (Or.inl ⟨rfl, Or.inl rfl, _, rfl⟩) hd hr, hrun, hended, _, _, rfl, q, ⟨_, rfl⟩, hW, hsame.mono hc hn⟩
theorem Go.retN (X : Stand p l e R s m args below meth c T locs cells slots) (hx : p.tables.exec = Jvm.exec) (hlk : meth.locks = false) {t : FieldType} (ht : t = .boolean ∨ t = .byte ∨ t = .char ∨ t = .short) (hret : meth.sig.returnType = some t) {pc : Nat} {Ls : Array Slot} {z z' : Int32} {rest : List Value} (hd : decode c.code pc = .ok (.ireturn, 1))
    (hz : nar t z = z') (q : Q (some (.int z')) T.heap locs) (hc : cells ≤ C) (hn : slots ≤ N) : Go p e below s Q C N (T.setTop (mkF m pc Ls (.int z :: rest))) := by
  subst hz
  obtain ⟨fs, hr, hrun, hended, hW, hsame⟩ := X.leave (v := some (.int (nar t z))) (fun h => by rw [hret] at h; cases h) hlk
  exact ⟨_, _, Jvm.RoadKit.retN X hx hret ht hd hr, hrun, hended, _, _, rfl, q, ⟨_, rfl⟩, hW, hsame.mono hc hn⟩
theorem Go.retJ (X : Stand p l e R s m args below meth c T locs cells slots) (hx : p.tables.exec = Jvm.exec) (hlk : meth.locks = false) (hret : meth.sig.returnType = some .long) {pc : Nat} {Ls : Array Slot} {z : Int64} {rest : List Value} (hd : decode c.code pc = .ok (.lreturn, 1))
    (q : Q (some (.long z)) T.heap locs) (hc : cells ≤ C) (hn : slots ≤ N) : Go p e below s Q C N (T.setTop (mkF m pc Ls (.long z :: rest))) := by
  obtain ⟨fs, hr, hrun, hended, hW, hsame⟩ := X.leave (v := some (.long z)) (fun h => by rw [hret] at h; cases h) hlk
  exact ⟨_, _, retOut X hx hret rfl (Or.inr (Or.inl ⟨rfl, rfl, _, rfl⟩)) hd hr, hrun, hended, _, _, rfl, q, ⟨_, rfl⟩, hW, hsame.mono hc hn⟩
theorem nar_ref {t : FieldType} {w : Value} (hw : w.isRef = true) : narrow t w = w := by
  cases t <;> cases w <;> first | rfl | (simp [Value.isRef] at hw)
theorem Go.retA (X : Stand p l e R s m args below meth c T locs cells slots) (hx : p.tables.exec = Jvm.exec) (hlk : meth.locks = false) {t : FieldType} (ht : t.isReference = true) (hret : meth.sig.returnType = some t) {pc : Nat} {Ls : Array Slot} {w : Value} {rest : List Value} (hw : w.isRef = true) (hd : decode c.code pc = .ok (.areturn, 1))
    (q : Q (some w) T.heap locs) (hc : cells ≤ C) (hn : slots ≤ N) : Go p e below s Q C N (T.setTop (mkF m pc Ls (w :: rest))) := by
  obtain ⟨fs, hr, hrun, hended, hW, hsame⟩ := X.leave (v := some w) (fun h => by rw [hret] at h; cases h) hlk
  exact ⟨_, _, retOut X hx hret (nar_ref hw) (Or.inr (Or.inr (Or.inr (Or.inr ⟨rfl, ht, hw⟩)))) hd hr, hrun, hended, _, _, rfl, q, ⟨_, rfl⟩, hW, hsame.mono hc hn⟩
theorem Go.retV (X : Stand p l e R s m args below meth c T locs cells slots) (hx : p.tables.exec = Jvm.exec) (hlk : meth.locks = false) (hret : meth.sig.returnType = none) {pc : Nat} {Ls : Array Slot} (hd : decode c.code pc = .ok (.return_, 1))
    (q : Q none T.heap locs) (hc : cells ≤ C) (hn : slots ≤ N) : Go p e below s Q C N (T.setTop (mkF m pc Ls [])) := by
  obtain ⟨fs, hr, hrun, hended, hW, hsame⟩ := X.leave (v := none) (fun _ => rfl) hlk
  exact ⟨_, _, X.returnOut hx hret hd hr, hrun, hended, _, _, rfl, q, ⟨_, rfl⟩, hW, hsame.mono hc hn⟩
theorem up {k n : Nat} (X : Stand p l e R s m args below meth c T locs cells slots) (hc : cells ≤ k) (hn : slots ≤ n) : Stand p l e R s m args below meth c T locs k n := { X with same := X.same.mono hc hn }
end Own
/-- a fact that the arithmetic leaves alone till it is opened -/
def Hid (P : Prop) : Prop := P
section Num
variable {x y : Int32} {u v : Int64} {a b : Int}
theorem ltI (ha : x.toInt = a) (hb : y.toInt = b) (h : a < b) : x < y := by rw [Int32.lt_iff_toInt_lt, ha, hb]; exact h
theorem nltI (ha : x.toInt = a) (hb : y.toInt = b) (h : ¬ a < b) : ¬ x < y := by rw [Int32.lt_iff_toInt_lt, ha, hb]; exact h
theorem eqI (ha : x.toInt = a) (hb : y.toInt = b) (h : a = b) : x = y := Int32.toInt_inj.mp (by rw [ha, hb]; exact h)
theorem neI (ha : x.toInt = a) (hb : y.toInt = b) (h : ¬ a = b) : ¬ x = y := fun q => h (by rw [← ha, ← hb, q])
theorem ltJ (ha : u.toInt = a) (hb : v.toInt = b) (h : a < b) : u < v := by rw [Int64.lt_iff_toInt_lt, ha, hb]; exact h
theorem nltJ (ha : u.toInt = a) (hb : v.toInt = b) (h : ¬ a < b) : ¬ u < v := by rw [Int64.lt_iff_toInt_lt, ha, hb]; exact h
theorem eqJ (ha : u.toInt = a) (hb : v.toInt = b) (h : a = b) : u = v := Int64.toInt_inj.mp (by rw [ha, hb]; exact h)
theorem neJ (ha : u.toInt = a) (hb : v.toInt = b) (h : ¬ a = b) : ¬ u = v := fun q => h (by rw [← ha, ← hb, q])
theorem bool_nar (h : x.toInt = 0 ∨ x.toInt = 1) : nar .boolean x = x := by
  rcases h with h | h
  · rw [Int32.toInt_inj.mp (h.trans (by decide : (0 : Int) = (0 : Int32).toInt))]; decide
  · rw [Int32.toInt_inj.mp (h.trans (by decide : (1 : Int) = (1 : Int32).toInt))]; decide
end Num
section Words
variable {Z : State} {args : Array Value} {t : Term} {C n d : String} {a : Addr}
theorem fld_int {k : Int32} (ht : t.eval args Z none [] Z = some (.ref a)) (h : (Cond.eq (Term.field t C n d) (Term.int k)).value args Z none Z [] = some true) : Fld Z Z.heap a C n d (.int k) := by
  obtain ⟨u, v, e1, e2, k1, k2⟩ := cmp_v (Or.inl h)
  have e3 : v = .int k := Option.some.inj (e2.symm.trans (Term.int_eval k))
  subst e3
  obtain ⟨w, rfl⟩ : ∃ w, u = .int w := k2
  have q := gotT (Cond.eq_ints e1 (Term.int_eval k)) h
  subst q
  exact Fld.start (by rw [← fld_at (args := args) (first := Z) (o := none) (idx := []) ht]; exact e1)
theorem sta_long {k : Int64} (h : (Cond.eq (Term.static C n d) (Term.long k)).value args Z none Z [] = some true) : (Term.static C n d).eval args Z none [] Z = some (.long k) := by
  obtain ⟨u, v, e1, e2, k1, k2⟩ := cmp_v (Or.inl h)
  have e3 : v = .long k := Option.some.inj (e2.symm.trans rfl)
  subst e3
  obtain ⟨w, rfl⟩ : ∃ w, u = .long w := k2
  have q := gotT (eq_L (y := k) e1 rfl) h
  subst q
  exact e1
theorem sta_int {k : Int32} (h : (Cond.eq (Term.static C n d) (Term.int k)).value args Z none Z [] = some true) : (Term.static C n d).eval args Z none [] Z = some (.int k) := by
  obtain ⟨u, v, e1, e2, k1, k2⟩ := cmp_v (Or.inl h)
  have e3 : v = .int k := Option.some.inj (e2.symm.trans rfl)
  subst e3
  obtain ⟨w, rfl⟩ : ∃ w, u = .int w := k2
  have q := gotT (Cond.eq_ints e1 (Term.int_eval k)) h
  subst q
  exact e1
/-- a cell that is no class's statics -/
def Exi (h : Heap) (x : Addr) : Prop := ∃ c : Cell, h[x]? = some c ∧ c.vm.isStatics = false
theorem exi_exa {h : Heap} (F : Exa Z h a C) : Exi h a := by obtain ⟨c, k, h1, -, -, h4, -⟩ := F; exact ⟨c, h1, h4⟩
theorem sta_keep {h h' : Heap} {v : Value} {ws : List Addr} (F : Sta Z h C n d v) (K : Keep h h' ws) (q : ∀ x ∈ ws, Exi h x) : Sta Z h' C n d v := by
  obtain ⟨cf, i, k, f, st, cell, h1, h2, h3, h4, h5, h6, h7⟩ := F
  refine ⟨cf, i, k, f, st, cell, h1, h2, h3, h4, K.2.1 st cell h5 (fun hm => ?_), h6, h7⟩
  obtain ⟨c, e1, e2⟩ := q st hm
  cases h5.symm.trans e1
  rw [h6] at e2; cases e2
theorem self_sel {s : State} {as as' : Array Value} {y z : MethodName} (hs : (Cond.selects C z z).before as s = true) (hc : z.cls = y.cls) (hp : s.PrivateAt y) (hi : (Cond.instanceMethod y).before as' s = true) (hy : y.cls ≠ "java/lang/invoke/MethodHandle" ∧ y.cls ≠ "java/lang/invoke/VarHandle") : (Cond.selects y.cls y y).before as' s = true := by
  obtain ⟨c, r, m, h1, h2, h3, h4, mk, h5, h6⟩ := Cond.selects_spec hs
  exact selects_self_of_private (hc ▸ findClass_of_methodNamed h3) h5 h6 hp hi hy
end Words
end Jvm.OwnGo
namespace Jvm.OwnGo
open Jvm Jvm.ClassFile Sem Op Lib Jvm.Free Jvm.Stand Jvm.LawKit Jvm.RoadKit
section Vecs
variable {p : Program} {l : Launch} {e : Env} {R : Room} {s : State} {m : MethodId} {args : Array Value} {below : List Frame} {meth : Method} {c : Code} {T : State} {locs : List Loc} {cells slots : Nat} {Z : State} {h h' : Heap} {a b : Addr} {ty : FieldType} {n j x : Int32} {y : Int64} {f : Nat → Value} {v : Value} {sl : Nat} {ws : List Addr}
/-- an array at a, of length n, whose i-th place holds f i -/
def Vec (Z : State) (h : Heap) (a : Addr) (ty : FieldType) (n : Int32) (f : Nat → Value) : Prop := ∃ c : Cell, Arr Z h a c ty ∧ c.slots.size = n.toInt.toNat ∧ 0 ≤ n.toInt ∧ ∀ i : Nat, (i : Int) < n.toInt → c.slots[i]? = some (f i)
def ints (f : Nat → Int32) : Nat → Value := fun i => .int (f i)
def longs (f : Nat → Int64) : Nat → Value := fun i => .long (f i)
def updF {α : Type} (f : Nat → α) (k : Nat) (v : α) : Nat → α := fun i => if i = k then v else f i
theorem upd_same {α : Type} (f : Nat → α) (k : Nat) (v : α) : updF f k v k = v := if_pos rfl
theorem upd_ne {α : Type} (f : Nat → α) {k i : Nat} (v : α) (q : i ≠ k) : updF f k v i = f i := if_neg q
def lst {α : Type} [Inhabited α] (l : List α) : Nat → α := fun i => l.getD i default
theorem upd_lst {α : Type} [Inhabited α] (l : List α) (k : Nat) (v : α) (hk : k < l.length) : updF (lst l) k v = lst (l.set k v) := by
  funext i
  simp only [updF, lst, List.getD_eq_getElem?_getD, List.getElem?_set]
  by_cases q : i = k
  · subst q; simp [hk]
  · simp [q, Ne.symm q]
theorem upd_ints (f : Nat → Int32) (k : Nat) (v : Int32) : updF (ints f) k (.int v) = ints (updF f k v) := by
  funext i; simp only [updF, ints]; split <;> rfl
theorem upd_longs (f : Nat → Int64) (k : Nat) (v : Int64) : updF (longs f) k (.long v) = longs (updF f k v) := by
  funext i; simp only [updF, longs]; split <;> rfl
theorem Vec.lt (F : Vec Z h a ty n f) : a < h.size := by obtain ⟨c, A, -⟩ := F; exact A.lt
theorem Vec.ext (E : Ext h h') (F : Vec Z h a ty n f) : Vec Z h' a ty n f := by obtain ⟨c, A, r⟩ := F; exact ⟨c, A.ext E, r⟩
theorem Vec.other (W : Wr h h' b sl v) (F : Vec Z h a ty n f) (q : a ≠ b) : Vec Z h' a ty n f := by obtain ⟨c, A, r⟩ := F; exact ⟨c, A.other W q, r⟩
theorem Vec.keep (F : Vec Z h a ty n f) (K : Keep h h' ws) (q : a ∉ ws) : Vec Z h' a ty n f := by obtain ⟨c, A, r⟩ := F; exact ⟨c, ⟨K.2.1 a c A.1 q, A.2⟩, r⟩
theorem exi_vec (F : Vec Z h a ty n f) : Exi h a := by obtain ⟨c, A, -⟩ := F; exact ⟨c, A.1, A.plain⟩
theorem nat_cl (j : Int32) : j.toNatClampNeg = j.toInt.toNat := rfl
theorem not_neg (q : 0 ≤ j.toInt) : ¬ j < 0 := by
  have z : (0 : Int32).toInt = 0 := by decide
  rw [Int32.lt_iff_toInt_lt, z]; omega
theorem of_neg (q : ¬ j < 0) : 0 ≤ j.toInt := by
  have z : (0 : Int32).toInt = 0 := by decide
  rw [Int32.lt_iff_toInt_lt, z] at q; omega
theorem inb {k : Nat} (q : k = n.toInt.toNat) (h1 : 0 ≤ j.toInt) (h2 : j.toInt < n.toInt) : ¬ (j < 0 ∨ k ≤ j.toNatClampNeg) := by
  rintro (w | w)
  · exact not_neg h1 w
  · rw [nat_cl, q] at w; omega
theorem Vec.new {k : ClassId} (A : Arr Z h a (newA k ty n) ty) (q : 0 ≤ n.toInt) : Vec Z h a ty n (fun _ => defaultValue ty) := by
  refine ⟨_, A, sz_new _ _ _, q, fun i hi => ?_⟩
  have hi' : i < n.toNatClampNeg := by rw [nat_cl]; omega
  simp [newA, hi']
theorem Vec.of {f' : Nat → Value} (F : Vec Z h a ty n f) (q : ∀ i : Nat, (i : Int) < n.toInt → f i = f' i) : Vec Z h a ty n f' := by
  obtain ⟨c, A, h1, h2, h3⟩ := F
  exact ⟨c, A, h1, h2, fun i hi => by rw [← q i hi]; exact h3 i hi⟩
theorem Vec.of_eq {f' : Nat → Value} (F : Vec Z h a ty n f) (q : f = f') : Vec Z h a ty n f' := q ▸ F
theorem rep_z : ∀ (k i : Nat), (List.replicate k (0 : Int32)).getD i default = 0
  | 0, _ => rfl
  | _ + 1, 0 => rfl
  | k + 1, i + 1 => rep_z k i
theorem rep_zL : ∀ (k i : Nat), (List.replicate k (0 : Int64)).getD i default = 0
  | 0, _ => rfl
  | _ + 1, 0 => rfl
  | k + 1, i + 1 => rep_zL k i
theorem Vec.zerosI (k : Nat) (F : Vec Z h a ty n (fun _ => .int 0)) : Vec Z h a ty n (ints (lst (List.replicate k (0 : Int32)))) := F.of fun i _ => congrArg Value.int (rep_z k i).symm
theorem Vec.zerosJ (k : Nat) (F : Vec Z h a ty n (fun _ => .long 0)) : Vec Z h a ty n (longs (lst (List.replicate k (0 : Int64)))) := F.of fun i _ => congrArg Value.long (rep_zL k i).symm
theorem Vec.set {k : Nat} (F : Vec Z h a ty n f) (W : Wr h h' a k v) : Vec Z h' a ty n (updF f k v) := by
  obtain ⟨c, A, h1, h2, h3⟩ := F
  refine ⟨_, A.same W, by rw [sz_set]; exact h1, h2, fun i hi => ?_⟩
  by_cases q : i = k
  · subst q
    have hi' : i < c.slots.size := by rw [h1]; omega
    simp [Cell.setSlot, updF, hi']
  · rw [upd_ne f v q, ← h3 i hi]
    exact Array.getElem?_setIfInBounds_ne (Ne.symm q)
theorem Vec.len (X : Stand p l e R s m args below meth c T locs cells slots) (hx : p.tables.exec = Jvm.exec) (hZ : Z.Warmed39 s.vm) (eT : T.heap = h) (F : Vec Z h a ty n f) {g : JFrame} (hg : g.method = m) {rest : List Value} (hs : g.stack = .ref a :: rest) (hd : decode c.code g.pc = .ok (.arraylength, 1)) :
    ∀ t, Steps p.tables e below (T.setTop { g with pc := g.pc + 1, stack := .int n :: rest }) t → Steps p.tables e below (T.setTop g) t := by
  obtain ⟨cl, A, h1, h2, h3⟩ := F
  intro t k
  refine X.arraylength hx (by rw [eT]; exact A.1) (State.isArrayOf_alike hZ.alike A.2.1) hg hs hd _ ?_
  rw [len_of h1 (not_neg h2)]
  exact k
theorem Vec.ildI {f : Nat → Int32} (X : Stand p l e R s m args below meth c T locs cells slots) (hx : p.tables.exec = Jvm.exec) (hZ : Z.Warmed39 s.vm) (eT : T.heap = h) (F : Vec Z h a .int n (ints f)) (h1 : 0 ≤ j.toInt) (h2 : j.toInt < n.toInt) {g : JFrame} (hg : g.method = m) {rest : List Value} (hs : g.stack = .int j :: .ref a :: rest) (hd : decode c.code g.pc = .ok (.iaload, 1)) :
    ∀ t, Steps p.tables e below (T.setTop { g with pc := g.pc + 1, stack := .int (f j.toInt.toNat) :: rest }) t → Steps p.tables e below (T.setTop g) t := by
  obtain ⟨cl, A, q1, q2, q3⟩ := F
  exact X.iaload hx (j := j) (v := .int (f j.toInt.toNat)) (by rw [eT]; exact A.1) (State.isArrayOf_alike hZ.alike A.2.1) A.2.2 (inb q1 h1 h2) (q3 j.toInt.toNat (by omega)) hg hs hd
theorem Vec.ildB {f : Nat → Int32} (X : Stand p l e R s m args below meth c T locs cells slots) (hx : p.tables.exec = Jvm.exec) (hZ : Z.Warmed39 s.vm) (eT : T.heap = h) (F : Vec Z h a .byte n (ints f)) (h1 : 0 ≤ j.toInt) (h2 : j.toInt < n.toInt) {g : JFrame} (hg : g.method = m) {rest : List Value} (hs : g.stack = .int j :: .ref a :: rest) (hd : decode c.code g.pc = .ok (.baload, 1)) :
    ∀ t, Steps p.tables e below (T.setTop { g with pc := g.pc + 1, stack := .int (f j.toInt.toNat) :: rest }) t → Steps p.tables e below (T.setTop g) t := by
  obtain ⟨cl, A, q1, q2, q3⟩ := F
  exact X.baloadBytes hx (j := j) (v := .int (f j.toInt.toNat)) (by rw [eT]; exact A.1) (State.isArrayOf_alike hZ.alike A.2.1) A.2.2 (inb q1 h1 h2) (q3 j.toInt.toNat (by omega)) hg hs hd
theorem Vec.ildJ {f : Nat → Int64} (X : Stand p l e R s m args below meth c T locs cells slots) (hx : p.tables.exec = Jvm.exec) (hZ : Z.Warmed39 s.vm) (eT : T.heap = h) (F : Vec Z h a .long n (longs f)) (h1 : 0 ≤ j.toInt) (h2 : j.toInt < n.toInt) {g : JFrame} (hg : g.method = m) {rest : List Value} (hs : g.stack = .int j :: .ref a :: rest) (hd : decode c.code g.pc = .ok (.laload, 1)) :
    ∀ t, Steps p.tables e below (T.setTop { g with pc := g.pc + 1, stack := .long (f j.toInt.toNat) :: rest }) t → Steps p.tables e below (T.setTop g) t := by
  obtain ⟨cl, A, q1, q2, q3⟩ := F
  exact X.laload hx (j := j) (v := .long (f j.toInt.toNat)) (by rw [eT]; exact A.1) (State.isArrayOf_alike hZ.alike A.2.1) A.2.2 (inb q1 h1 h2) (q3 j.toInt.toNat (by omega)) hg hs hd
theorem Vec.istI {f : Nat → Int32} (X : Stand p l e R s m args below meth c T locs cells slots) (hx : p.tables.exec = Jvm.exec) (hZ : Z.Warmed39 s.vm) (eT : T.heap = h) (F : Vec Z h a .int n (ints f)) (h1 : 0 ≤ j.toInt) (h2 : j.toInt < n.toInt) {g : JFrame} (hg : g.method = m) {rest : List Value} (hs : g.stack = .int x :: .int j :: .ref a :: rest) (hd : decode c.code g.pc = .ok (.iastore, 1)) :
    ∃ T' h', Stand p l e R s m args below meth c T' (locs ++ [⟨a, j.toInt.toNat⟩]) cells slots ∧ T'.heap = h' ∧ Wr h h' a j.toInt.toNat (.int x) ∧ Vec Z h' a .int n (ints (updF f j.toInt.toNat x)) ∧ ∀ t, Steps p.tables e below (T'.setTop { g with pc := g.pc + 1, stack := rest }) t → Steps p.tables e below (T.setTop g) t := by
  obtain ⟨cl, A, q1, q2, q3⟩ := id F
  obtain ⟨T', h', X', e', W', st'⟩ := stI X hx hZ eT A (inb q1 h1 h2) hg hs hd
  exact ⟨T', h', X', e', W', upd_ints f _ x ▸ F.set W', st'⟩
theorem Vec.istB {f : Nat → Int32} (X : Stand p l e R s m args below meth c T locs cells slots) (hx : p.tables.exec = Jvm.exec) (hZ : Z.Warmed39 s.vm) (eT : T.heap = h) (F : Vec Z h a .byte n (ints f)) (h1 : 0 ≤ j.toInt) (h2 : j.toInt < n.toInt) {g : JFrame} (hg : g.method = m) {rest : List Value} (hs : g.stack = .int x :: .int j :: .ref a :: rest) (hd : decode c.code g.pc = .ok (.bastore, 1)) :
    ∃ T' h', Stand p l e R s m args below meth c T' (locs ++ [⟨a, j.toInt.toNat⟩]) cells slots ∧ T'.heap = h' ∧ Wr h h' a j.toInt.toNat (.int x.toInt8.toInt32) ∧ Vec Z h' a .byte n (ints (updF f j.toInt.toNat x.toInt8.toInt32)) ∧ ∀ t, Steps p.tables e below (T'.setTop { g with pc := g.pc + 1, stack := rest }) t → Steps p.tables e below (T.setTop g) t := by
  obtain ⟨cl, A, q1, q2, q3⟩ := id F
  obtain ⟨T', h', X', e', W', st'⟩ := stB X hx hZ eT A (inb q1 h1 h2) hg hs hd
  exact ⟨T', h', X', e', W', upd_ints f _ x.toInt8.toInt32 ▸ F.set W', st'⟩
theorem Vec.istJ {f : Nat → Int64} (X : Stand p l e R s m args below meth c T locs cells slots) (hx : p.tables.exec = Jvm.exec) (hZ : Z.Warmed39 s.vm) (eT : T.heap = h) (F : Vec Z h a .long n (longs f)) (h1 : 0 ≤ j.toInt) (h2 : j.toInt < n.toInt) {g : JFrame} (hg : g.method = m) {rest : List Value} (hs : g.stack = .long y :: .int j :: .ref a :: rest) (hd : decode c.code g.pc = .ok (.lastore, 1)) :
    ∃ T' h', Stand p l e R s m args below meth c T' (locs ++ [⟨a, j.toInt.toNat⟩]) cells slots ∧ T'.heap = h' ∧ Wr h h' a j.toInt.toNat (.long y) ∧ Vec Z h' a .long n (longs (updF f j.toInt.toNat y)) ∧ ∀ t, Steps p.tables e below (T'.setTop { g with pc := g.pc + 1, stack := rest }) t → Steps p.tables e below (T.setTop g) t := by
  obtain ⟨cl, A, q1, q2, q3⟩ := id F
  obtain ⟨T', h', X', e', W', st'⟩ := stJ X hx hZ eT A (inb q1 h1 h2) hg hs hd
  exact ⟨T', h', X', e', W', upd_longs f _ y ▸ F.set W', st'⟩
end Vecs
end Jvm.OwnGo
namespace Jvm.OwnGo
open Jvm Jvm.ClassFile Sem Op Lib Jvm.Free Jvm.Stand Jvm.LawKit Jvm.RoadKit
theorem dupX2 {tb : Tables} [Ours tb] {e : Env} {below : List Frame} {T target : State} {m : MethodId} {c : Code} {g : JFrame} (h : At T m c below) (hx : tb.exec = Jvm.exec) (hg : g.method = m) {x y z : Value} {rest : List Value} (hd : decode c.code g.pc = .ok (.dup_x2, 1)) (hs : g.stack = x :: y :: z :: rest) (hc : x.category = 1) (hc2 : y.category = 1) (hc3 : z.category = 1)
    (hr : Steps tb e below (T.setTop { g with pc := g.pc + 1, stack := x :: y :: z :: x :: rest }) target) : Steps tb e below (T.setTop g) target := by
  subst hg
  jvm_step h [h.top, hx, hd, dup_x2.wp_sem, hs, hc, hc2, hc3]
  exact hr
section RVs
variable {p : Program} {l : Launch} {e : Env} {R : Room} {s : State} {m : MethodId} {args : Array Value} {below : List Frame} {meth : Method} {c : Code} {T : State} {locs : List Loc} {cells slots : Nat} {Z : State} {h h' : Heap} {a b : Addr} {n j : Int32} {v : Value} {sl : Nat} {ws : List Addr} {L : List Value}
/-- an array of int arrays at a, of length n, whose places hold L -/
def RV (Z : State) (h : Heap) (a : Addr) (n : Int32) (L : List Value) : Prop := ∃ cl : Cell, Arr Z h a cl (.array .int) ∧ OvrA Z cl.cls .int "[I" ∧ cl.slots.size = n.toInt.toNat ∧ 0 ≤ n.toInt ∧ ∀ i : Nat, (i : Int) < n.toInt → cl.slots[i]? = some (L.getD i .null)
theorem RV.lt (F : RV Z h a n L) : a < h.size := by obtain ⟨c, A, -⟩ := F; exact A.lt
theorem RV.ext (E : Ext h h') (F : RV Z h a n L) : RV Z h' a n L := by obtain ⟨c, A, r⟩ := F; exact ⟨c, A.ext E, r⟩
theorem RV.other (W : Wr h h' b sl v) (F : RV Z h a n L) (q : a ≠ b) : RV Z h' a n L := by obtain ⟨c, A, r⟩ := F; exact ⟨c, A.other W q, r⟩
theorem RV.keep (F : RV Z h a n L) (K : Keep h h' ws) (q : a ∉ ws) : RV Z h' a n L := by obtain ⟨c, A, r⟩ := F; exact ⟨c, ⟨K.2.1 a c A.1 q, A.2⟩, r⟩
theorem exi_rv (F : RV Z h a n L) : Exi h a := by obtain ⟨c, A, -⟩ := F; exact ⟨c, A.1, A.plain⟩
theorem RV.new {k : ClassId} (N : Nat) (A : Arr Z h a (newA k (.array .int) n) (.array .int)) (O : OvrA Z k .int "[I") (q : 0 ≤ n.toInt) : RV Z h a n (List.replicate N .null) := by
  refine ⟨_, A, O, sz_new _ _ _, q, fun i hi => ?_⟩
  have hi' : i < n.toNatClampNeg := by rw [nat_cl]; omega
  have e : (List.replicate N Value.null).getD i .null = .null := by
    rw [List.getD_eq_getElem?_getD, List.getElem?_replicate]; split <;> rfl
  rw [e]
  simp [newA, hi', defaultValue]
theorem RV.len (X : Stand p l e R s m args below meth c T locs cells slots) (hx : p.tables.exec = Jvm.exec) (hZ : Z.Warmed39 s.vm) (eT : T.heap = h) (F : RV Z h a n L) {g : JFrame} (hg : g.method = m) {rest : List Value} (hs : g.stack = .ref a :: rest) (hd : decode c.code g.pc = .ok (.arraylength, 1)) :
    ∀ t, Steps p.tables e below (T.setTop { g with pc := g.pc + 1, stack := .int n :: rest }) t → Steps p.tables e below (T.setTop g) t := by
  obtain ⟨cl, A, -, h1, h2, h3⟩ := F
  intro t k
  refine X.arraylength hx (by rw [eT]; exact A.1) (State.isArrayOf_alike hZ.alike A.2.1) hg hs hd _ ?_
  rw [len_of h1 (not_neg h2)]
  exact k
theorem RV.ild (X : Stand p l e R s m args below meth c T locs cells slots) (hx : p.tables.exec = Jvm.exec) (hZ : Z.Warmed39 s.vm) (eT : T.heap = h) (F : RV Z h a n L) (h1 : 0 ≤ j.toInt) (h2 : j.toInt < n.toInt) {g : JFrame} (hg : g.method = m) {rest : List Value} (hs : g.stack = .int j :: .ref a :: rest) (hd : decode c.code g.pc = .ok (.aaload, 1)) :
    ∀ t, Steps p.tables e below (T.setTop { g with pc := g.pc + 1, stack := L.getD j.toInt.toNat .null :: rest }) t → Steps p.tables e below (T.setTop g) t := by
  obtain ⟨cl, A, -, q1, q2, q3⟩ := F
  exact X.aaload hx (j := j) (v := L.getD j.toInt.toNat .null) (by rw [eT]; exact A.1) (State.isArrayOf_alike hZ.alike A.2.1) rfl A.2.2 (inb q1 h1 h2) (q3 j.toInt.toNat (by omega)) hg hs hd
theorem RV.set {k : Nat} (F : RV Z h a n L) (W : Wr h h' a k v) (hk : k < L.length) : RV Z h' a n (L.set k v) := by
  obtain ⟨c, A, O, h1, h2, h3⟩ := F
  refine ⟨_, A.same W, O, by rw [sz_set]; exact h1, h2, fun i hi => ?_⟩
  by_cases q : i = k
  · subst q
    have hi' : i < c.slots.size := by rw [h1]; omega
    simp [Cell.setSlot, hi', hk]
  · have e : (c.setSlot k v).slots[i]? = c.slots[i]? := Array.getElem?_setIfInBounds_ne (Ne.symm q)
    rw [e, h3 i hi]
    simp [List.getD_eq_getElem?_getD, List.getElem?_set, Ne.symm q]
theorem RV.ist {y : Addr} (X : Stand p l e R s m args below meth c T locs cells slots) (hx : p.tables.exec = Jvm.exec) (hZ : Z.Warmed39 s.vm) (eT : T.heap = h) (F : RV Z h a n L) (I : Ins Z h y "[I" true) (h1 : 0 ≤ j.toInt) (h2 : j.toInt < n.toInt ∧ j.toInt.toNat < L.length) {g : JFrame} (hg : g.method = m) {rest : List Value} (hs : g.stack = .ref y :: .int j :: .ref a :: rest) (hd : decode c.code g.pc = .ok (.aastore, 1)) :
    ∃ T' h', Stand p l e R s m args below meth c T' (locs ++ [⟨a, j.toInt.toNat⟩]) cells slots ∧ T'.heap = h' ∧ Wr h h' a j.toInt.toNat (.ref y) ∧ RV Z h' a n (L.set j.toInt.toNat (.ref y)) ∧ ∀ t, Steps p.tables e below (T'.setTop { g with pc := g.pc + 1, stack := rest }) t → Steps p.tables e below (T.setTop g) t := by
  obtain ⟨cl, A, O, q1, q2, q3⟩ := id F
  obtain ⟨T', h', X', e', W', st'⟩ := stR X hx hZ eT A (inb q1 h1 h2.1) rfl (Sto.ofVA A rfl O I) hg hs hd
  exact ⟨T', h', X', e', W', F.set W' h2.2, st'⟩
end RVs
end Jvm.OwnGo
namespace Jvm.OwnGo
open Jvm Jvm.ClassFile Sem Op Lib Jvm.Free Jvm.Stand Jvm.LawKit Jvm.RoadKit
theorem ndq_a {i j n : Nat} (q : (Nat.blt i n && (Nat.blt j n && !Nat.beq i j)) = true) : i < n := Nat.le_of_ble_eq_true (Bool.and_eq_true_iff.mp q).1
theorem ndq_b {i j n : Nat} (q : (Nat.blt i n && (Nat.blt j n && !Nat.beq i j)) = true) : j < n := Nat.le_of_ble_eq_true (Bool.and_eq_true_iff.mp (Bool.and_eq_true_iff.mp q).2).1
theorem ndq_c {i j n : Nat} (q : (Nat.blt i n && (Nat.blt j n && !Nat.beq i j)) = true) : i ≠ j := by
  rintro rfl
  have h := (Bool.and_eq_true_iff.mp (Bool.and_eq_true_iff.mp q).2).2
  rw [Nat.beq_refl] at h
  cases h
/-- two places of a list without repeats -/
theorem ndq {L : List Nat} (h : L.Nodup) (i j : Nat) (q : (Nat.blt i L.length && (Nat.blt j L.length && !Nat.beq i j)) = true) : L[i]'(ndq_a q) ≠ L[j]'(ndq_b q) := by
  rcases Nat.lt_or_gt_of_ne (ndq_c q) with r | r
  · exact (List.pairwise_iff_getElem.mp h) i j (ndq_a q) (ndq_b q) r
  · exact fun e => (List.pairwise_iff_getElem.mp h) j i (ndq_b q) (ndq_a q) r e.symm
theorem mq {L : List Addr} {a : Addr} (i : Nat) (q : L[i]? = some a) : a ∈ L := List.mem_of_getElem? q
theorem svA {L ws R : List Addr} (h : ∀ x ∈ ws, x ∈ L) : ∀ x ∈ ws ++ R, x ∈ L ∨ x ∈ R := fun x hx => (List.mem_append.mp hx).elim (fun q => Or.inl (h x q)) Or.inr
theorem svB {L ws R : List Addr} (h : ∀ x ∈ ws, x ∈ L) : ∀ x ∈ ws, x ∈ L ∨ x ∈ R := fun x hx => Or.inl (h x hx)
/-- the heap has not shrunk -/
def Lk (h0 h : Heap) : Prop := h0.size ≤ h.size ∧ True
theorem Lk.refl (h : Heap) : Lk h h := ⟨Nat.le_refl _, trivial⟩
theorem Lk.wr {h0 h h' : Heap} {o : Addr} {sl : Nat} {v : Value} (K : Lk h0 h) (W : Wr h h' o sl v) : Lk h0 h' := ⟨Nat.le_trans K.1 (Nat.le_of_eq W.size.symm), trivial⟩
theorem Lk.ext {h0 h h' : Heap} (K : Lk h0 h) (E : Ext h h') : Lk h0 h' := ⟨Nat.le_trans K.1 E.1, trivial⟩
theorem Lk.trans {h0 h h' : Heap} (K : Lk h0 h) (q : h.size ≤ h'.size) : Lk h0 h' := ⟨Nat.le_trans K.1 q, trivial⟩
end Jvm.OwnGo
namespace Jvm.OwnGo
open Jvm Jvm.ClassFile Sem Op Lib Jvm.Free Jvm.Stand Jvm.LawKit Jvm.RoadKit
theorem neg_msb (x : Int64) : (x.toInt < 0) ↔ x.toBitVec.msb = true := by
  rw [← Int64.toInt_toBitVec, BitVec.toInt_neg_iff, BitVec.msb_eq_decide]; simp; omega
theorem xor_sign (x y : Int64) : ((x ^^^ y).toInt < 0) ↔ ¬ ((x.toInt < 0) ↔ (y.toInt < 0)) := by
  rw [neg_msb, neg_msb, neg_msb, Int64.toBitVec_xor, BitVec.msb_xor]
  cases x.toBitVec.msb <;> cases y.toBitVec.msb <;> simp
theorem xor_zero (x y : Int64) : ((x ^^^ y).toInt = 0) ↔ x.toInt = y.toInt := by
  constructor
  · intro h
    have h0 : x ^^^ y = 0 := Int64.toInt_inj.mp (by rw [h]; decide)
    have h1 : x.toBitVec ^^^ y.toBitVec = 0 := by
      have := congrArg Int64.toBitVec h0
      rw [Int64.toBitVec_xor] at this; exact this
    have h2 : x.toBitVec = y.toBitVec := BitVec.xor_eq_zero_iff.mp h1
    rw [← Int64.toInt_toBitVec, ← Int64.toInt_toBitVec, h2]
  · intro h
    have h0 : x = y := Int64.toInt_inj.mp h
    subst h0
    have h1 : x ^^^ x = 0 := by apply Int64.toBitVec_inj.mp; rw [Int64.toBitVec_xor]; simp
    rw [h1]; decide
end Jvm.OwnGo
namespace Jvm.OwnGo
open Jvm Jvm.ClassFile Sem Op Lib Jvm.Free Jvm.Stand Jvm.LawKit Jvm.RoadKit
section Rows
variable {p : Program} {l : Launch} {e : Env} {R : Room} {s : State} {m : MethodId} {args : Array Value} {below : List Frame} {meth : Method} {c : Code} {T : State} {locs : List Loc} {cells slots : Nat} {Z : State} {h h' : Heap} {a o : Addr} {n j : Int32} {v : Value} {sl : Nat} {ws : List Addr} {ty : FieldType} {f kf jf : Nat → Addr} {KF : Nat → Nat → Int64} {JF : Nat → Nat → Int32}
/-- an array of 65 references to arrays of ty -/
def RA (Z : State) (h : Heap) (a : Addr) (ty : FieldType) (f : Nat → Addr) : Prop := ∃ cl : Cell, Arr Z h a cl (.array ty) ∧ cl.slots.size = 65 ∧ ∀ b : Nat, b < 65 → cl.slots[b]? = some (.ref (f b))
theorem RA.lt (F : RA Z h a ty f) : a < h.size := by obtain ⟨c, A, -⟩ := F; exact A.lt
theorem RA.ext (E : Ext h h') (F : RA Z h a ty f) : RA Z h' a ty f := by obtain ⟨c, A, r⟩ := F; exact ⟨c, A.ext E, r⟩
theorem RA.other (W : Wr h h' o sl v) (F : RA Z h a ty f) (q : a ≠ o) : RA Z h' a ty f := by obtain ⟨c, A, r⟩ := F; exact ⟨c, A.other W q, r⟩
theorem RA.keep (F : RA Z h a ty f) (K : Keep h h' ws) (q : a ∉ ws) : RA Z h' a ty f := by obtain ⟨c, A, r⟩ := F; exact ⟨c, ⟨K.2.1 a c A.1 q, A.2⟩, r⟩
theorem exi_ra (F : RA Z h a ty f) : Exi h a := by obtain ⟨c, A, -⟩ := F; exact ⟨c, A.1, A.plain⟩
theorem RA.ild (X : Stand p l e R s m args below meth c T locs cells slots) (hx : p.tables.exec = Jvm.exec) (hZ : Z.Warmed39 s.vm) (eT : T.heap = h) (F : RA Z h a ty f) (h1 : 0 ≤ j.toInt) (h2 : j.toInt < 65) {g : JFrame} (hg : g.method = m) {rest : List Value} (hs : g.stack = .int j :: .ref a :: rest) (hd : decode c.code g.pc = .ok (.aaload, 1)) :
    ∀ t, Steps p.tables e below (T.setTop { g with pc := g.pc + 1, stack := .ref (f j.toInt.toNat) :: rest }) t → Steps p.tables e below (T.setTop g) t := by
  obtain ⟨cl, A, q1, q2⟩ := F
  have q3 : ¬ (j < 0 ∨ cl.slots.size ≤ j.toNatClampNeg) := by
    rintro (w | w)
    · exact not_neg h1 w
    · rw [nat_cl, q1] at w; omega
  exact X.aaload hx (j := j) (v := .ref (f j.toInt.toNat)) (by rw [eT]; exact A.1) (State.isArrayOf_alike hZ.alike A.2.1) rfl A.2.2 q3 (q2 j.toInt.toNat (by omega)) hg hs hd
def RwJ (Z : State) (h : Heap) (kf : Nat → Addr) (KF : Nat → Nat → Int64) : Prop := ∀ b : Nat, b < 65 → Vec Z h (kf b) .long 4 (longs (KF b))
def RwI (Z : State) (h : Heap) (jf : Nat → Addr) (JF : Nat → Nat → Int32) : Prop := ∀ b : Nat, b < 65 → Vec Z h (jf b) .int 4 (ints (JF b))
theorem RwJ.ext (E : Ext h h') (F : RwJ Z h kf KF) : RwJ Z h' kf KF := fun b q => (F b q).ext E
theorem RwI.ext (E : Ext h h') (F : RwI Z h jf JF) : RwI Z h' jf JF := fun b q => (F b q).ext E
theorem RwJ.other (W : Wr h h' o sl v) (F : RwJ Z h kf KF) (q : ∀ b : Nat, b < 65 → kf b ≠ o) : RwJ Z h' kf KF := fun b r => (F b r).other W (q b r)
theorem RwI.other (W : Wr h h' o sl v) (F : RwI Z h jf JF) (q : ∀ b : Nat, b < 65 → jf b ≠ o) : RwI Z h' jf JF := fun b r => (F b r).other W (q b r)
theorem RwJ.keep (F : RwJ Z h kf KF) (K : Keep h h' ws) (q : ∀ b : Nat, b < 65 → kf b ∉ ws) : RwJ Z h' kf KF := fun b r => (F b r).keep K (q b r)
theorem RwI.keep (F : RwI Z h jf JF) (K : Keep h h' ws) (q : ∀ b : Nat, b < 65 → jf b ∉ ws) : RwI Z h' jf JF := fun b r => (F b r).keep K (q b r)
def Inj (f : Nat → Addr) : Prop := ∀ b b' : Nat, b < 65 → b' < 65 → f b = f b' → b = b'
theorem RwJ.set {b : Nat} {g : Nat → Int64} (F : RwJ Z h kf KF) (I : Inj kf) (hb : b < 65) (hr : a = kf b) (W : Wr h h' a sl v) (V : Vec Z h' a .long 4 (longs g)) : RwJ Z h' kf (updF KF b g) := fun b' r => by
  by_cases q : b' = b
  · subst q; rw [upd_same, ← hr]; exact V
  · rw [upd_ne _ _ q]; exact (F b' r).other W (fun e => q (I b' b r hb (e.trans hr)))
theorem RwI.set {b : Nat} {g : Nat → Int32} (F : RwI Z h jf JF) (I : Inj jf) (hb : b < 65) (hr : a = jf b) (W : Wr h h' a sl v) (V : Vec Z h' a .int 4 (ints g)) : RwI Z h' jf (updF JF b g) := fun b' r => by
  by_cases q : b' = b
  · subst q; rw [upd_same, ← hr]; exact V
  · rw [upd_ne _ _ q]; exact (F b' r).other W (fun e => q (I b' b r hb (e.trans hr)))
theorem arr_tne {c1 c2 : Cell} {t1 t2 : FieldType} (A : Arr Z h a c1 t1) (B : Arr Z h o c2 t2) (q : t1 ≠ t2) : a ≠ o := by
  rintro rfl
  obtain ⟨a1, ⟨-, k1, b1, d1, e1⟩, -⟩ := A
  obtain ⟨a2, ⟨-, k2, b2, d2, e2⟩, -⟩ := B
  cases a1.symm.trans a2
  cases b1.symm.trans b2
  rw [e1] at e2
  cases e2
  exact q rfl
theorem vec_tne {f1 f2 : Nat → Value} {n1 n2 : Int32} {t1 t2 : FieldType} (A : Vec Z h a t1 n1 f1) (B : Vec Z h o t2 n2 f2) (q : t1 ≠ t2) : a ≠ o := by
  obtain ⟨c1, A, -⟩ := A
  obtain ⟨c2, B, -⟩ := B
  exact arr_tne A B q
/-- no row is the object o -/
def NR (kf jf : Nat → Addr) (o : Addr) : Prop := ∀ b : Nat, b < 65 → kf b ≠ o ∧ jf b ≠ o
def rowsOf (kf jf : Nat → Addr) : List Addr := (List.range 65).map kf ++ (List.range 65).map jf
theorem mem_k {b : Nat} (hb : b < 65) (hr : a = kf b) : a ∈ rowsOf kf jf := List.mem_append_left _ (List.mem_map.mpr ⟨b, List.mem_range.mpr hb, hr.symm⟩)
theorem mem_j {b : Nat} (hb : b < 65) (hr : a = jf b) : a ∈ rowsOf kf jf := List.mem_append_right _ (List.mem_map.mpr ⟨b, List.mem_range.mpr hb, hr.symm⟩)
theorem nin_rows (N : NR kf jf a) : a ∉ rowsOf kf jf := fun q => by
  rcases List.mem_append.mp q with q | q
  · obtain ⟨b, h1, h2⟩ := List.mem_map.mp q; exact (N b (List.mem_range.mp h1)).1 h2
  · obtain ⟨b, h1, h2⟩ := List.mem_map.mp q; exact (N b (List.mem_range.mp h1)).2 h2
theorem nin_app {L1 L2 : List Addr} (h1 : a ∉ L1) (h2 : a ∉ L2) : a ∉ L1 ++ L2 := fun q => (List.mem_append.mp q).elim h1 h2
theorem nr_k {b : Nat} (N : NR kf jf o) (hb : b < 65) (hr : a = kf b) : o ≠ a := fun q => (N b hb).1 (hr.symm.trans q.symm)
theorem nr_j {b : Nat} (N : NR kf jf o) (hb : b < 65) (hr : a = jf b) : o ≠ a := fun q => (N b hb).2 (hr.symm.trans q.symm)
theorem nr_new (F : RwJ Z h kf KF) (G : RwI Z h jf JF) (g : o = h.size) : NR kf jf o := fun b hb => ⟨Nat.ne_of_lt (Nat.lt_of_lt_of_le (F b hb).lt (Nat.le_of_eq g.symm)), Nat.ne_of_lt (Nat.lt_of_lt_of_le (G b hb).lt (Nat.le_of_eq g.symm))⟩
theorem rwj_tne (F : RwJ Z h kf KF) {f2 : Nat → Value} {n2 : Int32} {t2 : FieldType} (B : Vec Z h o t2 n2 f2) (q : FieldType.long ≠ t2) : ∀ b : Nat, b < 65 → kf b ≠ o := fun b hb => vec_tne (F b hb) B q
theorem rwi_tne (F : RwI Z h jf JF) {f2 : Nat → Value} {n2 : Int32} {t2 : FieldType} (B : Vec Z h o t2 n2 f2) (q : FieldType.int ≠ t2) : ∀ b : Nat, b < 65 → jf b ≠ o := fun b hb => vec_tne (F b hb) B q
end Rows
end Jvm.OwnGo
namespace Jvm.OwnGo
section One
variable {sz : Nat → Int32} {bb : Int32}
theorem f1_z (hrest : ∀ b : Nat, b < 65 → ¬ (b : Int) = bb.toInt → (sz b).toInt = 0) (hbb : 1 ≤ bb.toInt ∧ bb.toInt ≤ 64) : (updF sz bb.toInt.toNat (0 : Int32)) 0 = (0 : Int32) := by
  rw [upd_ne _ _ (by omega)]
  exact Int32.toInt_inj.mp ((hrest 0 (by omega) (by omega)).trans (by decide))
theorem f1_ct (hrest : ∀ b : Nat, b < 65 → ¬ (b : Int) = bb.toInt → (sz b).toInt = 0) (hbb : 1 ≤ bb.toInt ∧ bb.toInt ≤ 64) : 0 ≤ ((updF sz bb.toInt.toNat (0 : Int32)) 0).toInt ∧ ((updF sz bb.toInt.toNat (0 : Int32)) 0).toInt < 4 := by
  rw [f1_z hrest hbb]; decide
theorem f1_a (hrest : ∀ b : Nat, b < 65 → ¬ (b : Int) = bb.toInt → (sz b).toInt = 0) (hbb : 1 ≤ bb.toInt ∧ bb.toInt ≤ 64) : ((updF (updF sz bb.toInt.toNat (0 : Int32)) 0 (((updF sz bb.toInt.toNat (0 : Int32)) 0) + (1 : Int32))) 0).toInt = 1 := by
  rw [upd_same, f1_z hrest hbb]; decide
theorem f1_b (hrest : ∀ b : Nat, b < 65 → ¬ (b : Int) = bb.toInt → (sz b).toInt = 0) (hbb : 1 ≤ bb.toInt ∧ bb.toInt ≤ 64) {x : Int32} : ∀ b : Nat, b < 65 → ¬ b = 0 → ((updF (updF sz bb.toInt.toNat (0 : Int32)) 0 x) b).toInt = 0 := fun b h1 h2 => by
  rw [upd_ne _ _ h2]
  by_cases q : b = bb.toInt.toNat
  · rw [q, upd_same]; decide
  · rw [upd_ne _ _ q]; exact hrest b h1 (by omega)
theorem f1_k (hrest : ∀ b : Nat, b < 65 → ¬ (b : Int) = bb.toInt → (sz b).toInt = 0) (hbb : 1 ≤ bb.toInt ∧ bb.toInt ≤ 64) {α : Type} {KF : Nat → Nat → α} {x : α} : (updF KF 0 (updF (KF 0) ((updF sz bb.toInt.toNat (0 : Int32)) 0).toInt.toNat x)) 0 0 = x := by
  rw [upd_same, f1_z hrest hbb]; exact upd_same _ _ _
end One
end Jvm.OwnGo
namespace Jvm.OwnGo
section Two
variable {sz : Nat → Int32} {bb r : Int32}
/-- the sizes behind one item put into the bucket x of the emptied heap -/
def sOne (sz : Nat → Int32) (bb : Int32) (x : Nat) : Nat → Int32 := updF (updF sz bb.toInt.toNat (0 : Int32)) x (((updF sz bb.toInt.toNat (0 : Int32)) x) + (1 : Int32))
theorem u_z (hrest : ∀ b : Nat, b < 65 → ¬ (b : Int) = bb.toInt → (sz b).toInt = 0) {x : Nat} (hx : x < 65) : (updF sz bb.toInt.toNat (0 : Int32)) x = (0 : Int32) := by
  by_cases q : x = bb.toInt.toNat
  · rw [q, upd_same]
  · rw [upd_ne _ _ q]
    by_cases q2 : (x : Int) = bb.toInt
    · omega
    · exact Int32.toInt_inj.mp ((hrest x hx q2).trans (by decide))
theorem one_s (hrest : ∀ b : Nat, b < 65 → ¬ (b : Int) = bb.toInt → (sz b).toInt = 0) {x : Nat} (hx : x < 65) : sOne sz bb x x = (1 : Int32) := by
  unfold sOne; rw [upd_same, u_z hrest hx]; decide
theorem one_o (hrest : ∀ b : Nat, b < 65 → ¬ (b : Int) = bb.toInt → (sz b).toInt = 0) {x y : Nat} (hy : y < 65) (q : y ≠ x) : sOne sz bb x y = (0 : Int32) := by
  unfold sOne; rw [upd_ne _ _ q, u_z hrest hy]
theorem ct_u (hrest : ∀ b : Nat, b < 65 → ¬ (b : Int) = bb.toInt → (sz b).toInt = 0) {x : Nat} (hx : x < 65) : 0 ≤ ((updF sz bb.toInt.toNat (0 : Int32)) x).toInt ∧ ((updF sz bb.toInt.toNat (0 : Int32)) x).toInt < 4 := by rw [u_z hrest hx]; decide
theorem ct_o (hrest : ∀ b : Nat, b < 65 → ¬ (b : Int) = bb.toInt → (sz b).toInt = 0) {x y : Nat} (hx : x < 65) (hy : y < 65) : 0 ≤ (sOne sz bb x y).toInt ∧ (sOne sz bb x y).toInt < 4 := by
  by_cases q : y = x
  · subst q; rw [one_s hrest hx]; decide
  · rw [one_o hrest hy q]; decide
/-- two items into the same bucket 0 -/
theorem two_s (hrest : ∀ b : Nat, b < 65 → ¬ (b : Int) = bb.toInt → (sz b).toInt = 0) : ((updF (sOne sz bb 0) 0 ((sOne sz bb 0 0) + (1 : Int32))) 0).toInt = 2 := by
  rw [upd_same, one_s hrest (by decide)]; decide
theorem two_o (hrest : ∀ b : Nat, b < 65 → ¬ (b : Int) = bb.toInt → (sz b).toInt = 0) {v : Int32} : ∀ b : Nat, b < 65 → ¬ b = 0 → ((updF (sOne sz bb 0) 0 v) b).toInt = 0 := fun b hb q => by
  rw [upd_ne _ _ q, one_o hrest hb q]; decide
theorem two_k {α : Type} {KF : Nat → Nat → α} {u v : α} (hrest : ∀ b : Nat, b < 65 → ¬ (b : Int) = bb.toInt → (sz b).toInt = 0) :
    (updF (updF KF 0 (updF (KF 0) ((updF sz bb.toInt.toNat (0 : Int32)) 0).toInt.toNat u)) 0 (updF ((updF KF 0 (updF (KF 0) ((updF sz bb.toInt.toNat (0 : Int32)) 0).toInt.toNat u)) 0) (sOne sz bb 0 0).toInt.toNat v)) 0 0 = u ∧
    (updF (updF KF 0 (updF (KF 0) ((updF sz bb.toInt.toNat (0 : Int32)) 0).toInt.toNat u)) 0 (updF ((updF KF 0 (updF (KF 0) ((updF sz bb.toInt.toNat (0 : Int32)) 0).toInt.toNat u)) 0) (sOne sz bb 0 0).toInt.toNat v)) 0 1 = v := by
  rw [upd_same, one_s hrest (by decide), u_z hrest (by decide), upd_same]
  constructor
  · rw [upd_ne _ _ (show (0 : Nat) ≠ (1 : Int32).toInt.toNat by decide)]; exact upd_same _ _ _
  · exact upd_same _ _ _
/-- two items, into the buckets x and then y, unlike -/
theorem par_s (hrest : ∀ b : Nat, b < 65 → ¬ (b : Int) = bb.toInt → (sz b).toInt = 0) {x y : Nat} (hx : x < 65) (hy : y < 65) (q : y ≠ x) : (∀ b : Nat, b < 65 → ((updF (sOne sz bb x) y ((sOne sz bb x y) + (1 : Int32))) b).toInt = if b = x ∨ b = y then 1 else 0) := fun b hb => by
  by_cases q1 : b = y
  · rw [q1, upd_same, one_o hrest hy q, if_pos (Or.inr rfl)]; decide
  · rw [upd_ne _ _ q1]
    by_cases q2 : b = x
    · rw [q2, one_s hrest hx, if_pos (Or.inl rfl)]; decide
    · rw [one_o hrest hb q2, if_neg (by rintro (w | w) <;> contradiction)]; decide
theorem par_k {α : Type} {KF : Nat → Nat → α} {u v : α} (hrest : ∀ b : Nat, b < 65 → ¬ (b : Int) = bb.toInt → (sz b).toInt = 0) {x y : Nat} (hx : x < 65) (hy : y < 65) (q : y ≠ x) :
    (updF (updF KF x (updF (KF x) ((updF sz bb.toInt.toNat (0 : Int32)) x).toInt.toNat u)) y (updF ((updF KF x (updF (KF x) ((updF sz bb.toInt.toNat (0 : Int32)) x).toInt.toNat u)) y) (sOne sz bb x y).toInt.toNat v)) x 0 = u ∧
    (updF (updF KF x (updF (KF x) ((updF sz bb.toInt.toNat (0 : Int32)) x).toInt.toNat u)) y (updF ((updF KF x (updF (KF x) ((updF sz bb.toInt.toNat (0 : Int32)) x).toInt.toNat u)) y) (sOne sz bb x y).toInt.toNat v)) y 0 = v := by
  constructor
  · rw [upd_ne _ _ (Ne.symm q), upd_same, u_z hrest hx]; exact upd_same _ _ _
  · rw [upd_same, one_o hrest hy q]; exact upd_same _ _ _
end Two
end Jvm.OwnGo
namespace Jvm.OwnGo
open Jvm Jvm.ClassFile Sem Op Lib Jvm.Free Jvm.Stand Jvm.LawKit Jvm.RoadKit
section Part
variable {p : Program} {l : Launch} {e : Env} {R : Room} {s : State} {m : MethodId} {args : Array Value} {below : List Frame} {meth : Method} {c : Code} {T : State} {locs : List Loc} {cells slots : Nat} {Z : State} {h h' : Heap} {a o y : Addr} {n j : Int32} {v : Value} {sl k n1 : Nat} {ws : List Addr} {ty : FieldType} {C : String} {f kf jf : Nat → Addr}
/-- an array of 65 references, filled up to k -/
def RAP (Z : State) (h : Heap) (a : Addr) (ty : FieldType) (C : String) (f : Nat → Addr) (k : Nat) : Prop := ∃ cl : Cell, Arr Z h a cl (.array ty) ∧ OvrA Z cl.cls ty C ∧ cl.slots.size = 65 ∧ ∀ b : Nat, b < k → cl.slots[b]? = some (.ref (f b))
theorem RAP.lt (F : RAP Z h a ty C f k) : a < h.size := by obtain ⟨c, A, -⟩ := F; exact A.lt
theorem RAP.ext (E : Ext h h') (F : RAP Z h a ty C f k) : RAP Z h' a ty C f k := by obtain ⟨c, A, r⟩ := F; exact ⟨c, A.ext E, r⟩
theorem RAP.other (W : Wr h h' o sl v) (F : RAP Z h a ty C f k) (q : a ≠ o) : RAP Z h' a ty C f k := by obtain ⟨c, A, r⟩ := F; exact ⟨c, A.other W q, r⟩
theorem RAP.new {kc : ClassId} (A : Arr Z h a (newA kc (.array ty) (65 : Int32)) (.array ty)) (O : OvrA Z kc ty C) : RAP Z h a ty C f 0 := ⟨_, A, O, sz_new _ _ _, fun b hb => absurd hb (Nat.not_lt_zero b)⟩
theorem RAP.full (F : RAP Z h a ty C f 65) : RA Z h a ty f := by obtain ⟨c, A, -, q1, q2⟩ := F; exact ⟨c, A, q1, q2⟩
theorem RAP.ist (X : Stand p l e R s m args below meth c T locs cells slots) (hx : p.tables.exec = Jvm.exec) (hZ : Z.Warmed39 s.vm) (eT : T.heap = h) (F : RAP Z h a ty C f j.toInt.toNat) (I : Ins Z h y C true) (h1 : 0 ≤ j.toInt) (h2 : j.toInt < 65) {g : JFrame} (hg : g.method = m) {rest : List Value} (hs : g.stack = .ref y :: .int j :: .ref a :: rest) (hd : decode c.code g.pc = .ok (.aastore, 1)) :
    ∃ T' h', Stand p l e R s m args below meth c T' (locs ++ [⟨a, j.toInt.toNat⟩]) cells slots ∧ T'.heap = h' ∧ Wr h h' a j.toInt.toNat (.ref y) ∧ RAP Z h' a ty C (updF f j.toInt.toNat y) (j.toInt.toNat + 1) ∧ ∀ t, Steps p.tables e below (T'.setTop { g with pc := g.pc + 1, stack := rest }) t → Steps p.tables e below (T.setTop g) t := by
  obtain ⟨cl, A, O, q1, q2⟩ := F
  have q3 : ¬ (j < 0 ∨ cl.slots.size ≤ j.toNatClampNeg) := by
    rintro (w | w)
    · exact not_neg h1 w
    · rw [nat_cl, q1] at w; omega
  obtain ⟨T', h', X', e', W', st'⟩ := stR X hx hZ eT A q3 rfl (Sto.ofVA A rfl O I) hg hs hd
  refine ⟨T', h', X', e', W', ⟨_, A.same W', O, by rw [sz_set]; exact q1, fun b hb => ?_⟩, st'⟩
  by_cases q : b = j.toInt.toNat
  · have hb' : j.toInt.toNat < cl.slots.size := by rw [q1]; omega
    rw [q, upd_same]
    generalize hk : j.toInt.toNat = kk at hb'
    show (cl.slots.setIfInBounds j.toNatClampNeg (.ref y))[kk]? = some (.ref y)
    rw [show j.toNatClampNeg = kk from hk]
    simp [hb']
  · have e1 : (cl.setSlot j.toNatClampNeg (.ref y)).slots[b]? = cl.slots[b]? := Array.getElem?_setIfInBounds_ne (by rw [nat_cl]; exact Ne.symm q)
    rw [e1, upd_ne _ _ q]; exact q2 b (by omega)
/-- the rows up to k: all zero, all at n1 or behind, no two alike -/
def RP (Z : State) (h : Heap) (n1 : Nat) (kf jf : Nat → Addr) (k : Nat) : Prop :=
  (∀ b : Nat, b < k → Vec Z h (kf b) .long 4 (longs (fun _ => 0)) ∧ Vec Z h (jf b) .int 4 (ints (fun _ => 0)) ∧ n1 ≤ kf b ∧ n1 ≤ jf b) ∧ (∀ b b' : Nat, b < k → b' < k → kf b = kf b' → b = b') ∧ ∀ b b' : Nat, b < k → b' < k → jf b = jf b' → b = b'
theorem RP.zero : RP Z h n1 kf jf 0 := ⟨fun _ q => absurd q (Nat.not_lt_zero _), fun _ _ q => absurd q (Nat.not_lt_zero _), fun _ _ q => absurd q (Nat.not_lt_zero _)⟩
theorem RP.ext (E : Ext h h') (F : RP Z h n1 kf jf k) : RP Z h' n1 kf jf k := ⟨fun b q => ⟨(F.1 b q).1.ext E, (F.1 b q).2.1.ext E, (F.1 b q).2.2⟩, F.2⟩
theorem RP.wr (W : Wr h h' o sl v) (F : RP Z h n1 kf jf k) (q : o < n1) : RP Z h' n1 kf jf k :=
  ⟨fun b r => ⟨(F.1 b r).1.other W (Ne.symm (Nat.ne_of_lt (Nat.lt_of_lt_of_le q (F.1 b r).2.2.1))), (F.1 b r).2.1.other W (Ne.symm (Nat.ne_of_lt (Nat.lt_of_lt_of_le q (F.1 b r).2.2.2))), (F.1 b r).2.2⟩, F.2⟩
theorem RP.more {x y : Addr} (F : RP Z h n1 kf jf k) (V1 : Vec Z h x .long 4 (longs (fun _ => 0))) (V2 : Vec Z h y .int 4 (ints (fun _ => 0))) (hx : n1 ≤ x) (hy : n1 ≤ y) (fx : ∀ b : Nat, b < k → kf b ≠ x) (fy : ∀ b : Nat, b < k → jf b ≠ y) : RP Z h n1 (updF kf k x) (updF jf k y) (k + 1) := by
  refine ⟨fun b q => ?_, fun b b' q q' r => ?_, fun b b' q q' r => ?_⟩
  · by_cases w : b = k
    · subst w; rw [upd_same, upd_same]; exact ⟨V1, V2, hx, hy⟩
    · rw [upd_ne _ _ w, upd_ne _ _ w]; exact F.1 b (by omega)
  · by_cases w : b = k <;> by_cases w' : b' = k
    · omega
    · rw [w, upd_same, upd_ne _ _ w'] at r; exact absurd r.symm (fx b' (by omega))
    · rw [w', upd_same, upd_ne _ _ w] at r; exact absurd r (fx b (by omega))
    · rw [upd_ne _ _ w, upd_ne _ _ w'] at r; exact F.2.1 b b' (by omega) (by omega) r
  · by_cases w : b = k <;> by_cases w' : b' = k
    · omega
    · rw [w, upd_same, upd_ne _ _ w'] at r; exact absurd r.symm (fy b' (by omega))
    · rw [w', upd_same, upd_ne _ _ w] at r; exact absurd r (fy b (by omega))
    · rw [upd_ne _ _ w, upd_ne _ _ w'] at r; exact F.2.2 b b' (by omega) (by omega) r
theorem RP.fk (F : RP Z h n1 kf jf k) {x : Addr} (g : x = h.size) : ∀ b : Nat, b < k → kf b ≠ x := fun b q => Nat.ne_of_lt (Nat.lt_of_lt_of_le (F.1 b q).1.lt (Nat.le_of_eq g.symm))
theorem RP.fj (F : RP Z h n1 kf jf k) {x : Addr} (g : x = h.size) : ∀ b : Nat, b < k → jf b ≠ x := fun b q => Nat.ne_of_lt (Nat.lt_of_lt_of_le (F.1 b q).2.1.lt (Nat.le_of_eq g.symm))
end Part
end Jvm.OwnGo
namespace Jvm.OwnGo
/-- one item (k, i), in bucket bb -/
def On (sz : Nat → Int32) (KF : Nat → Nat → Int64) (JF : Nat → Nat → Int32) (bb : Int32) (k : Int64) (i : Int32) : Prop :=
  0 ≤ bb.toInt ∧ bb.toInt ≤ 64 ∧ (sz bb.toInt.toNat).toInt = 1 ∧ (∀ b : Nat, b < 65 → ¬ (b : Int) = bb.toInt → (sz b).toInt = 0) ∧ KF bb.toInt.toNat 0 = k ∧ JF bb.toInt.toNat 0 = i
/-- two items, in the last bucket -/
def Tw (sz : Nat → Int32) (KF : Nat → Nat → Int64) (JF : Nat → Nat → Int32) (bb : Int32) (k0 : Int64) (i0 : Int32) (k1 : Int64) (i1 : Int32) : Prop :=
  (1 ≤ bb.toInt ∧ bb.toInt ≤ 64 ∧ 64 ≤ bb.toInt) ∧ (sz bb.toInt.toNat).toInt = 2 ∧ (∀ b : Nat, b < 65 → ¬ (b : Int) = bb.toInt → (sz b).toInt = 0) ∧ KF bb.toInt.toNat 0 = k0 ∧ JF bb.toInt.toNat 0 = i0 ∧ KF bb.toInt.toNat 1 = k1 ∧ JF bb.toInt.toNat 1 = i1
/-- the top is (k, i); behind it (where mo is 1) lies (k', i') -/
def QT (sz : Nat → Int32) (KF : Nat → Nat → Int64) (JF : Nat → Nat → Int32) (k : Int64) (i mo : Int32) (k' : Int64) (i' : Int32) : Prop :=
  (mo.toInt = 0 ∧ ∃ bb, On sz KF JF bb k i) ∨ (mo.toInt = 1 ∧ 0 ≤ k.toInt ∧ 0 ≤ k'.toInt ∧ ∃ bb, (Tw sz KF JF bb k i k' i' ∧ k.toInt < k'.toInt) ∨ (Tw sz KF JF bb k' i' k i ∧ k.toInt ≤ k'.toInt))
/-- the top lies in bucket 0 -/
def QU (sz : Nat → Int32) (KF : Nat → Nat → Int64) (JF : Nat → Nat → Int32) (k : Int64) (i mo : Int32) (k' : Int64) (i' : Int32) : Prop :=
  (0 < (sz 0).toInt ∧ (sz 0).toInt ≤ 4) ∧ KF 0 ((sz 0).toInt.toNat - 1) = k ∧ JF 0 ((sz 0).toInt.toNat - 1) = i ∧ (mo.toInt = 1 → ∃ bb, On (updF sz 0 (sz 0 - (1 : Int32))) KF JF bb k' i')
section Queue
variable {sz s2 : Nat → Int32} {KF K2 : Nat → Nat → Int64} {JF J2 : Nat → Nat → Int32} {bb cb i i' mo : Int32} {k k' : Int64}
theorem qu_0 (h : On sz KF JF bb k i) (hb : bb.toInt = 0) (hm : mo.toInt = 0) : QU sz KF JF k i mo k' i' := by
  obtain ⟨-, -, h1, -, h2, h3⟩ := h
  have e : bb.toInt.toNat = 0 := by omega
  rw [e] at h1 h2 h3
  have e1 : (sz 0).toInt.toNat - 1 = 0 := by omega
  exact ⟨by omega, by rw [e1]; exact h2, by rw [e1]; exact h3, fun q => absurd q (by omega)⟩
theorem qu_1 (h1 : (s2 0).toInt = 1) (h2 : K2 0 0 = k) (h3 : J2 0 0 = i) (hm : mo.toInt = 0) : QU s2 K2 J2 k i mo k' i' := by
  have e1 : (s2 0).toInt.toNat - 1 = 0 := by omega
  exact ⟨by omega, by rw [e1]; exact h2, by rw [e1]; exact h3, fun q => absurd q (by omega)⟩
theorem sub1 (x : Int32) {n : Int} (h : x.toInt = n) (h1 : 1 ≤ n) : (x - (1 : Int32)).toInt = n - 1 := by
  have h2 : x.toInt < 2147483648 := Int32.toInt_lt x
  rw [Int32.toInt_sub, h, show (1 : Int32).toInt = 1 from rfl]
  rw [Int.bmod_def]; omega
theorem qu_e (h1 : (s2 0).toInt = 2) (h0 : ∀ b : Nat, b < 65 → ¬ b = 0 → (s2 b).toInt = 0) (h2 : K2 0 0 = k' ∧ K2 0 1 = k) (h3 : J2 0 0 = i' ∧ J2 0 1 = i) : QU s2 K2 J2 k i mo k' i' := by
  have e1 : (s2 0).toInt.toNat - 1 = 1 := by omega
  refine ⟨by omega, by rw [e1]; exact h2.2, by rw [e1]; exact h3.2, fun _ => ⟨(0 : Int32), by decide, by decide, ?_, fun b hb q => ?_, h2.1, h3.1⟩⟩
  · show (updF s2 0 (s2 0 - 1) 0).toInt = 1
    rw [upd_same, sub1 _ h1 (by omega)]; rfl
  · have q' : b ≠ 0 := fun e => q (by rw [e]; rfl)
    rw [upd_ne _ _ q']; exact h0 b hb q'
theorem qu_p (hc : 1 ≤ cb.toInt ∧ cb.toInt ≤ 63) (h1 : ∀ b : Nat, b < 65 → (s2 b).toInt = if b = 0 ∨ b = cb.toInt.toNat then 1 else 0) (h2 : K2 0 0 = k ∧ K2 cb.toInt.toNat 0 = k') (h3 : J2 0 0 = i ∧ J2 cb.toInt.toNat 0 = i') : QU s2 K2 J2 k i mo k' i' := by
  have e0 : (s2 0).toInt = 1 := by rw [h1 0 (by omega), if_pos (Or.inl rfl)]
  have e1 : (s2 0).toInt.toNat - 1 = 0 := by omega
  refine ⟨by omega, by rw [e1]; exact h2.1, by rw [e1]; exact h3.1, fun _ => ⟨cb, by omega, by omega, ?_, fun b hb q => ?_, h2.2, h3.2⟩⟩
  · rw [upd_ne _ _ (by omega), h1 _ (by omega), if_pos (Or.inr rfl)]
  · by_cases q' : b = 0
    · subst q'; rw [upd_same, sub1 _ e0 (by omega)]; rfl
    · rw [upd_ne _ _ q', h1 b hb, if_neg (by omega)]
theorem if_sw {a b : Prop} [Decidable a] [Decidable b] {x y : Int} : (if a ∨ b then x else y) = (if b ∨ a then x else y) := by
  by_cases h1 : a <;> by_cases h2 : b <;> simp [h1, h2]
end Queue
theorem sub_addJ (a b : Int64) : a - b + b = a := by
  apply Int64.toBitVec_inj.mp; simp
theorem fin_J (p l d : Int64) : p - l + (l - d) = p - d := by
  apply Int64.toBitVec_inj.mp; simp only [Int64.toBitVec_add, Int64.toBitVec_sub]; apply BitVec.eq_of_toNat_eq; simp only [BitVec.toNat_add, BitVec.toNat_sub]; omega
theorem lst2 {α : Type} [Inhabited α] (a b v : α) {n : Nat} (h : n < 2) : updF (lst [a, b]) n v = lst [if n = 0 then v else a, if n = 1 then v else b] := by
  rw [upd_lst _ _ _ h]
  match n, h with
  | 0, _ => rfl
  | 1, _ => rfl
end Jvm.OwnGo
namespace Jvm.OwnGo
theorem pick2 {α : Type} [Inhabited α] {a b c : α} {i : Int32} (h : (i.toInt = 0 ∧ a = c) ∨ (i.toInt = 1 ∧ b = c)) : (lst [a, b]) i.toInt.toNat = c := by
  rcases h with ⟨h, h'⟩ | ⟨h, h'⟩
  · rw [h]; exact h'
  · rw [h]; exact h'
theorem pick3 {a b v i : Int32} (h : (lst [a, b]) i.toInt.toNat = v) (hi : i.toInt = 0 ∨ i.toInt = 1) : (i.toInt = 0 ∧ v.toInt = a.toInt) ∨ (i.toInt = 1 ∧ v.toInt = b.toInt) := by
  subst h
  rcases hi with h | h
  · exact Or.inl ⟨h, by rw [h]; rfl⟩
  · exact Or.inr ⟨h, by rw [h]; rfl⟩
theorem lst2' {a b v i : Int32} (hi : i.toInt = 0 ∨ i.toInt = 1) : ∃ a' b' : Int32, ((i.toInt = 0 ∧ a' = v ∧ b' = b) ∨ (i.toInt = 1 ∧ b' = v ∧ a' = a)) ∧ updF (lst [a, b]) i.toInt.toNat v = lst [a', b'] := by
  rcases hi with h | h
  · exact ⟨v, b, Or.inl ⟨h, rfl, rfl⟩, by rw [h]; exact upd_lst [a, b] 0 v (show 0 < 2 by decide)⟩
  · exact ⟨a, v, Or.inr ⟨h, rfl, rfl⟩, by rw [h]; exact upd_lst [a, b] 1 v (show 1 < 2 by decide)⟩
end Jvm.OwnGo
namespace Jvm.OwnGo
section Runs
variable {sz szx s2 : Nat → Int32} {KF KFx K2 : Nat → Nat → Int64} {JF JFx J2 : Nat → Nat → Int32} {r0 r1 go en ts sl mk m0 m1 m1x sn snx sc s0 s1 sl' sc' m0' m1' s0' s1' sn' bb i i' mo rr j : Int32} {d0 d1 d1x D0 D1 dd lm lm' k k' k0 p0 p1 p0x p1x v lim : Int64}
theorem push_on (hz : ∀ b : Nat, b < 65 → sz b = 0) : On (updF sz 64 (sz 64 + (1 : Int32))) (updF KF 64 (updF (KF 64) (sz 64).toInt.toNat k)) (updF JF 64 (updF (JF 64) (sz 64).toInt.toNat i)) (64 : Int32) k i := by
  have e : (64 : Int32).toInt.toNat = 64 := by decide
  have e1 : sz 64 = 0 := hz 64 (by omega)
  refine ⟨by decide, by decide, ?_, fun b hb q => ?_, ?_, ?_⟩
  · rw [e, upd_same, e1]; decide
  · have q' : b ≠ 64 := fun x => q (by rw [x]; rfl)
    rw [upd_ne _ _ q', hz b hb]; decide
  · rw [e, upd_same, e1]; exact upd_same _ _ _
  · rw [e, upd_same, e1]; exact upd_same _ _ _
theorem add1 (x : Int32) {n : Int} (h : x.toInt = n) (h1 : n < 1000) (h0 : 0 ≤ n) : (x + (1 : Int32)).toInt = n + 1 := by
  rw [Int32.toInt_add, h, show (1 : Int32).toInt = 1 from rfl]
  rw [Int.bmod_def]; omega
theorem push_tw (ho : On sz KF JF (64 : Int32) k0 i') : Tw (updF sz 64 (sz 64 + (1 : Int32))) (updF KF 64 (updF (KF 64) (sz 64).toInt.toNat k)) (updF JF 64 (updF (JF 64) (sz 64).toInt.toNat i)) (64 : Int32) k0 i' k i := by
  have e : (64 : Int32).toInt.toNat = 64 := by decide
  obtain ⟨-, -, h1, h2, h3, h4⟩ := ho
  rw [e] at h1 h3 h4
  have e1 : (sz 64).toInt.toNat = 1 := by omega
  refine ⟨by decide, ?_, fun b hb q => ?_, ?_, ?_, ?_, ?_⟩
  · rw [e, upd_same, add1 _ h1 (by omega) (by omega)]; rfl
  · have q' : b ≠ 64 := fun x => q (by rw [x]; rfl)
    rw [upd_ne _ _ q']; exact h2 b hb q
  · rw [e, upd_same, e1, upd_ne _ _ (by omega)]; exact h3
  · rw [e, upd_same, e1, upd_ne _ _ (by omega)]; exact h4
  · rw [e, upd_same, e1]; exact upd_same _ _ _
  · rw [e, upd_same, e1]; exact upd_same _ _ _
/-- behind the first step -/
def St0 (r0 mk m0 : Int32) (d0 D0 : Int64) (sz : Nat → Int32) (KF : Nat → Nat → Int64) (JF : Nat → Nat → Int32) (sn : Int32) : Prop :=
  (r0.toInt = 0 ∧ m0.toInt < mk.toInt ∧ (∀ b : Nat, b < 65 → sz b = 0) ∧ sn.toInt = 0) ∨ (r0.toInt = 1 ∧ m0 = mk ∧ d0 = D0 ∧ On sz KF JF (64 : Int32) D0 (0 : Int32) ∧ sn.toInt = 1)
theorem St0.no (h : r0.toInt = 0) (hm : m0.toInt < mk.toInt) (hz : ∀ b : Nat, b < 65 → sz b = 0) (hs : sn.toInt = 0) : St0 r0 mk m0 d0 D0 sz KF JF sn := Or.inl ⟨h, hm, hz, hs⟩
theorem St0.yes (h : r0.toInt = 1) (hz : ∀ b : Nat, b < 65 → sz b = 0) (hs : sn.toInt = 1) : St0 r0 mk mk D0 D0 (updF sz 64 (sz 64 + (1 : Int32))) (updF KF 64 (updF (KF 64) (sz 64).toInt.toNat D0)) (updF JF 64 (updF (JF 64) (sz 64).toInt.toNat (0 : Int32))) sn := Or.inr ⟨h, rfl, rfl, push_on hz, hs⟩
theorem St0.few (h : St0 r0 mk m0 d0 D0 sz KF JF sn) : 0 ≤ (sz 64).toInt ∧ (sz 64).toInt < 4 := by
  rcases h with ⟨-, -, h, -⟩ | ⟨-, -, -, h, -⟩
  · rw [h 64 (by omega)]; decide
  · have e : (64 : Int32).toInt.toNat = 64 := by decide
    obtain ⟨-, -, h1, -⟩ := h
    rw [e] at h1; omega
theorem St0.le (h : St0 r0 mk m0 d0 D0 sz KF JF sn) : m0.toInt ≤ mk.toInt ∧ 0 ≤ sn.toInt ∧ sn.toInt ≤ 1 := by
  rcases h with ⟨-, h, -, h'⟩ | ⟨-, rfl, -, -, h'⟩ <;> omega
/-- what the second step does -/
def R1 (en mk m0 m1 : Int32) (d0 d1 dd : Int64) (sz : Nat → Int32) (KF : Nat → Nat → Int64) (JF : Nat → Nat → Int32) (sn m1x : Int32) (d1x : Int64) (szx : Nat → Int32) (KFx : Nat → Nat → Int64) (JFx : Nat → Nat → Int32) (snx : Int32) : Prop :=
  (¬ (en.toInt = 0 ∧ mk.toInt ≤ m0.toInt ∧ d0.toInt < dd.toInt) ∧ m1x = mk ∧ d1x = dd ∧ szx = updF sz 64 (sz 64 + (1 : Int32)) ∧ KFx = updF KF 64 (updF (KF 64) (sz 64).toInt.toNat dd) ∧ JFx = updF JF 64 (updF (JF 64) (sz 64).toInt.toNat (1 : Int32)) ∧ snx = sn + (1 : Int32)) ∨
  (en.toInt = 0 ∧ mk.toInt ≤ m0.toInt ∧ d0.toInt < dd.toInt ∧ m1x = m1 ∧ d1x = d1 ∧ szx = sz ∧ KFx = KF ∧ JFx = JF ∧ snx = sn)
/-- behind both steps -/
def St1 (r0 r1 en mk m0 m1 : Int32) (d0 d1 D0 D1 : Int64) (sz : Nat → Int32) (KF : Nat → Nat → Int64) (JF : Nat → Nat → Int32) (sn : Int32) : Prop :=
  (r0.toInt = 0 ∧ r1.toInt = 0 ∧ m0.toInt < mk.toInt ∧ m1.toInt < mk.toInt ∧ sn.toInt = 0) ∨
  (r0.toInt = 1 ∧ (r1.toInt = 0 ∨ (r1.toInt = 1 ∧ en.toInt = 0 ∧ D0.toInt < D1.toInt)) ∧ m0 = mk ∧ d0 = D0 ∧ m1.toInt < mk.toInt ∧ On sz KF JF (64 : Int32) D0 (0 : Int32) ∧ sn.toInt = 1) ∨
  (r0.toInt = 0 ∧ r1.toInt = 1 ∧ m0.toInt < mk.toInt ∧ m1 = mk ∧ d1 = D1 ∧ On sz KF JF (64 : Int32) D1 (1 : Int32) ∧ sn.toInt = 1) ∨
  (r0.toInt = 1 ∧ r1.toInt = 1 ∧ (en.toInt = 0 → D1.toInt ≤ D0.toInt) ∧ m0 = mk ∧ d0 = D0 ∧ m1 = mk ∧ d1 = D1 ∧ Tw sz KF JF (64 : Int32) D0 (0 : Int32) D1 (1 : Int32) ∧ sn.toInt = 2)
theorem St1.no (h : St0 r0 mk m0 d0 D0 sz KF JF sn) (hr : r1.toInt = 0) (hm : m1.toInt < mk.toInt) : St1 r0 r1 en mk m0 m1 d0 d1 D0 D1 sz KF JF sn := by
  rcases h with ⟨h1, h2, -, h3⟩ | ⟨h1, h2, h3, h4, h5⟩
  · exact Or.inl ⟨h1, hr, h2, hm, h3⟩
  · exact Or.inr (Or.inl ⟨h1, Or.inl hr, h2, h3, hm, h4, h5⟩)
theorem St1.yes (h : St0 r0 mk m0 d0 D0 sz KF JF sn) (hr : r1.toInt = 1) (hm : m1.toInt < mk.toInt) (hR : R1 en mk m0 m1 d0 d1 D1 sz KF JF sn m1x d1x szx KFx JFx snx) : St1 r0 r1 en mk m0 m1x d0 d1x D0 D1 szx KFx JFx snx := by
  rcases h with ⟨h1, h2, h3, h4⟩ | ⟨h1, h2, h3, h4, h5⟩
  · rcases hR with ⟨-, rfl, rfl, rfl, rfl, rfl, rfl⟩ | ⟨-, q, -⟩
    · exact Or.inr (Or.inr (Or.inl ⟨h1, hr, h2, rfl, rfl, push_on h3, by rw [add1 _ h4 (by omega) (by omega)]; rfl⟩))
    · omega
  · subst h2 h3
    rcases hR with ⟨q, rfl, rfl, rfl, rfl, rfl, rfl⟩ | ⟨q, -, q', rfl, rfl, rfl, rfl, rfl, rfl⟩
    · exact Or.inr (Or.inr (Or.inr ⟨h1, hr, fun a => by
        by_cases w : d0.toInt < d1x.toInt
        · exact absurd ⟨a, Int.le_refl _, w⟩ q
        · omega, rfl, rfl, rfl, rfl, push_tw h4, by rw [add1 _ h5 (by omega) (by omega)]; rfl⟩))
    · exact Or.inr (Or.inl ⟨h1, Or.inr ⟨hr, q, q'⟩, rfl, rfl, hm, h4, h5⟩)
/-- what next asks -/
def NP (sz : Nat → Int32) (KF : Nat → Nat → Int64) (JF : Nat → Nat → Int32) (sn mk m0 m1 : Int32) (d0 d1 k : Int64) (i mo : Int32) (k' : Int64) (i' : Int32) : Prop :=
  sn.toInt = 0 ∨ (sn.toInt = 1 + mo.toInt ∧ QT sz KF JF k i mo k' i' ∧ ((i.toInt = 0 ∧ m0 = mk ∧ d0 = k) ∨ (i.toInt = 1 ∧ m1 = mk ∧ d1 = k)) ∧ 0 ≤ k.toInt ∧ k.toInt < 4611686018427387904 ∧ 0 ≤ mo.toInt ∧ mo.toInt ≤ 1)
/-- which item is the top -/
def Pk (r0 : Int32) (D0 D1 : Int64) (sn : Int32) (k : Int64) (i mo : Int32) (k' : Int64) (i' : Int32) : Prop :=
  sn.toInt = 0 ∨ (sn.toInt = 1 ∧ mo.toInt = 0 ∧ ((i.toInt = 0 ∧ k = D0 ∧ r0.toInt = 1) ∨ (i.toInt = 1 ∧ k = D1 ∧ r0.toInt = 0))) ∨ (sn.toInt = 2 ∧ mo.toInt = 1 ∧ ((i.toInt = 0 ∧ k = D0 ∧ i'.toInt = 1 ∧ k' = D1 ∧ D0.toInt < D1.toInt) ∨ (i.toInt = 1 ∧ k = D1 ∧ i'.toInt = 0 ∧ k' = D0 ∧ D1.toInt ≤ D0.toInt)))
theorem St1.np (h : St1 r0 r1 en mk m0 m1 d0 d1 D0 D1 sz KF JF sn) (hD : 0 ≤ D0.toInt ∧ D0.toInt < 2305843009213693952 ∧ 0 ≤ D1.toInt ∧ D1.toInt < 2305843009213693952) : ∃ (k : Int64) (i mo : Int32) (k' : Int64) (i' : Int32), NP sz KF JF sn mk m0 m1 d0 d1 k i mo k' i' ∧ Pk r0 D0 D1 sn k i mo k' i' := by
  rcases h with ⟨-, -, -, -, h⟩ | ⟨hr, -, h1, h2, -, h3, h4⟩ | ⟨hr, -, -, h1, h2, h3, h4⟩ | ⟨-, -, -, h1, h2, h3, h4, h5, h6⟩
  · exact ⟨0, 0, 0, 0, 0, Or.inl h, Or.inl h⟩
  · exact ⟨D0, 0, 0, 0, 0, Or.inr ⟨h4, Or.inl ⟨rfl, _, h3⟩, Or.inl ⟨rfl, h1, h2⟩, by omega, by omega, by decide, by decide⟩, Or.inr (Or.inl ⟨h4, rfl, Or.inl ⟨rfl, rfl, hr⟩⟩)⟩
  · exact ⟨D1, 1, 0, 0, 0, Or.inr ⟨h4, Or.inl ⟨rfl, _, h3⟩, Or.inr ⟨rfl, h1, h2⟩, by omega, by omega, by decide, by decide⟩, Or.inr (Or.inl ⟨h4, rfl, Or.inr ⟨rfl, rfl, hr⟩⟩)⟩
  · by_cases q : D0.toInt < D1.toInt
    · exact ⟨D0, 0, 1, D1, 1, Or.inr ⟨h6, Or.inr ⟨rfl, by omega, by omega, _, Or.inl ⟨h5, q⟩⟩, Or.inl ⟨rfl, h1, h2⟩, by omega, by omega, by decide, by decide⟩, Or.inr (Or.inr ⟨h6, rfl, Or.inl ⟨rfl, rfl, rfl, rfl, q⟩⟩)⟩
    · exact ⟨D1, 1, 1, D0, 0, Or.inr ⟨h6, Or.inr ⟨rfl, by omega, by omega, _, Or.inr ⟨h5, by omega⟩⟩, Or.inr ⟨rfl, h3, h4⟩, by omega, by omega, by decide, by decide⟩, Or.inr (Or.inr ⟨h6, rfl, Or.inr ⟨rfl, rfl, rfl, rfl, by omega⟩⟩)⟩
/-- what next does -/
def Nx (mk en sc sl : Int32) (lm : Int64) (m0 m1 s0 s1 sn : Int32) (k : Int64) (i mo : Int32) (k' : Int64) (i' sc' sl' : Int32) (lm' : Int64) (m0' m1' s0' s1' sn' : Int32) (szx : Nat → Int32) (KFx : Nat → Nat → Int64) (JFx : Nat → Nat → Int32) : Prop :=
  (sc' = sc ∧ sl' = sl ∧ lm' = lm ∧ m0' = m0 ∧ m1' = m1 ∧ s0' = s0 ∧ s1' = s1 ∧ ((sn.toInt = 0 ∧ sn'.toInt = 0) ∨ (0 < sn.toInt ∧ lm.toInt ≤ k.toInt))) ∨
  (0 < sn.toInt ∧ k.toInt < lm.toInt ∧ sc'.toInt = sc.toInt + 1 ∧ ((i.toInt = 0 ∧ m0'.toInt = mk.toInt + 1 ∧ m1' = m1) ∨ (i.toInt = 1 ∧ m1'.toInt = mk.toInt + 1 ∧ m0' = m0)) ∧ ((sc.toInt = 0 ∧ s0' = i ∧ s1' = s1) ∨ (sc.toInt = 1 ∧ s1' = i ∧ s0' = s0)) ∧
    ((i.toInt = en.toInt ∧ lm'.toInt = k.toInt + 1 ∧ sl' = sl) ∨ (¬ i.toInt = en.toInt ∧ sl.toInt = 0 ∧ lm' = lm ∧ sl' = sl) ∨ (¬ i.toInt = en.toInt ∧ 0 < sl.toInt ∧ sl'.toInt = sl.toInt - 1 ∧ ((sl'.toInt = 0 ∧ lm'.toInt = k.toInt + 1) ∨ (¬ sl'.toInt = 0 ∧ lm' = lm)))) ∧
    sn'.toInt = sn.toInt - 1 ∧ (mo.toInt = 1 → ∃ bb, On szx KFx JFx bb k' i'))
theorem Nx.np (h : St1 r0 r1 en mk m0 m1 d0 d1 D0 D1 sz KF JF sn) (hD : 0 ≤ D0.toInt ∧ D0.toInt < 2305843009213693952 ∧ 0 ≤ D1.toInt ∧ D1.toInt < 2305843009213693952) (hP : Pk r0 D0 D1 sn k i mo k' i') (hl : lm.toInt = 9223372036854775807) (hN : Nx mk en sc sl lm m0 m1 s0 s1 sn k i mo k' i' sc' sl' lm' m0' m1' s0' s1' sn' szx KFx JFx) : NP szx KFx JFx sn' mk m0' m1' d0 d1 k' i' (0 : Int32) k' i' := by
  rcases hN with ⟨-, -, -, -, -, -, -, ⟨-, h1⟩ | ⟨h1, h2⟩⟩ | ⟨h1, h2, -, h3, -, -, h4, h5⟩
  · exact Or.inl h1
  · rcases hP with h3 | ⟨-, -, ⟨-, rfl, -⟩ | ⟨-, rfl, -⟩⟩ | ⟨-, -, ⟨-, rfl, -⟩ | ⟨-, rfl, -⟩⟩ <;> omega
  · rcases hP with h6 | ⟨h6, -⟩ | ⟨h6, h7, h8⟩
    · omega
    · exact Or.inl (by omega)
    · rcases h with ⟨-, -, -, -, q⟩ | ⟨-, -, -, -, -, -, q⟩ | ⟨-, -, -, -, -, -, q⟩ | ⟨-, -, -, q1, q2, q3, q4, -, -⟩
      · omega
      · omega
      · omega
      · rcases h8 with ⟨a1, a2, a3, a4, -⟩ | ⟨a1, a2, a3, a4, -⟩
        · rcases h3 with ⟨-, -, e⟩ | ⟨e, -⟩
          · exact Or.inr ⟨by rw [h4, h6]; rfl, Or.inl ⟨rfl, h5 h7⟩, Or.inr ⟨a3, e.trans q3, q4.trans a4.symm⟩, by rw [a4]; omega, by rw [a4]; omega, by decide, by decide⟩
          · omega
        · rcases h3 with ⟨e, -⟩ | ⟨-, -, e⟩
          · omega
          · exact Or.inr ⟨by rw [h4, h6]; rfl, Or.inl ⟨rfl, h5 h7⟩, Or.inl ⟨a3, e.trans q1, q2.trans a4.symm⟩, by rw [a4]; omega, by rw [a4]; omega, by decide, by decide⟩
theorem St1.le (h : St1 r0 r1 en mk m0 m1 d0 d1 D0 D1 sz KF JF sn) : m0.toInt ≤ mk.toInt ∧ m1.toInt ≤ mk.toInt := by
  rcases h with ⟨-, -, h1, h2, -⟩ | ⟨-, -, h1, -, h2, -⟩ | ⟨-, -, h1, h2, -⟩ | ⟨-, -, -, h1, -, h2, -⟩
  · omega
  · subst h1; omega
  · subst h2; omega
  · subst h1 h2; omega
theorem NP.low (h : NP sz KF JF sn mk m0 m1 d0 d1 k i mo k' i') : 0 ≤ sn.toInt := by
  rcases h with h | ⟨h, -, -, -, -, h', -⟩ <;> omega
theorem Nx.le (h : Nx mk en sc sl lm m0 m1 s0 s1 sn k i mo k' i' sc' sl' lm' m0' m1' s0' s1' sn' szx KFx JFx) (q : m0.toInt ≤ mk.toInt + 1 ∧ m1.toInt ≤ mk.toInt + 1) : m0'.toInt ≤ mk.toInt + 1 ∧ m1'.toInt ≤ mk.toInt + 1 := by
  rcases h with ⟨-, -, -, rfl, rfl, -⟩ | ⟨-, -, -, ⟨-, h, rfl⟩ | ⟨-, h, rfl⟩, -⟩ <;> omega
theorem Nx.bd (h : Nx mk en sc sl lm m0 m1 s0 s1 sn k i mo k' i' sc' sl' lm' m0' m1' s0' s1' sn' szx KFx JFx) (q : sc.toInt = 0) (q' : 0 ≤ sl.toInt ∧ sl.toInt ≤ 2) : (sc'.toInt = 0 ∨ sc'.toInt = 1) ∧ 0 ≤ sl'.toInt ∧ sl'.toInt ≤ 2 := by
  rcases h with ⟨rfl, rfl, -⟩ | ⟨-, -, h, -, -, ⟨-, -, rfl⟩ | ⟨-, -, -, rfl⟩ | ⟨-, h1, h2, -⟩, -⟩ <;> omega
theorem Nx.src (h : Nx mk en sc sl lm m0 m1 s0 s1 sn k i mo k' i' sc' sl' lm' m0' m1' s0' s1' sn' szx KFx JFx) (q : 0 < sl'.toInt) : 0 < sl.toInt := by
  rcases h with ⟨-, rfl, -⟩ | ⟨-, -, -, -, -, ⟨-, -, rfl⟩ | ⟨-, -, -, rfl⟩ | ⟨-, h1, h2, -⟩, -⟩ <;> omega
/-- the sources are reached -/
def Rch (en ts sl mk m0 m1 : Int32) : Prop := (ts.toInt = 1 ∧ sl.toInt = 0) ∨ (ts.toInt = 0 ∧ en.toInt = 0 ∧ m0.toInt = mk.toInt + 1) ∨ (ts.toInt = 0 ∧ en.toInt = 1 ∧ m1.toInt = mk.toInt + 1)
/-- .. as the law says it -/
def RE (go r0 r1 en ts : Int32) : Prop := go.toInt = 1 ∧ ((ts.toInt = 0 ∧ en.toInt = 0 ∧ r0.toInt = 1) ∨ (ts.toInt = 0 ∧ en.toInt = 1 ∧ r1.toInt = 1) ∨ (ts.toInt = 1 ∧ r0.toInt = 1 ∧ r1.toInt = 1))
def LI (L : Int) (en ts : Int32) (D0 D1 : Int64) : Prop := (ts.toInt = 0 ∧ en.toInt = 0 ∧ L = D0.toInt + 1) ∨ (ts.toInt = 0 ∧ en.toInt = 1 ∧ L = D1.toInt + 1) ∨ (ts.toInt = 1 ∧ ((D1.toInt ≤ D0.toInt ∧ L = D0.toInt + 1) ∨ (D0.toInt < D1.toInt ∧ L = D1.toInt + 1)))
/-- the nodes settled -/
def Sd (sc s0 s1 : Int32) : Prop := (sc.toInt = 1 ∧ (s0.toInt = 0 ∨ s0.toInt = 1)) ∨ (sc.toInt = 2 ∧ ((s0.toInt = 0 ∧ s1.toInt = 1) ∨ (s0.toInt = 1 ∧ s1.toInt = 0)))
def Has (sc s0 s1 : Int32) (n : Int) : Prop := (sc.toInt = 1 ∧ s0.toInt = n) ∨ sc.toInt = 2
/-- behind next -/
def Gs (go r0 r1 en ts sl mk sc m0 m1 s0 s1 : Int32) (lm d0 d1 D0 D1 : Int64) : Prop :=
  (¬ RE go r0 r1 en ts ∧ ¬ Rch en ts sl mk m0 m1) ∨ (RE go r0 r1 en ts ∧ Rch en ts sl mk m0 m1 ∧ LI lm.toInt en ts D0 D1 ∧ Sd sc s0 s1 ∧ (Has sc s0 s1 0 → r0.toInt = 1 ∧ D0.toInt < lm.toInt ∧ d0.toInt = D0.toInt) ∧ (¬ Has sc s0 s1 0 → ¬ (r0.toInt = 1 ∧ D0.toInt < lm.toInt)) ∧ (Has sc s0 s1 1 → r1.toInt = 1 ∧ D1.toInt < lm.toInt ∧ d1.toInt = D1.toInt) ∧ (¬ Has sc s0 s1 1 → ¬ (r1.toInt = 1 ∧ D1.toInt < lm.toInt)))
/-- the search's kind -/
def Md (en ts sl : Int32) : Prop := (ts.toInt = 0 ∧ (en.toInt = 0 ∨ en.toInt = 1) ∧ sl.toInt = 0) ∨ (ts.toInt = 1 ∧ en.toInt = -1 ∧ sl.toInt = 2)
theorem kd1 {cn u u' : Int32} (hf : (cn.toInt = 1 ∧ en.toInt = u.toInt ∧ ts.toInt = 0) ∨ (cn.toInt = 2 ∧ ts.toInt = 1)) (hc : (cn.toInt = 1 ∧ (u.toInt = 0 ∨ u.toInt = 1)) ∨ (cn.toInt = 2 ∧ ((u.toInt = 0 ∧ u'.toInt = 1) ∨ (u.toInt = 1 ∧ u'.toInt = 0)))) (h : cn.toInt = 1) : ts.toInt = 0 ∧ en.toInt = u.toInt := by omega
theorem kd2 {cn u : Int32} (hf : (cn.toInt = 1 ∧ en.toInt = u.toInt ∧ ts.toInt = 0) ∨ (cn.toInt = 2 ∧ ts.toInt = 1)) (h : ¬ cn.toInt = 1) : ts.toInt = 1 := by omega
theorem kd3 {cn u u' : Int32} (hc : (cn.toInt = 1 ∧ (u.toInt = 0 ∨ u.toInt = 1)) ∨ (cn.toInt = 2 ∧ ((u.toInt = 0 ∧ u'.toInt = 1) ∨ (u.toInt = 1 ∧ u'.toInt = 0)))) : u.toInt = 0 ∨ u.toInt = 1 := by omega
theorem re1 {u k : Int32} (hA : ts.toInt = 0 ∧ en.toInt = u.toInt) (hp : (u.toInt = 0 ∧ k.toInt = r0.toInt) ∨ (u.toInt = 1 ∧ k.toInt = r1.toInt)) (hj : (j.toInt = 1 ∧ go.toInt = 1 ∧ k.toInt = 1) ∨ (j.toInt = 0 ∧ ¬ (go.toInt = 1 ∧ k.toInt = 1))) : (j.toInt = 1 ∧ RE go r0 r1 en ts) ∨ (j.toInt = 0 ∧ ¬ RE go r0 r1 en ts) := by
  simp only [RE]; rcases hp with hp | hp <;> rcases hj with hj | hj <;> omega
theorem re2 (hB : ts.toInt = 1) (hj : (j.toInt = 1 ∧ go.toInt = 1 ∧ r0.toInt = 1 ∧ r1.toInt = 1) ∨ (j.toInt = 0 ∧ ¬ (go.toInt = 1 ∧ r0.toInt = 1 ∧ r1.toInt = 1))) : (j.toInt = 1 ∧ RE go r0 r1 en ts) ∨ (j.toInt = 0 ∧ ¬ RE go r0 r1 en ts) := by
  simp only [RE]; rcases hj with hj | hj <;> omega
theorem li1 {u : Int32} {d v : Int64} (hA : ts.toInt = 0 ∧ en.toInt = u.toInt) (hp : (u.toInt = 0 ∧ d.toInt = D0.toInt) ∨ (u.toInt = 1 ∧ d.toInt = D1.toInt)) (hl : v.toInt = d.toInt + 1) : LI v.toInt en ts D0 D1 := by
  rcases hp with hp | hp
  · exact Or.inl ⟨hA.1, by omega, by omega⟩
  · exact Or.inr (Or.inl ⟨hA.1, by omega, by omega⟩)
theorem li2 {d v : Int64} (hB : ts.toInt = 1) (hp : (D1.toInt ≤ D0.toInt ∧ d.toInt = D0.toInt) ∨ (D0.toInt < D1.toInt ∧ d.toInt = D1.toInt)) (hl : v.toInt = d.toInt + 1) : LI v.toInt en ts D0 D1 := by
  rcases hp with hp | hp
  · exact Or.inr (Or.inr ⟨hB, Or.inl ⟨hp.1, by omega⟩⟩)
  · exact Or.inr (Or.inr ⟨hB, Or.inr ⟨hp.1, by omega⟩⟩)
theorem Gs.stay (hM : Md en ts sl) (hg : go.toInt = 0) (h : St1 r0 r1 en mk m0 m1 d0 d1 D0 D1 sz KF JF sn) : Gs go r0 r1 en ts sl mk sc m0 m1 s0 s1 lm d0 d1 D0 D1 := by
  refine Or.inl ⟨fun q => by have := q.1; omega, fun q => ?_⟩
  have e : m0.toInt ≤ mk.toInt ∧ m1.toInt ≤ mk.toInt := by
    rcases h with ⟨-, -, h1, h2, -⟩ | ⟨-, -, h1, -, h2, -⟩ | ⟨-, -, h1, h2, -⟩ | ⟨-, -, -, h1, -, h2, -⟩
    · omega
    · subst h1; omega
    · subst h2; omega
    · subst h1 h2; omega
  rcases hM with ⟨a1, a2, a3⟩ | ⟨a1, a2, a3⟩ <;> rcases q with ⟨q, q'⟩ | ⟨q, q', q''⟩ | ⟨q, q', q''⟩ <;> omega
theorem Gs.move {sc1 sl1 m01 m11 s01 s11 sn1 sc2 sl2 m02 m12 s02 s12 sn2 z : Int32} {lm1 lm2 : Int64} {sz1 sz2 : Nat → Int32} {KF1 KF2 : Nat → Nat → Int64} {JF1 JF2 : Nat → Nat → Int32} (hM : Md en ts sl) (hg : go.toInt = 1) (hmk : 0 ≤ mk.toInt) (hD : 0 ≤ D0.toInt ∧ D0.toInt < 2305843009213693952 ∧ 0 ≤ D1.toInt ∧ D1.toInt < 2305843009213693952) (h : St1 r0 r1 en mk m0 m1 d0 d1 D0 D1 sz KF JF sn) (hP : Pk r0 D0 D1 sn k i mo k' i') (hl : lm.toInt = 9223372036854775807) (hsc : sc.toInt = 0)
    (hN : Nx mk en sc sl lm m0 m1 s0 s1 sn k i mo k' i' sc1 sl1 lm1 m01 m11 s01 s11 sn1 sz1 KF1 JF1) (hN2 : Nx mk en sc1 sl1 lm1 m01 m11 s01 s11 sn1 k' i' z k' i' sc2 sl2 lm2 m02 m12 s02 s12 sn2 sz2 KF2 JF2) : Gs go r0 r1 en ts sl2 mk sc2 m02 m12 s02 s12 lm2 d0 d1 D0 D1 := by
  simp only [Gs, RE, Rch, LI, Sd, Has]
  rcases h with ⟨b1, b2, b3, b4, b5⟩ | ⟨b1, b2, b3, b4, b5, -, b6⟩ | ⟨b1, b2, b3, b4, b5, -, b6⟩ | ⟨b1, b2, b3, b4, b5, b6, b7, -, b8⟩
  · rcases hN with ⟨rfl, rfl, rfl, rfl, rfl, rfl, rfl, ⟨-, c8⟩ | ⟨c8, -⟩⟩ | ⟨c1, -⟩
    · rcases hN2 with ⟨rfl, rfl, rfl, rfl, rfl, rfl, rfl, -⟩ | ⟨c1, -⟩
      · rcases hM with ⟨a1, a2, a3⟩ | ⟨a1, a2, a3⟩ <;> omega
      · omega
    · omega
    · omega
  · subst b3 b4
    rcases hP with h6 | ⟨-, -, ⟨p1, rfl, p3⟩ | ⟨-, -, p3⟩⟩ | ⟨h6, -⟩ <;> try omega
    rcases hN with ⟨-, -, -, -, -, -, -, ⟨c8, -⟩ | ⟨-, c8⟩⟩ | ⟨-, -, c3, ⟨c4, c4', rfl⟩ | ⟨c4, -⟩, ⟨c5, rfl, rfl⟩ | ⟨c5, -⟩, c6, c7, -⟩ <;> try omega
    rcases hN2 with ⟨rfl, rfl, rfl, rfl, rfl, rfl, rfl, -⟩ | ⟨e1, -⟩ <;> try omega
    rcases c6 with ⟨f1, f2, rfl⟩ | ⟨f1, f2, rfl, rfl⟩ | ⟨f1, f2, f3, ⟨f4, f5⟩ | ⟨f4, rfl⟩⟩ <;> rcases hM with ⟨a1, a2, a3⟩ | ⟨a1, a2, a3⟩ <;> omega
  · subst b4 b5
    rcases hP with h6 | ⟨-, -, ⟨-, -, p3⟩ | ⟨p1, rfl, p3⟩⟩ | ⟨h6, -⟩ <;> try omega
    rcases hN with ⟨-, -, -, -, -, -, -, ⟨c8, -⟩ | ⟨-, c8⟩⟩ | ⟨-, -, c3, ⟨c4, -⟩ | ⟨c4, c4', rfl⟩, ⟨c5, rfl, rfl⟩ | ⟨c5, -⟩, c6, c7, -⟩ <;> try omega
    rcases hN2 with ⟨rfl, rfl, rfl, rfl, rfl, rfl, rfl, -⟩ | ⟨e1, -⟩ <;> try omega
    rcases c6 with ⟨f1, f2, rfl⟩ | ⟨f1, f2, rfl, rfl⟩ | ⟨f1, f2, f3, ⟨f4, f5⟩ | ⟨f4, rfl⟩⟩ <;> rcases hM with ⟨a1, a2, a3⟩ | ⟨a1, a2, a3⟩ <;> omega
  · subst b4 b5 b6 b7
    rcases hP with h6 | ⟨h6, -⟩ | ⟨-, -, ⟨p1, rfl, p3, rfl, p5⟩ | ⟨p1, rfl, p3, rfl, p5⟩⟩ <;> try omega
    · rcases hN with ⟨-, -, -, -, -, -, -, ⟨c8, -⟩ | ⟨-, c8⟩⟩ | ⟨-, -, c3, ⟨c4, c4', rfl⟩ | ⟨c4, -⟩, ⟨c5, rfl, rfl⟩ | ⟨c5, -⟩, c6, c7, -⟩ <;> try omega
      rcases hN2 with ⟨rfl, rfl, rfl, rfl, rfl, rfl, rfl, ⟨e1, -⟩ | ⟨-, e1⟩⟩ | ⟨-, e1, e3, ⟨e4, -⟩ | ⟨e4, e4', rfl⟩, ⟨e5, -⟩ | ⟨e5, rfl, rfl⟩, e6, -⟩ <;> try omega
      · rcases c6 with ⟨f1, f2, rfl⟩ | ⟨f1, f2, rfl, rfl⟩ | ⟨f1, f2, f3, ⟨f4, f5⟩ | ⟨f4, rfl⟩⟩ <;> rcases hM with ⟨a1, a2, a3⟩ | ⟨a1, a2, a3⟩ <;> omega
      · rcases c6 with ⟨f1, f2, rfl⟩ | ⟨f1, f2, rfl, rfl⟩ | ⟨f1, f2, f3, ⟨f4, f5⟩ | ⟨f4, rfl⟩⟩ <;> rcases hM with ⟨a1, a2, a3⟩ | ⟨a1, a2, a3⟩ <;> try omega
        all_goals rcases e6 with ⟨g1, g2, rfl⟩ | ⟨g1, g2, rfl, rfl⟩ | ⟨g1, g2, g3, ⟨g4, g5⟩ | ⟨g4, rfl⟩⟩ <;> omega
    · rcases hN with ⟨-, -, -, -, -, -, -, ⟨c8, -⟩ | ⟨-, c8⟩⟩ | ⟨-, -, c3, ⟨c4, -⟩ | ⟨c4, c4', rfl⟩, ⟨c5, rfl, rfl⟩ | ⟨c5, -⟩, c6, c7, -⟩ <;> try omega
      rcases hN2 with ⟨rfl, rfl, rfl, rfl, rfl, rfl, rfl, ⟨e1, -⟩ | ⟨-, e1⟩⟩ | ⟨-, e1, e3, ⟨e4, e4', rfl⟩ | ⟨e4, -⟩, ⟨e5, -⟩ | ⟨e5, rfl, rfl⟩, e6, -⟩ <;> try omega
      · rcases c6 with ⟨f1, f2, rfl⟩ | ⟨f1, f2, rfl, rfl⟩ | ⟨f1, f2, f3, ⟨f4, f5⟩ | ⟨f4, rfl⟩⟩ <;> rcases hM with ⟨a1, a2, a3⟩ | ⟨a1, a2, a3⟩ <;> omega
      · rcases c6 with ⟨f1, f2, rfl⟩ | ⟨f1, f2, rfl, rfl⟩ | ⟨f1, f2, f3, ⟨f4, f5⟩ | ⟨f4, rfl⟩⟩ <;> rcases hM with ⟨a1, a2, a3⟩ | ⟨a1, a2, a3⟩ <;> try omega
        all_goals rcases e6 with ⟨g1, g2, rfl⟩ | ⟨g1, g2, rfl, rfl⟩ | ⟨g1, g2, g3, ⟨g4, g5⟩ | ⟨g4, rfl⟩⟩ <;> omega
/-- what finishBack does -/
def Fb (en ts sl mk sc m0 m1 s0 s1 : Int32) (lm d0 d1 p0 p1 : Int64) (rr : Int32) (p0x p1x : Int64) : Prop :=
  (rr.toInt = 0 ∧ ¬ Rch en ts sl mk m0 m1 ∧ p0x = p0 ∧ p1x = p1) ∨ (rr.toInt = 1 ∧ Rch en ts sl mk m0 m1 ∧ ((Has sc s0 s1 0 ∧ p0x = p0 - d0) ∨ (¬ Has sc s0 s1 0 ∧ p0x = p0 - lm)) ∧ ((Has sc s0 s1 1 ∧ p1x = p1 - d1) ∨ (¬ Has sc s0 s1 1 ∧ p1x = p1 - lm)))
theorem Fb.one {A B : Int64} (hr : rr.toInt = 1) (hR : Rch en ts sl mk m0 m1) (hs : sc.toInt = 1) (h : (s0.toInt = 0 ∧ A = p0 - lm + (lm - d0) ∧ B = p1 - lm) ∨ (s0.toInt = 1 ∧ B = p1 - lm + (lm - d1) ∧ A = p0 - lm)) : Fb en ts sl mk sc m0 m1 s0 s1 lm d0 d1 p0 p1 rr A B := by
  rcases h with ⟨h1, h2, h3⟩ | ⟨h1, h2, h3⟩
  · exact Or.inr ⟨hr, hR, Or.inl ⟨Or.inl ⟨hs, h1⟩, h2.trans (fin_J _ _ _)⟩, Or.inr ⟨by simp only [Has]; omega, h3⟩⟩
  · exact Or.inr ⟨hr, hR, Or.inr ⟨by simp only [Has]; omega, h3⟩, Or.inl ⟨Or.inl ⟨hs, h1⟩, h2.trans (fin_J _ _ _)⟩⟩
theorem Fb.two {A B A' B' : Int64} (hr : rr.toInt = 1) (hR : Rch en ts sl mk m0 m1) (hs : sc.toInt = 2) (hS : (s0.toInt = 0 ∧ s1.toInt = 1) ∨ (s0.toInt = 1 ∧ s1.toInt = 0)) (h : (s0.toInt = 0 ∧ A = p0 - lm + (lm - d0) ∧ B = p1 - lm) ∨ (s0.toInt = 1 ∧ B = p1 - lm + (lm - d1) ∧ A = p0 - lm)) (h' : (s1.toInt = 0 ∧ A' = A + (lm - d0) ∧ B' = B) ∨ (s1.toInt = 1 ∧ B' = B + (lm - d1) ∧ A' = A)) : Fb en ts sl mk sc m0 m1 s0 s1 lm d0 d1 p0 p1 rr A' B' := by
  rcases h with ⟨h1, h2, h3⟩ | ⟨h1, h2, h3⟩ <;> rcases h' with ⟨g1, g2, g3⟩ | ⟨g1, g2, g3⟩
  · omega
  · exact Or.inr ⟨hr, hR, Or.inl ⟨Or.inr hs, by rw [g3, h2]; exact fin_J _ _ _⟩, Or.inl ⟨Or.inr hs, by rw [g2, h3]; exact fin_J _ _ _⟩⟩
  · exact Or.inr ⟨hr, hR, Or.inl ⟨Or.inr hs, by rw [g2, h3]; exact fin_J _ _ _⟩, Or.inl ⟨Or.inr hs, by rw [g3, h2]; exact fin_J _ _ _⟩⟩
  · omega
theorem fin2 {A B l e0 e1 : Int64} (hi : i.toInt = 0 ∨ i.toInt = 1) : ∃ A' B' : Int64, ((i.toInt = 0 ∧ A' = A + (l - e0) ∧ B' = B) ∨ (i.toInt = 1 ∧ B' = B + (l - e1) ∧ A' = A)) ∧ updF (lst [A, B]) i.toInt.toNat ((lst [A, B]) i.toInt.toNat + (l - (lst [e0, e1]) i.toInt.toNat)) = lst [A', B'] := by
  rcases hi with h | h
  · exact ⟨A + (l - e0), B, Or.inl ⟨h, rfl, rfl⟩, by rw [h]; exact upd_lst [A, B] 0 _ (show 0 < 2 by decide)⟩
  · exact ⟨A, B + (l - e1), Or.inr ⟨h, rfl, rfl⟩, by rw [h]; exact upd_lst [A, B] 1 _ (show 1 < 2 by decide)⟩
theorem Gs.sd (h : Gs go r0 r1 en ts sl mk sc m0 m1 s0 s1 lm d0 d1 D0 D1) (q : Rch en ts sl mk m0 m1) : Sd sc s0 s1 := by
  rcases h with ⟨-, h⟩ | ⟨-, -, -, h, -⟩
  · exact absurd q h
  · exact h
theorem Gs.got (h : Gs go r0 r1 en ts sl mk sc m0 m1 s0 s1 lm d0 d1 D0 D1) (hF : Fb en ts sl mk sc m0 m1 s0 s1 lm d0 d1 p0 p1 rr p0x p1x) (hj : (j.toInt = 1 ∧ RE go r0 r1 en ts) ∨ (j.toInt = 0 ∧ ¬ RE go r0 r1 en ts)) : rr.toInt = j.toInt := by
  rcases h with ⟨h1, h2⟩ | ⟨h1, h2, -⟩ <;> rcases hF with ⟨f1, f2, -⟩ | ⟨f1, f2, -⟩ <;> rcases hj with ⟨j1, j2⟩ | ⟨j1, j2⟩ <;> first | exact absurd f2 h2 | exact absurd h2 f2 | exact absurd j2 h1 | exact absurd h1 j2 | omega
theorem LI.un {L L' : Int} (h : LI L en ts D0 D1) (h' : LI L' en ts D0 D1) : L = L' := by
  simp only [LI] at h h'; omega
theorem Gs.same (hF : Fb en ts sl mk sc m0 m1 s0 s1 lm d0 d1 p0 p1 rr p0x p1x) (hr : rr.toInt = 0) : p0x = p0 ∧ p1x = p1 := by
  rcases hF with ⟨-, -, f⟩ | ⟨f, -⟩
  · exact f
  · omega
theorem Gs.pot0 {x : Int64} (h : Gs go r0 r1 en ts sl mk sc m0 m1 s0 s1 lm d0 d1 D0 D1) (hF : Fb en ts sl mk sc m0 m1 s0 s1 lm d0 d1 p0 p1 rr p0x p1x) (hr : rr.toInt = 1) (hl : LI lim.toInt en ts D0 D1) (hx : (r0.toInt = 1 ∧ D0.toInt < lim.toInt ∧ x = p0 - D0) ∨ (¬ (r0.toInt = 1 ∧ D0.toInt < lim.toInt) ∧ x = p0 - lim)) : p0x = x := by
  rcases hF with ⟨f, -⟩ | ⟨-, f, g, -⟩
  · omega
  · rcases h with ⟨-, h⟩ | ⟨-, -, h1, -, h2, h3, -⟩
    · exact absurd f h
    · have e : lm = lim := Int64.toInt_inj.mp (h1.un hl)
      subst e
      rcases g with ⟨g, g'⟩ | ⟨g, g'⟩
      · obtain ⟨a, b, c⟩ := h2 g
        rcases hx with ⟨-, -, hx⟩ | ⟨hx, -⟩
        · rw [g', hx, Int64.toInt_inj.mp c]
        · exact absurd ⟨a, b⟩ hx
      · rcases hx with ⟨a, b, -⟩ | ⟨-, hx⟩
        · exact absurd ⟨a, b⟩ (h3 g)
        · rw [g', hx]
theorem Gs.pot1 {x : Int64} (h : Gs go r0 r1 en ts sl mk sc m0 m1 s0 s1 lm d0 d1 D0 D1) (hF : Fb en ts sl mk sc m0 m1 s0 s1 lm d0 d1 p0 p1 rr p0x p1x) (hr : rr.toInt = 1) (hl : LI lim.toInt en ts D0 D1) (hx : (r1.toInt = 1 ∧ D1.toInt < lim.toInt ∧ x = p1 - D1) ∨ (¬ (r1.toInt = 1 ∧ D1.toInt < lim.toInt) ∧ x = p1 - lim)) : p1x = x := by
  rcases hF with ⟨f, -⟩ | ⟨-, f, -, g⟩
  · omega
  · rcases h with ⟨-, h⟩ | ⟨-, -, h1, -, -, -, h2, h3⟩
    · exact absurd f h
    · have e : lm = lim := Int64.toInt_inj.mp (h1.un hl)
      subst e
      rcases g with ⟨g, g'⟩ | ⟨g, g'⟩
      · obtain ⟨a, b, c⟩ := h2 g
        rcases hx with ⟨-, -, hx⟩ | ⟨hx, -⟩
        · rw [g', hx, Int64.toInt_inj.mp c]
        · exact absurd ⟨a, b⟩ hx
      · rcases hx with ⟨a, b, -⟩ | ⟨-, hx⟩
        · exact absurd ⟨a, b⟩ (h3 g)
        · rw [g', hx]
end Runs
end Jvm.OwnGo
namespace Jvm.OwnGo
open Jvm Jvm.ClassFile Sem Op Lib Jvm.Free Jvm.Stand Jvm.LawKit Jvm.RoadKit
def PFs (Z : State) (h : Heap) (ps po : Addr) (mk : Int32) (di ma se : Addr) (sc : Int32) (q : Addr) (st lm : Int64) (en ts sl : Int32) (sv : Value) : Prop := (Exa Z h ps cP) ∧ (Fld Z h ps cP "potential" "[J" (.ref po)) ∧ (Fld Z h ps cP "mark" "I" (.int mk)) ∧ (Fld Z h ps cP "distance" "[J" (.ref di)) ∧ (Fld Z h ps cP "marks" "[I" (.ref ma)) ∧ (Fld Z h ps cP "settled" "[I" (.ref se)) ∧ (Fld Z h ps cP "settledCount" "I" (.int sc)) ∧ (Fld Z h ps cP "queue" "Lcom/example/rackwise/rackwise/RadixHeap;" (.ref q)) ∧ (Fld Z h ps cP "readyCount" "I" (.int (0 : Int32))) ∧ (Fld Z h ps cP "settling" "J" (.long st)) ∧ (Fld Z h ps cP "limit" "J" (.long lm)) ∧ (Fld Z h ps cP "end" "I" (.int en)) ∧ (Fld Z h ps cP "toSources" "Z" (.int ts)) ∧ (Fld Z h ps cP "sourcesLeft" "I" (.int sl)) ∧ (Fld Z h ps cP "sourceIn" "[I" sv)
def QF (Z : State) (h : Heap) (q ks js ss : Addr) (kf jf : Nat → Addr) (sz : Nat → Int32) (KF : Nat → Nat → Int64) (JF : Nat → Nat → Int32) (sn : Int32) (la : Int64) : Prop := (Exa Z h q cR) ∧ (Fld Z h q cR "keys" "[[J" (.ref ks)) ∧ (Fld Z h q cR "ids" "[[I" (.ref js)) ∧ (Fld Z h q cR "sizes" "[I" (.ref ss)) ∧ (Fld Z h q cR "size" "I" (.int sn)) ∧ (Fld Z h q cR "last" "J" (.long la)) ∧ (RA Z h ks .long kf) ∧ (RA Z h js .int jf) ∧ (Vec Z h ss .int (65 : Int32) (ints sz)) ∧ (RwJ Z h kf KF) ∧ (RwI Z h jf JF)
theorem PFs.ext {Z : State} {h h' : Heap} {ps po : Addr} {mk : Int32} {di ma se : Addr} {sc : Int32} {q : Addr} {st lm : Int64} {en ts sl : Int32} {sv : Value} (E : Ext h h') (F : PFs Z h ps po mk di ma se sc q st lm en ts sl sv) : PFs Z h' ps po mk di ma se sc q st lm en ts sl sv := by
  obtain ⟨c0, c1, c2, c3, c4, c5, c6, c7, c8, c9, c10, c11, c12, c13, c14⟩ := F
  exact ⟨c0.ext E, c1.ext E, c2.ext E, c3.ext E, c4.ext E, c5.ext E, c6.ext E, c7.ext E, c8.ext E, c9.ext E, c10.ext E, c11.ext E, c12.ext E, c13.ext E, c14.ext E⟩
theorem PFs.other {Z : State} {h h' : Heap} {o : Addr} {sl' : Nat} {v : Value} {ps po : Addr} {mk : Int32} {di ma se : Addr} {sc : Int32} {q : Addr} {st lm : Int64} {en ts sl : Int32} {sv : Value} (W : Wr h h' o sl' v) (F : PFs Z h ps po mk di ma se sc q st lm en ts sl sv) (q' : ps ≠ o) : PFs Z h' ps po mk di ma se sc q st lm en ts sl sv := by
  obtain ⟨c0, c1, c2, c3, c4, c5, c6, c7, c8, c9, c10, c11, c12, c13, c14⟩ := F
  exact ⟨c0.wr W, c1.other W (Or.inl q'), c2.other W (Or.inl q'), c3.other W (Or.inl q'), c4.other W (Or.inl q'), c5.other W (Or.inl q'), c6.other W (Or.inl q'), c7.other W (Or.inl q'), c8.other W (Or.inl q'), c9.other W (Or.inl q'), c10.other W (Or.inl q'), c11.other W (Or.inl q'), c12.other W (Or.inl q'), c13.other W (Or.inl q'), c14.other W (Or.inl q')⟩
theorem PFs.keep {Z : State} {h h' : Heap} {ws : List Addr} {ps po : Addr} {mk : Int32} {di ma se : Addr} {sc : Int32} {q : Addr} {st lm : Int64} {en ts sl : Int32} {sv : Value} (F : PFs Z h ps po mk di ma se sc q st lm en ts sl sv) (K : Keep h h' ws) (q' : ps ∉ ws) : PFs Z h' ps po mk di ma se sc q st lm en ts sl sv := by
  obtain ⟨c0, c1, c2, c3, c4, c5, c6, c7, c8, c9, c10, c11, c12, c13, c14⟩ := F
  exact ⟨c0.keep K, c1.keep K q', c2.keep K q', c3.keep K q', c4.keep K q', c5.keep K q', c6.keep K q', c7.keep K q', c8.keep K q', c9.keep K q', c10.keep K q', c11.keep K q', c12.keep K q', c13.keep K q', c14.keep K q'⟩
theorem QF.ext {Z : State} {h h' : Heap} {q ks js ss : Addr} {kf jf : Nat → Addr} {sz : Nat → Int32} {KF : Nat → Nat → Int64} {JF : Nat → Nat → Int32} {sn : Int32} {la : Int64} (E : Ext h h') (F : QF Z h q ks js ss kf jf sz KF JF sn la) : QF Z h' q ks js ss kf jf sz KF JF sn la := by
  obtain ⟨c0, c1, c2, c3, c4, c5, c6, c7, c8, c9, c10⟩ := F
  exact ⟨c0.ext E, c1.ext E, c2.ext E, c3.ext E, c4.ext E, c5.ext E, c6.ext E, c7.ext E, c8.ext E, c9.ext E, c10.ext E⟩
theorem QF.other {Z : State} {h h' : Heap} {o : Addr} {sl' : Nat} {v : Value} {q ks js ss : Addr} {kf jf : Nat → Addr} {sz : Nat → Int32} {KF : Nat → Nat → Int64} {JF : Nat → Nat → Int32} {sn : Int32} {la : Int64} (W : Wr h h' o sl' v) (F : QF Z h q ks js ss kf jf sz KF JF sn la) (n1 : q ≠ o) (n2 : ks ≠ o) (n3 : js ≠ o) (n4 : ss ≠ o) (nr : NR kf jf o) : QF Z h' q ks js ss kf jf sz KF JF sn la := by
  obtain ⟨c0, c1, c2, c3, c4, c5, c6, c7, c8, c9, c10⟩ := F
  exact ⟨c0.wr W, c1.other W (Or.inl n1), c2.other W (Or.inl n1), c3.other W (Or.inl n1), c4.other W (Or.inl n1), c5.other W (Or.inl n1), c6.other W n2, c7.other W n3, c8.other W n4, RwJ.other W c9 (fun b hb => (nr b hb).1), RwI.other W c10 (fun b hb => (nr b hb).2)⟩
def PSt (Z : State) (h : Heap) (ps q ks js ss po di ma se : Addr) (kf jf : Nat → Addr) (mk sc en ts sl : Int32) (st lm p0 p1 d0 d1 : Int64) (m0 m1 s0 s1 : Int32) (sz : Nat → Int32) (KF : Nat → Nat → Int64) (JF : Nat → Nat → Int32) (sn : Int32) (la : Int64) (sv : Value) : Prop := PFs Z h ps po mk di ma se sc q st lm en ts sl sv ∧ (Vec Z h po .long (2 : Int32) (longs (lst [p0, p1]))) ∧ (Vec Z h di .long (2 : Int32) (longs (lst [d0, d1]))) ∧ (Vec Z h ma .int (2 : Int32) (ints (lst [m0, m1]))) ∧ (Vec Z h se .int (2 : Int32) (ints (lst [s0, s1]))) ∧ QF Z h q ks js ss kf jf sz KF JF sn la
def PSs (n0 : Nat) (ps q ks js ss po di ma se : Addr) (kf jf : Nat → Addr) : Prop := List.Nodup [ps, q, ks, js, ss, po, di, ma, se] ∧ Inj kf ∧ Inj jf ∧ (∀ b : Nat, b < 65 → n0 ≤ kf b ∧ n0 ≤ jf b) ∧ NR kf jf ps ∧ NR kf jf q ∧ NR kf jf ks ∧ NR kf jf js ∧ NR kf jf ss ∧ NR kf jf po ∧ NR kf jf di ∧ NR kf jf ma ∧ NR kf jf se ∧ n0 ≤ ps ∧ n0 ≤ q ∧ n0 ≤ ss ∧ n0 ≤ po ∧ n0 ≤ di ∧ n0 ≤ ma ∧ n0 ≤ se
theorem PSt.ext {Z : State} {h h' : Heap} {ps q ks js ss po di ma se : Addr} {kf jf : Nat → Addr} {mk sc en ts sl : Int32} {st lm p0 p1 d0 d1 : Int64} {m0 m1 s0 s1 : Int32} {sz : Nat → Int32} {KF : Nat → Nat → Int64} {JF : Nat → Nat → Int32} {sn : Int32} {la : Int64} {sv : Value} (E : Ext h h') (F : PSt Z h ps q ks js ss po di ma se kf jf mk sc en ts sl st lm p0 p1 d0 d1 m0 m1 s0 s1 sz KF JF sn la sv) : PSt Z h' ps q ks js ss po di ma se kf jf mk sc en ts sl st lm p0 p1 d0 d1 m0 m1 s0 s1 sz KF JF sn la sv := by
  obtain ⟨a, b1, b2, b3, b4, f⟩ := F
  exact ⟨a.ext E, b1.ext E, b2.ext E, b3.ext E, b4.ext E, f.ext E⟩
theorem PSt.other {Z : State} {h h' : Heap} {o : Addr} {sl' : Nat} {v : Value} {ps q ks js ss po di ma se : Addr} {kf jf : Nat → Addr} {mk sc en ts sl : Int32} {st lm p0 p1 d0 d1 : Int64} {m0 m1 s0 s1 : Int32} {sz : Nat → Int32} {KF : Nat → Nat → Int64} {JF : Nat → Nat → Int32} {sn : Int32} {la : Int64} {sv : Value} (W : Wr h h' o sl' v) (F : PSt Z h ps q ks js ss po di ma se kf jf mk sc en ts sl st lm p0 p1 d0 d1 m0 m1 s0 s1 sz KF JF sn la sv) (n : ∀ x ∈ [ps, q, ks, js, ss, po, di, ma, se], x ≠ o) (nr : NR kf jf o) : PSt Z h' ps q ks js ss po di ma se kf jf mk sc en ts sl st lm p0 p1 d0 d1 m0 m1 s0 s1 sz KF JF sn la sv := by
  obtain ⟨a, b1, b2, b3, b4, f⟩ := F
  exact ⟨a.other W (n _ (mq 0 rfl)), b1.other W (n _ (mq 5 rfl)), b2.other W (n _ (mq 6 rfl)), b3.other W (n _ (mq 7 rfl)), b4.other W (n _ (mq 8 rfl)), f.other W (n _ (mq 1 rfl)) (n _ (mq 2 rfl)) (n _ (mq 3 rfl)) (n _ (mq 4 rfl)) nr⟩
theorem PSt.fresh {Z : State} {h : Heap} {x ps q ks js ss po di ma se : Addr} {kf jf : Nat → Addr} {mk sc en ts sl : Int32} {st lm p0 p1 d0 d1 : Int64} {m0 m1 s0 s1 : Int32} {sz : Nat → Int32} {KF : Nat → Nat → Int64} {JF : Nat → Nat → Int32} {sn : Int32} {la : Int64} {sv : Value} (F : PSt Z h ps q ks js ss po di ma se kf jf mk sc en ts sl st lm p0 p1 d0 d1 m0 m1 s0 s1 sz KF JF sn la sv) (g : x = h.size) : ∀ y ∈ [ps, q, ks, js, ss, po, di, ma, se], y ≠ x := by
  obtain ⟨a, b1, b2, b3, b4, f⟩ := F
  have hl : ∀ y ∈ [ps, q, ks, js, ss, po, di, ma, se], y < h.size := allS a.1.lt (allS f.1.lt (allS f.2.2.2.2.2.2.1.lt (allS f.2.2.2.2.2.2.2.1.lt (allS f.2.2.2.2.2.2.2.2.1.lt (allS b1.lt (allS b2.lt (allS b3.lt (allS b4.lt all0))))))))
  intro y hy e
  have q := hl y hy
  rw [e, g] at q
  exact Nat.lt_irrefl _ q
theorem PSt.freshR {Z : State} {h : Heap} {x ps q ks js ss po di ma se : Addr} {kf jf : Nat → Addr} {mk sc en ts sl : Int32} {st lm p0 p1 d0 d1 : Int64} {m0 m1 s0 s1 : Int32} {sz : Nat → Int32} {KF : Nat → Nat → Int64} {JF : Nat → Nat → Int32} {sn : Int32} {la : Int64} {sv : Value} (F : PSt Z h ps q ks js ss po di ma se kf jf mk sc en ts sl st lm p0 p1 d0 d1 m0 m1 s0 s1 sz KF JF sn la sv) (g : x = h.size) : NR kf jf x := by
  obtain ⟨a, b1, b2, b3, b4, f⟩ := F
  exact nr_new f.2.2.2.2.2.2.2.2.2.1 f.2.2.2.2.2.2.2.2.2.2 g
/-- the array of the sources, where there is one -/
def SV (Z : State) (h : Heap) (ps q ks js ss po di ma se : Addr) (kf jf : Nat → Addr) (n0 : Nat) (sv : Value) (u v : Int32) : Prop := (sv = .null ∨ ∃ so, sv = .ref so) ∧ ∀ so, sv = .ref so → Vec Z h so .int (2 : Int32) (ints (lst [u, v])) ∧ so ∉ [ps, q, ks, js, ss, po, di, ma, se] ∧ NR kf jf so ∧ n0 ≤ so
section Svs
variable {Z : State} {h h' : Heap} {o x : Addr} {sl' n0 : Nat} {w sv : Value} {u v : Int32} {ps q ks js ss po di ma se : Addr} {kf jf : Nat → Addr} {ws : List Addr}
theorem SV.ext (E : Ext h h') (F : SV Z h ps q ks js ss po di ma se kf jf n0 sv u v) : SV Z h' ps q ks js ss po di ma se kf jf n0 sv u v := ⟨F.1, fun so q => ⟨(F.2 so q).1.ext E, (F.2 so q).2⟩⟩
theorem SV.other2 (W : Wr h h' o sl' w) (F : SV Z h ps q ks js ss po di ma se kf jf n0 sv u v) (n : ∀ so, sv = .ref so → so ≠ o) : SV Z h' ps q ks js ss po di ma se kf jf n0 sv u v := ⟨F.1, fun so q => ⟨(F.2 so q).1.other W (n so q), (F.2 so q).2⟩⟩
theorem SV.other (W : Wr h h' o sl' w) (F : SV Z h ps q ks js ss po di ma se kf jf n0 sv u v) (m : o ∈ [ps, q, ks, js, ss, po, di, ma, se]) : SV Z h' ps q ks js ss po di ma se kf jf n0 sv u v := F.other2 W (fun so q e => (F.2 so q).2.1 (by rw [e]; exact m))
theorem SV.keep (F : SV Z h ps q ks js ss po di ma se kf jf n0 sv u v) (K : Keep h h' ws) (m : ∀ x ∈ ws, x ∈ [ps, q, ks, js, ss, po, di, ma, se] ∨ x ∈ rowsOf kf jf) : SV Z h' ps q ks js ss po di ma se kf jf n0 sv u v := ⟨F.1, fun so q => ⟨(F.2 so q).1.keep K (fun hx => (m so hx).elim (F.2 so q).2.1 (nin_rows (F.2 so q).2.2.1)), (F.2 so q).2⟩⟩
theorem SV.fresh (F : SV Z h ps q ks js ss po di ma se kf jf n0 sv u v) (g : x = h.size) : ∀ so, sv = .ref so → so ≠ x := fun so q => Nat.ne_of_lt (Nat.lt_of_lt_of_le (F.2 so q).1.lt (Nat.le_of_eq g.symm))
end Svs
theorem two_mk {x y m u0 u1 : Int32} (hu : (u0.toInt = 0 ∧ u1.toInt = 1) ∨ (u0.toInt = 1 ∧ u1.toInt = 0)) : updF (updF (lst [x, y]) u0.toInt.toNat m) u1.toInt.toNat m = lst [m, m] := by
  rcases hu with ⟨a, b⟩ | ⟨a, b⟩
  · rw [a, b]; show updF (updF (lst [x, y]) 0 m) 1 m = _; rw [upd_lst [x, y] 0 m (show 0 < 2 by decide)]; exact upd_lst [m, y] 1 m (show 1 < 2 by decide)
  · rw [a, b]; show updF (updF (lst [x, y]) 1 m) 0 m = _; rw [upd_lst [x, y] 1 m (show 1 < 2 by decide)]; exact upd_lst [x, m] 0 m (show 0 < 2 by decide)
theorem mono2 {l : Launch} {x : MethodName} {ws : List Jvm.Cond} {R R' : Room} {P : Array Value → State → Prop} {K : Program → Env → List Frame → State → Array Value → Prop} {c n c' n' : Nat} (Q : Option Value → Heap → List Loc → Prop) {Q' : Option Value → Heap → List Loc → Prop} (h : MetFree l x (head1 ws R) P K (fun _ U o U' => ∃ v L, o = .returned v ∧ Q v U'.heap L ∧ FrameEnd U o U' L c n)) (hQ : ∀ v h L, Q v h L → Q' v h L) (h1 : R.frames ≤ R'.frames) (h2 : R.locals ≤ R'.locals) (h3 : R.cells ≤ R'.cells) (h4 : R.slots ≤ R'.slots) (hc : c ≤ c') (hn : n ≤ n') :
    MetFree l x (head1 ws R') P K (fun _ U o U' => ∃ v L, o = .returned v ∧ Q' v U'.heap L ∧ FrameEnd U o U' L c' n') := by
  refine MetFree.imp (MetFree.respec (S' := head1 ws R') h (fun _ _ q => q) h1 h2 h3 h4) ?_
  rintro _ U o U' ⟨v, L, e, q, F⟩
  exact ⟨v, L, e, hQ _ _ _ q, F.1, F.2.1, F.2.2.mono hc hn⟩
end Jvm.OwnGo
namespace Jvm.OwnGo
theorem fill_step {g : Nat → Int32} {i i' : Int32} (h : ∀ j : Nat, (j : Int) < i.toInt → g j = 0) (q : i'.toInt = i.toInt + 1) : ∀ j : Nat, (j : Int) < i'.toInt → (updF g i.toInt.toNat (0 : Int32)) j = 0 := fun j hj => by
  by_cases r : j = i.toInt.toNat
  · subst r; exact upd_same _ _ _
  · rw [upd_ne _ _ r]; exact h j (by omega)
end Jvm.OwnGo
namespace Jvm.OwnGo
open Jvm Jvm.ClassFile Sem Op Lib Jvm.Free Jvm.Stand Jvm.LawKit Jvm.RoadKit
section Steps1
variable {p : Program} {l : Launch} {e : Env} {R : Room} {s : State} {m : MethodId} {args : Array Value} {below : List Frame} {meth : Method} {c : Code} {T : State} {locs : List Loc} {cells slots C N : Nat} {Q : Option Value → Heap → List Loc → Prop} {g : JFrame} {cb : ByteArray}
theorem gA (X : Stand p l e R s m args below meth c T locs cells slots) (hx : p.tables.exec = Jvm.exec) (hby : c.code = cb) (hg : g.method = m) {k : Fin 4} {v : Value} (hd : decode cb g.pc = .ok (.aload_n k, 1)) (hl : g.locals[k.val]? = some (.val v)) (hv : v.isRef = true) (k' : Go p e below s Q C N (T.setTop { g with pc := g.pc + 1, stack := v :: g.stack })) : Go p e below s Q C N (T.setTop g) := Go.st (fun _ q => XS.aloadN X.here hx hg (hb hby hd) hl hv q) k'
theorem gB (X : Stand p l e R s m args below meth c T locs cells slots) (hx : p.tables.exec = Jvm.exec) (hby : c.code = cb) (hg : g.method = m) {k : Nat} {v : Value} (hd : decode cb g.pc = .ok (.aload k, 2)) (hl : g.locals[k]? = some (.val v)) (hv : v.isRef = true) (k' : Go p e below s Q C N (T.setTop { g with pc := g.pc + 2, stack := v :: g.stack })) : Go p e below s Q C N (T.setTop g) := Go.st (fun _ q => XS.aload X.here hx hg (hb hby hd) hl hv q) k'
theorem gC (X : Stand p l e R s m args below meth c T locs cells slots) (hx : p.tables.exec = Jvm.exec) (hby : c.code = cb) (hg : g.method = m) {k : Fin 4} {v : Int32} (hd : decode cb g.pc = .ok (.iload_n k, 1)) (hl : g.locals[k.val]? = some (.val (.int v))) (k' : Go p e below s Q C N (T.setTop { g with pc := g.pc + 1, stack := .int v :: g.stack })) : Go p e below s Q C N (T.setTop g) := Go.st (fun _ q => XS.iloadN X.here hx hg (hb hby hd) hl q) k'
theorem gD (X : Stand p l e R s m args below meth c T locs cells slots) (hx : p.tables.exec = Jvm.exec) (hby : c.code = cb) (hg : g.method = m) {k : Nat} {v : Int32} (hd : decode cb g.pc = .ok (.iload k, 2)) (hl : g.locals[k]? = some (.val (.int v))) (k' : Go p e below s Q C N (T.setTop { g with pc := g.pc + 2, stack := .int v :: g.stack })) : Go p e below s Q C N (T.setTop g) := Go.st (fun _ q => XS.iload X.here hx hg (hb hby hd) hl q) k'
theorem gE (X : Stand p l e R s m args below meth c T locs cells slots) (hx : p.tables.exec = Jvm.exec) (hby : c.code = cb) (hg : g.method = m) {k : Fin 4} {v : Int64} (hd : decode cb g.pc = .ok (.lload_n k, 1)) (hl : g.locals[k.val]? = some (.val (.long v))) (k' : Go p e below s Q C N (T.setTop { g with pc := g.pc + 1, stack := .long v :: g.stack })) : Go p e below s Q C N (T.setTop g) := Go.st (fun _ q => XS.lloadN X.here hx hg (hb hby hd) hl q) k'
theorem gF (X : Stand p l e R s m args below meth c T locs cells slots) (hx : p.tables.exec = Jvm.exec) (hby : c.code = cb) (hg : g.method = m) {k : Nat} {v : Int64} (hd : decode cb g.pc = .ok (.lload k, 2)) (hl : g.locals[k]? = some (.val (.long v))) (k' : Go p e below s Q C N (T.setTop { g with pc := g.pc + 2, stack := .long v :: g.stack })) : Go p e below s Q C N (T.setTop g) := Go.st (fun _ q => XS.lload X.here hx hg (hb hby hd) hl q) k'
theorem gI (X : Stand p l e R s m args below meth c T locs cells slots) (hx : p.tables.exec = Jvm.exec) (hby : c.code = cb) (hg : g.method = m) {i : Int} (hd : decode cb g.pc = .ok (.iconst i, 1)) (k' : Go p e below s Q C N (T.setTop { g with pc := g.pc + 1, stack := .int (Int32.ofInt i) :: g.stack })) : Go p e below s Q C N (T.setTop g) := Go.st (fun _ q => XS.iconst X.here hx hg (hb hby hd) q) k'
theorem gG (X : Stand p l e R s m args below meth c T locs cells slots) (hx : p.tables.exec = Jvm.exec) (hby : c.code = cb) (hg : g.method = m) {o : Int} {pc0 pc' : Nat} (hpc : g.pc = pc0) (hd : decode cb g.pc = .ok (.goto o, 3)) (ho : 0 ≤ (pc0 : Int) + o) (hp : ((pc0 : Int) + o).toNat = pc') (k' : Go p e below s Q C N (T.setTop { g with pc := pc' })) : Go p e below s Q C N (T.setTop g) := Go.st (fun _ q => XS.goto X.here hx hg hpc (hb hby hd) ho hp q) k'
theorem gN (X : Stand p l e R s m args below meth c T locs cells slots) (hx : p.tables.exec = Jvm.exec) (hby : c.code = cb) (hg : g.method = m) {cd : ClassFile.Cond} {o : Int} {x : Int32} {rest : List Value} (hd : decode cb g.pc = .ok (.ifCond cd o, 3)) (hs : g.stack = .int x :: rest) (hc : ifCond.holds cd x = false) (k' : Go p e below s Q C N (T.setTop { g with pc := g.pc + 3, stack := rest })) : Go p e below s Q C N (T.setTop g) := Go.st (fun _ q => XS.ifNo X.here hx hg (hb hby hd) hs hc q) k'
theorem gY (X : Stand p l e R s m args below meth c T locs cells slots) (hx : p.tables.exec = Jvm.exec) (hby : c.code = cb) (hg : g.method = m) {cd : ClassFile.Cond} {x : Int32} {rest : List Value} {o : Int} {pc0 pc' : Nat} (hpc : g.pc = pc0) (hd : decode cb g.pc = .ok (.ifCond cd o, 3)) (hs : g.stack = .int x :: rest) (hc : ifCond.holds cd x = true) (ho : 0 ≤ (pc0 : Int) + o) (hp : ((pc0 : Int) + o).toNat = pc') (k' : Go p e below s Q C N (T.setTop { g with pc := pc', stack := rest })) : Go p e below s Q C N (T.setTop g) := Go.st (fun _ q => XS.ifYes X.here hx hg hpc (hb hby hd) hs hc ho hp q) k'
theorem gM (X : Stand p l e R s m args below meth c T locs cells slots) (hx : p.tables.exec = Jvm.exec) (hby : c.code = cb) (hg : g.method = m) {cd : ClassFile.Cond} {o : Int} {x y : Int32} {rest : List Value} (hd : decode cb g.pc = .ok (.if_icmp cd o, 3)) (hs : g.stack = .int y :: .int x :: rest) (hc : if_icmp.holds cd x y = false) (k' : Go p e below s Q C N (T.setTop { g with pc := g.pc + 3, stack := rest })) : Go p e below s Q C N (T.setTop g) := Go.st (fun _ q => XS.icmpNo X.here hx hg (hb hby hd) hs hc q) k'
theorem gZ (X : Stand p l e R s m args below meth c T locs cells slots) (hx : p.tables.exec = Jvm.exec) (hby : c.code = cb) (hg : g.method = m) {cd : ClassFile.Cond} {x y : Int32} {rest : List Value} {o : Int} {pc0 pc' : Nat} (hpc : g.pc = pc0) (hd : decode cb g.pc = .ok (.if_icmp cd o, 3)) (hs : g.stack = .int y :: .int x :: rest) (hc : if_icmp.holds cd x y = true) (ho : 0 ≤ (pc0 : Int) + o) (hp : ((pc0 : Int) + o).toNat = pc') (k' : Go p e below s Q C N (T.setTop { g with pc := pc', stack := rest })) : Go p e below s Q C N (T.setTop g) := Go.st (fun _ q => XS.icmpYes X.here hx hg hpc (hb hby hd) hs hc ho hp q) k'
theorem gInc (X : Stand p l e R s m args below meth c T locs cells slots) (hx : p.tables.exec = Jvm.exec) (hby : c.code = cb) (hg : g.method = m) {k : Nat} {cst : Int} {x : Int32} {l' : Array Slot} (hd : decode cb g.pc = .ok (.iinc k cst, 3)) (hl : g.locals[k]? = some (.val (.int x))) (hl' : storeLocals g.locals k (.int (x + Int32.ofInt cst)) = some l') (k' : Go p e below s Q C N (T.setTop { g with pc := g.pc + 3, locals := l' })) : Go p e below s Q C N (T.setTop g) := Go.st (fun _ q => XS.iinc X.here hx hg (hb hby hd) hl hl' q) k'
theorem gS (X : Stand p l e R s m args below meth c T locs cells slots) (hx : p.tables.exec = Jvm.exec) (hby : c.code = cb) (hg : g.method = m) {k : Nat} {x : Int32} {rest : List Value} {l' : Array Slot} (hd : decode cb g.pc = .ok (.istore k, 2)) (hs : g.stack = .int x :: rest) (hl : storeLocals g.locals k (.int x) = some l') (k' : Go p e below s Q C N (T.setTop { g with pc := g.pc + 2, stack := rest, locals := l' })) : Go p e below s Q C N (T.setTop g) := Go.st (fun _ q => XS.istore X.here hx hg (hb hby hd) hs hl q) k'
theorem gT (X : Stand p l e R s m args below meth c T locs cells slots) (hx : p.tables.exec = Jvm.exec) (hby : c.code = cb) (hg : g.method = m) {k : Fin 4} {x : Int32} {rest : List Value} {l' : Array Slot} (hd : decode cb g.pc = .ok (.istore_n k, 1)) (hs : g.stack = .int x :: rest) (hl : storeLocals g.locals k.val (.int x) = some l') (k' : Go p e below s Q C N (T.setTop { g with pc := g.pc + 1, stack := rest, locals := l' })) : Go p e below s Q C N (T.setTop g) := Go.st (fun _ q => XS.istoreN X.here hx hg (hb hby hd) hs hl q) k'
theorem gU (X : Stand p l e R s m args below meth c T locs cells slots) (hx : p.tables.exec = Jvm.exec) (hby : c.code = cb) (hg : g.method = m) {k : Nat} {x : Int64} {rest : List Value} {l' : Array Slot} (hd : decode cb g.pc = .ok (.lstore k, 2)) (hs : g.stack = .long x :: rest) (hl : storeLocals g.locals k (.long x) = some l') (k' : Go p e below s Q C N (T.setTop { g with pc := g.pc + 2, stack := rest, locals := l' })) : Go p e below s Q C N (T.setTop g) := Go.st (fun _ q => XS.lstore X.here hx hg (hb hby hd) hs hl q) k'
theorem gL (X : Stand p l e R s m args below meth c T locs cells slots) (hx : p.tables.exec = Jvm.exec) (hby : c.code = cb) (hg : g.method = m) {x y : Int64} {rest : List Value} (hd : decode cb g.pc = .ok (.lcmp, 1)) (hs : g.stack = .long y :: .long x :: rest) (k' : Go p e below s Q C N (T.setTop { g with pc := g.pc + 1, stack := .int (if x > y then 1 else if x = y then 0 else -1) :: rest })) : Go p e below s Q C N (T.setTop g) := Go.st (fun _ q => XS.lcmp X.here hx hg (hb hby hd) hs q) k'
end Steps1
end Jvm.OwnGo
namespace Jvm.Pilot.@@N@@
open Jvm Jvm.ClassFile Sem Op Lib Jvm.Free Jvm.Stand Jvm.LawKit Jvm.RoadKit Bundle Jvm.OwnGo Jvm.Pilot.@@N@@.Jvm.D
theorem tb {Z : State} {a0 : Array Value} (hw : ∀ d ∈ tables_1, d.before a0 Z = true) (i : Nat) {d : Jvm.Cond} (q : tables_1[i]? = some d) : d.before a0 Z = true := hw _ (List.mem_of_getElem? q)
abbrev kc1 := prog_96_method_2_code
abbrev kc3 := prog_107_method_1_code
abbrev kc4 := method_3_code
abbrev kc5 := prog_96_method_5_code
abbrev kc7 := jdk_65_method_103_code
abbrev kc8 := prog_96_method_9_code
abbrev kc10 := prog_96_method_6_code
abbrev kc11 := prog_107_method_4_code
abbrev kc13 := jdk_35_method_48_code
abbrev kc14 := jdk_33_method_47_code
abbrev kc15 := prog_107_method_9_code
abbrev kc16 := prog_96_method_8_code
abbrev kc18 := prog_107_method_5_code
abbrev kc19 := prog_107_method_10_code
abbrev kc21 := prog_107_method_6_code
abbrev kc22 := prog_107_method_7_code
theorem d20_0 : decode jdk_29_method_70_code 0 = .ok (.lload_n 0, 1) := by decide +kernel
theorem d20_1 : decode jdk_29_method_70_code 1 = .ok (.lload_n 2, 1) := by decide +kernel
theorem d20_2 : decode jdk_29_method_70_code 2 = .ok (.lcmp, 1) := by decide +kernel
theorem d20_3 : decode jdk_29_method_70_code 3 = .ok (.ifCond .gt 7, 3) := by decide +kernel
theorem d20_10 : decode jdk_29_method_70_code 10 = .ok (.lload_n 2, 1) := by decide +kernel
theorem d20_11 : decode jdk_29_method_70_code 11 = .ok (.lreturn, 1) := by decide +kernel
theorem d20_6 : decode jdk_29_method_70_code 6 = .ok (.lload_n 0, 1) := by decide +kernel
theorem d20_7 : decode jdk_29_method_70_code 7 = .ok (.goto 4, 3) := by decide +kernel
theorem ef_rm20 (m : MethodId) (xa xb : Int64) : entryFrame m #[(.long xa), (.long xb)] 4 = mkF m 0 #[vj xa, sd, vj xb, sd] [] := by first | (simp [entryFrame, mkF, argsToLocals, Value.category]; done) | rfl
def Q20 (Z : State) (xa xb : Int64) (h0 : Heap) (n0 : Nat) (vv : Option Value) (h : Heap) (LL : List Loc) : Prop := ∃ (rr : Int64), vv = some (.long rr) ∧ Fr n0 LL ∧ ((xa.toInt ≤ xb.toInt ∧ rr.toInt = xa.toInt) ∨ (xb.toInt < xa.toInt ∧ rr.toInt = xb.toInt)) ∧ h = h0
set_option maxRecDepth 65536 in
set_option maxHeartbeats 40000000 in
theorem rm20 (l : Launch) (Z : State) (a0 : Array Value) (hw : ∀ d ∈ tables_1, d.before a0 Z = true) (ws : List Jvm.Cond) (xa xb : Int64) (h0 : Heap) (n0 : Nat) (Z0 : n0 ≤ h0.size) :
    MetFree l (⟨"java/lang/Math", "min", "(JJ)J"⟩ : MethodName) (head1 (Jvm.Cond.code (⟨"java/lang/Math", "min", "(JJ)J"⟩ : MethodName) jdk_29_method_70_code 4 (some .long) :: ws) ({ frames := 0, cells := 0, slots := 0, locals := 0 } : Room)) (fun aa UU => aa = #[(.long xa), (.long xb)] ∧ Z.Warmed39 UU.vm ∧ UU.heap = h0) (fun _ _ _ _ _ => True) (fun _ UU oo UU' => ∃ vv LL, oo = .returned vv ∧ Q20 Z xa xb h0 n0 vv UU'.heap LL ∧ FrameEnd UU oo UU' LL 0 0) := by
  refine MetFree.of_bodySF (Jvm.Free.JP.mathPlain rfl (by decide +kernel)) hisR ?_
  intro p e s m args below meth c s₁ Bd hml0 hP hK
  obtain ⟨rfl, hZ, hh⟩ := hP
  have hx := Bd.exec
  have hby := Bd.bytes
  have hlk : meth.locks = false := BodyLoose.notSynchronized Bd
  have hml : c.maxLocals = 4 := hml0
  have hown : s.vm.findClass "java/lang/Math" = some m.cls := findClass_of_methodNamed Bd.named
  have hnm := (name_of_methodNamed Bd.named Bd.method).1
  have X0 : Stand p l e ({ frames := 0, cells := 0, slots := 0, locals := 0 } : Room) s m #[(.long xa), (.long xb)] below meth c s₁ [] 0 0 := Stand.of_body Bd
  have e0 : s₁.heap = h0 := by rw [← hh, Bd.state]; rfl
  have N0 := Fr.nil n0
  have K0 : Keep h0 h0 [] := Keep.refl h0 _
  refine (?_ : Go p e below s (Q20 Z xa xb h0 n0) 0 0 (s₁.setTop (entryFrame m #[(.long xa), (.long xb)] 4)))
  rw [ef_rm20]
  generalize hQ : Q20 Z xa xb h0 n0 = Q
  show Go p e below s Q 0 0 (s₁.setTop (mkF m 0 #[vj xa, sd, vj xb, sd] []))
  have f1 := rng64 xa
  have f2 := rng64 xb
  refine gE X0 hx hby rfl d20_0 rfl ?_
  refine gE X0 hx hby rfl d20_1 rfl ?_
  refine gL X0 hx hby rfl d20_2 rfl ?_
  by_cases c3 : xb.toInt < xa.toInt
  ·
    refine gY X0 hx hby rfl (pc0 := 3) (pc' := 10) rfl d20_3 rfl ((if0 _ _).trans (tlt ((lw_gt xa xb).mpr (ltJ rfl rfl c3))).2.2.1) (by decide) (by decide) ?_
    refine gE X0 hx hby rfl d20_10 rfl ?_
    show Go p e below s Q 0 0 (s₁.setTop (mkF m 11 #[vj xa, sd, vj xb, sd] [(.long xb)]))
    exact Go.retJ X0 hx hlk Bd.returns (hb hby d20_11) (by rw [← hQ, e0]; exact ⟨xb, rfl, N0, (by omega), rfl⟩) (by decide) (by decide)
  ·
    refine gN X0 hx hby rfl d20_3 rfl ((if0 _ _).trans (flt (fun q => (nltJ rfl rfl c3) ((lw_gt xa xb).mp q))).2.2.1) ?_
    refine gE X0 hx hby rfl d20_6 rfl ?_
    refine gG X0 hx hby rfl (pc0 := 7) (pc' := 11) rfl d20_7 (by decide) (by decide) ?_
    show Go p e below s Q 0 0 (s₁.setTop (mkF m 11 #[vj xa, sd, vj xb, sd] [(.long xa)]))
    exact Go.retJ X0 hx hlk Bd.returns (hb hby d20_11) (by rw [← hQ, e0]; exact ⟨xa, rfl, N0, (by omega), rfl⟩) (by decide) (by decide)
theorem d23_0 : decode jdk_29_method_66_code 0 = .ok (.lload_n 0, 1) := by decide +kernel
theorem d23_1 : decode jdk_29_method_66_code 1 = .ok (.lload_n 2, 1) := by decide +kernel
theorem d23_2 : decode jdk_29_method_66_code 2 = .ok (.lcmp, 1) := by decide +kernel
theorem d23_3 : decode jdk_29_method_66_code 3 = .ok (.ifCond .lt 7, 3) := by decide +kernel
theorem d23_10 : decode jdk_29_method_66_code 10 = .ok (.lload_n 2, 1) := by decide +kernel
theorem d23_11 : decode jdk_29_method_66_code 11 = .ok (.lreturn, 1) := by decide +kernel
theorem d23_6 : decode jdk_29_method_66_code 6 = .ok (.lload_n 0, 1) := by decide +kernel
theorem d23_7 : decode jdk_29_method_66_code 7 = .ok (.goto 4, 3) := by decide +kernel
theorem ef_rm23 (m : MethodId) (xa xb : Int64) : entryFrame m #[(.long xa), (.long xb)] 4 = mkF m 0 #[vj xa, sd, vj xb, sd] [] := by first | (simp [entryFrame, mkF, argsToLocals, Value.category]; done) | rfl
def Q23 (Z : State) (xa xb : Int64) (h0 : Heap) (n0 : Nat) (vv : Option Value) (h : Heap) (LL : List Loc) : Prop := ∃ (rr : Int64), vv = some (.long rr) ∧ Fr n0 LL ∧ ((xb.toInt ≤ xa.toInt ∧ rr.toInt = xa.toInt) ∨ (xa.toInt < xb.toInt ∧ rr.toInt = xb.toInt)) ∧ h = h0
set_option maxRecDepth 65536 in
set_option maxHeartbeats 40000000 in
theorem rm23 (l : Launch) (Z : State) (a0 : Array Value) (hw : ∀ d ∈ tables_1, d.before a0 Z = true) (ws : List Jvm.Cond) (xa xb : Int64) (h0 : Heap) (n0 : Nat) (Z0 : n0 ≤ h0.size) :
    MetFree l (⟨"java/lang/Math", "max", "(JJ)J"⟩ : MethodName) (head1 (Jvm.Cond.code (⟨"java/lang/Math", "max", "(JJ)J"⟩ : MethodName) jdk_29_method_66_code 4 (some .long) :: ws) ({ frames := 0, cells := 0, slots := 0, locals := 0 } : Room)) (fun aa UU => aa = #[(.long xa), (.long xb)] ∧ Z.Warmed39 UU.vm ∧ UU.heap = h0) (fun _ _ _ _ _ => True) (fun _ UU oo UU' => ∃ vv LL, oo = .returned vv ∧ Q23 Z xa xb h0 n0 vv UU'.heap LL ∧ FrameEnd UU oo UU' LL 0 0) := by
  refine MetFree.of_bodySF (Jvm.Free.JP.mathPlain rfl (by decide +kernel)) hisR ?_
  intro p e s m args below meth c s₁ Bd hml0 hP hK
  obtain ⟨rfl, hZ, hh⟩ := hP
  have hx := Bd.exec
  have hby := Bd.bytes
  have hlk : meth.locks = false := BodyLoose.notSynchronized Bd
  have hml : c.maxLocals = 4 := hml0
  have hown : s.vm.findClass "java/lang/Math" = some m.cls := findClass_of_methodNamed Bd.named
  have hnm := (name_of_methodNamed Bd.named Bd.method).1
  have X0 : Stand p l e ({ frames := 0, cells := 0, slots := 0, locals := 0 } : Room) s m #[(.long xa), (.long xb)] below meth c s₁ [] 0 0 := Stand.of_body Bd
  have e0 : s₁.heap = h0 := by rw [← hh, Bd.state]; rfl
  have N0 := Fr.nil n0
  have K0 : Keep h0 h0 [] := Keep.refl h0 _
  refine (?_ : Go p e below s (Q23 Z xa xb h0 n0) 0 0 (s₁.setTop (entryFrame m #[(.long xa), (.long xb)] 4)))
  rw [ef_rm23]
  generalize hQ : Q23 Z xa xb h0 n0 = Q
  show Go p e below s Q 0 0 (s₁.setTop (mkF m 0 #[vj xa, sd, vj xb, sd] []))
  have f1 := rng64 xa
  have f2 := rng64 xb
  refine gE X0 hx hby rfl d23_0 rfl ?_
  refine gE X0 hx hby rfl d23_1 rfl ?_
  refine gL X0 hx hby rfl d23_2 rfl ?_
  by_cases c3 : xa.toInt < xb.toInt
  ·
    refine gY X0 hx hby rfl (pc0 := 3) (pc' := 10) rfl d23_3 rfl ((if0 _ _).trans (tlt ((lw_lt xa xb).mpr (ltJ rfl rfl c3))).1) (by decide) (by decide) ?_
    refine gE X0 hx hby rfl d23_10 rfl ?_
    show Go p e below s Q 0 0 (s₁.setTop (mkF m 11 #[vj xa, sd, vj xb, sd] [(.long xb)]))
    exact Go.retJ X0 hx hlk Bd.returns (hb hby d23_11) (by rw [← hQ, e0]; exact ⟨xb, rfl, N0, (by omega), rfl⟩) (by decide) (by decide)
  ·
    refine gN X0 hx hby rfl d23_3 rfl ((if0 _ _).trans (flt (fun q => (nltJ rfl rfl c3) ((lw_lt xa xb).mp q))).1) ?_
    refine gE X0 hx hby rfl d23_6 rfl ?_
    refine gG X0 hx hby rfl (pc0 := 7) (pc' := 11) rfl d23_7 (by decide) (by decide) ?_
    show Go p e below s Q 0 0 (s₁.setTop (mkF m 11 #[vj xa, sd, vj xb, sd] [(.long xa)]))
    exact Go.retJ X0 hx hlk Bd.returns (hb hby d23_11) (by rw [← hQ, e0]; exact ⟨xa, rfl, N0, (by omega), rfl⟩) (by decide) (by decide)
theorem pn_0 : plainName "java/lang/Integer" = true := by first | (simp [plainName, overriddenIn]; done) | decide +kernel
theorem d14_0 : decode kc14 0 = .ok (.iload_n 0, 1) := by decide +kernel
theorem d14_1 : decode kc14 1 = .ok (.ifCond .gt 14, 3) := by decide +kernel
theorem liI_0 : (0 : Int32).toInt = 0 := by decide
theorem d14_15 : decode kc14 15 = .ok (.bipush 31, 2) := by decide +kernel
theorem d14_17 : decode kc14 17 = .ok (.istore_n 1, 1) := by decide +kernel
theorem d14_18 : decode kc14 18 = .ok (.iload_n 0, 1) := by decide +kernel
theorem d14_19 : decode kc14 19 = .ok (.ldc_w 264, 3) := by decide +kernel
theorem d14_22 : decode kc14 22 = .ok (.if_icmp .lt 11, 3) := by decide +kernel
theorem liI_65536 : (65536 : Int32).toInt = 65536 := by decide
theorem d14_25 : decode kc14 25 = .ok (.iinc 1 (-16), 3) := by decide +kernel
theorem d14_28 : decode kc14 28 = .ok (.iload_n 0, 1) := by decide +kernel
theorem d14_29 : decode kc14 29 = .ok (.bipush 16, 2) := by decide +kernel
theorem d14_31 : decode kc14 31 = .ok (.iushr, 1) := by decide +kernel
theorem d14_32 : decode kc14 32 = .ok (.istore_n 0, 1) := by decide +kernel
theorem liI_31 : (31 : Int32).toInt = 31 := by decide
theorem liI_16 : (16 : Int32).toInt = 16 := by decide
theorem liI_15 : (15 : Int32).toInt = 15 := by decide
theorem d14_33 : decode kc14 33 = .ok (.iload_n 0, 1) := by decide +kernel
theorem d14_34 : decode kc14 34 = .ok (.sipush 256, 3) := by decide +kernel
theorem d14_37 : decode kc14 37 = .ok (.if_icmp .lt 11, 3) := by decide +kernel
theorem liI_256 : (256 : Int32).toInt = 256 := by decide
theorem d14_40 : decode kc14 40 = .ok (.iinc 1 (-8), 3) := by decide +kernel
theorem d14_43 : decode kc14 43 = .ok (.iload_n 0, 1) := by decide +kernel
theorem d14_44 : decode kc14 44 = .ok (.bipush 8, 2) := by decide +kernel
theorem d14_46 : decode kc14 46 = .ok (.iushr, 1) := by decide +kernel
theorem d14_47 : decode kc14 47 = .ok (.istore_n 0, 1) := by decide +kernel
theorem liI_8 : (8 : Int32).toInt = 8 := by decide
theorem liI_m8 : (-8 : Int32).toInt = -8 := by decide
theorem d14_48 : decode kc14 48 = .ok (.iload_n 0, 1) := by decide +kernel
theorem d14_49 : decode kc14 49 = .ok (.bipush 16, 2) := by decide +kernel
theorem d14_51 : decode kc14 51 = .ok (.if_icmp .lt 10, 3) := by decide +kernel
theorem d14_54 : decode kc14 54 = .ok (.iinc 1 (-4), 3) := by decide +kernel
theorem d14_57 : decode kc14 57 = .ok (.iload_n 0, 1) := by decide +kernel
theorem d14_58 : decode kc14 58 = .ok (.iconst 4, 1) := by decide +kernel
theorem d14_59 : decode kc14 59 = .ok (.iushr, 1) := by decide +kernel
theorem d14_60 : decode kc14 60 = .ok (.istore_n 0, 1) := by decide +kernel
theorem liI_4 : (4 : Int32).toInt = 4 := by decide
theorem liI_m4 : (-4 : Int32).toInt = -4 := by decide
theorem d14_61 : decode kc14 61 = .ok (.iload_n 0, 1) := by decide +kernel
theorem d14_62 : decode kc14 62 = .ok (.iconst 4, 1) := by decide +kernel
theorem d14_63 : decode kc14 63 = .ok (.if_icmp .lt 10, 3) := by decide +kernel
theorem d14_66 : decode kc14 66 = .ok (.iinc 1 (-2), 3) := by decide +kernel
theorem d14_69 : decode kc14 69 = .ok (.iload_n 0, 1) := by decide +kernel
theorem d14_70 : decode kc14 70 = .ok (.iconst 2, 1) := by decide +kernel
theorem d14_71 : decode kc14 71 = .ok (.iushr, 1) := by decide +kernel
theorem d14_72 : decode kc14 72 = .ok (.istore_n 0, 1) := by decide +kernel
theorem liI_2 : (2 : Int32).toInt = 2 := by decide
theorem liI_m2 : (-2 : Int32).toInt = -2 := by decide
theorem d14_73 : decode kc14 73 = .ok (.iload_n 1, 1) := by decide +kernel
theorem d14_74 : decode kc14 74 = .ok (.iload_n 0, 1) := by decide +kernel
theorem d14_75 : decode kc14 75 = .ok (.iconst 1, 1) := by decide +kernel
theorem d14_76 : decode kc14 76 = .ok (.iushr, 1) := by decide +kernel
theorem d14_77 : decode kc14 77 = .ok (.isub, 1) := by decide +kernel
theorem liI_1 : (1 : Int32).toInt = 1 := by decide
theorem d14_78 : decode kc14 78 = .ok (.ireturn, 1) := by decide +kernel
theorem d14_4 : decode kc14 4 = .ok (.iload_n 0, 1) := by decide +kernel
theorem d14_5 : decode kc14 5 = .ok (.ifCond .ne 8, 3) := by decide +kernel
theorem d14_8 : decode kc14 8 = .ok (.bipush 32, 2) := by decide +kernel
theorem d14_10 : decode kc14 10 = .ok (.goto 4, 3) := by decide +kernel
theorem liI_32 : (32 : Int32).toInt = 32 := by decide
theorem d14_14 : decode kc14 14 = .ok (.ireturn, 1) := by decide +kernel
theorem d14_13 : decode kc14 13 = .ok (.iconst 0, 1) := by decide +kernel
theorem ef_rm14 (m : MethodId) (xi : Int32) : entryFrame m #[(.int xi)] 2 = mkF m 0 #[vi xi, un] [] := by first | (simp [entryFrame, mkF, argsToLocals, Value.category]; done) | rfl
def Q14 (Z : State) (xi : Int32) (h0 : Heap) (n0 : Nat) (vv : Option Value) (h : Heap) (LL : List Loc) : Prop := ∃ (rr : Int32), vv = some (.int rr) ∧ Fr n0 LL ∧ (xi.toInt < 0 → rr.toInt = 0) ∧ (xi.toInt = 0 → rr.toInt = 32) ∧ (0 < xi.toInt → 1 ≤ rr.toInt ∧ rr.toInt ≤ 31) ∧ h = h0
set_option maxRecDepth 65536 in
set_option maxHeartbeats 40000000 in
theorem rm14 (l : Launch) (Z : State) (a0 : Array Value) (hw : ∀ d ∈ tables_1, d.before a0 Z = true) (ws : List Jvm.Cond) (xi : Int32) (h0 : Heap) (n0 : Nat) (Z0 : n0 ≤ h0.size) :
    MetFree l (⟨"java/lang/Integer", "numberOfLeadingZeros", "(I)I"⟩ : MethodName) (head1 (Jvm.Cond.code (⟨"java/lang/Integer", "numberOfLeadingZeros", "(I)I"⟩ : MethodName) kc14 2 (some .int) :: ws) ({ frames := 0, cells := 0, slots := 0, locals := 0 } : Room)) (fun aa UU => aa = #[(.int xi)] ∧ Z.Warmed39 UU.vm ∧ UU.heap = h0) (fun _ _ _ _ _ => True) (fun _ UU oo UU' => ∃ vv LL, oo = .returned vv ∧ Q14 Z xi h0 n0 vv UU'.heap LL ∧ FrameEnd UU oo UU' LL 0 0) := by
  refine MetFree.of_bodySF (plainFor_of_name pn_0) hisR ?_
  intro p e s m args below meth c s₁ Bd hml0 hP hK
  obtain ⟨rfl, hZ, hh⟩ := hP
  have hx := Bd.exec
  have hby := Bd.bytes
  have hlk : meth.locks = false := BodyLoose.notSynchronized Bd
  have hml : c.maxLocals = 2 := hml0
  have hown : s.vm.findClass "java/lang/Integer" = some m.cls := findClass_of_methodNamed Bd.named
  have hnm := (name_of_methodNamed Bd.named Bd.method).1
  have X0 : Stand p l e ({ frames := 0, cells := 0, slots := 0, locals := 0 } : Room) s m #[(.int xi)] below meth c s₁ [] 0 0 := Stand.of_body Bd
  have e0 : s₁.heap = h0 := by rw [← hh, Bd.state]; rfl
  have N0 := Fr.nil n0
  have K0 : Keep h0 h0 [] := Keep.refl h0 _
  refine (?_ : Go p e below s (Q14 Z xi h0 n0) 0 0 (s₁.setTop (entryFrame m #[(.int xi)] 2)))
  rw [ef_rm14]
  generalize hQ : Q14 Z xi h0 n0 = Q
  show Go p e below s Q 0 0 (s₁.setTop (mkF m 0 #[vi xi, un] []))
  have f1 := rng32 xi
  refine gC X0 hx hby rfl d14_0 rfl ?_
  have f2 := liI_0
  by_cases c3 : 0 < xi.toInt
  ·
    refine gY X0 hx hby rfl (pc0 := 1) (pc' := 15) rfl d14_1 rfl ((if0 _ _).trans (tlt (ltI liI_0 rfl c3)).2.2.1) (by decide) (by decide) ?_
    refine Go.st (fun _ k => XS.bipush X0.here hx rfl (hb hby d14_15) k) ?_
    refine gT X0 hx hby rfl d14_17 rfl (l' := #[vi xi, vi (31 : Int32)]) rfl ?_
    refine gC X0 hx hby rfl d14_18 rfl ?_
    refine Go.st (X0.ldcwInt hx hown (mvT hZ (tb hw 142 rfl)) (g := (mkF m 19 #[vi xi, vi (31 : Int32)] [(.int xi)])) rfl (hb hby d14_19)) ?_
    show Go p e below s Q 0 0 (s₁.setTop (mkF m 22 #[vi xi, vi (31 : Int32)] [(.int (65536 : Int32)), (.int xi)]))
    suffices J6 : ∀ (j4 j5 : Int32), (0 < j4.toInt ∧ j4.toInt < 65536 ∧ 15 ≤ j5.toInt ∧ j5.toInt ≤ 31 ∧ (j5.toInt = 15 → j4.toInt < 32768)) → Go p e below s Q 0 0 (s₁.setTop (mkF m 33 #[vi j4, vi j5] [])) by
      have f8 := liI_65536
      by_cases c9 : xi.toInt < 65536
      ·
        refine gZ X0 hx hby rfl (pc0 := 22) (pc' := 33) rfl d14_22 rfl (tlt (ltI rfl liI_65536 c9)).1 (by decide) (by decide) ?_
        show Go p e below s Q 0 0 (s₁.setTop (mkF m 33 #[vi xi, vi (31 : Int32)] []))
        have f10 := liI_31
        exact J6 xi (31 : Int32) (by omega)
      ·
        refine gM X0 hx hby rfl d14_22 rfl (flt (nltI rfl liI_65536 c9)).1 ?_
        refine gInc X0 hx hby rfl d14_25 rfl (l' := #[vi xi, vi (15 : Int32)]) rfl ?_
        refine gC X0 hx hby rfl d14_28 rfl ?_
        refine Go.st (fun _ k => XS.bipush X0.here hx rfl (hb hby d14_29) k) ?_
        refine Go.st (fun _ k => XS.iushr X0.here hx rfl (hb hby d14_31) rfl k) ?_
        refine gT X0 hx hby rfl d14_32 rfl (l' := #[.val (.int ((xi.toUInt32 >>> ((16 : Int32) &&& 31).toUInt32).toInt32)), vi (15 : Int32)]) rfl ?_
        show Go p e below s Q 0 0 (s₁.setTop (mkF m 33 #[.val (.int ((xi.toUInt32 >>> ((16 : Int32) &&& 31).toUInt32).toInt32)), vi (15 : Int32)] []))
        have f11 := liI_16
        have f12 : ((xi.toUInt32 >>> ((16 : Int32) &&& 31).toUInt32).toInt32).toInt = (xi.toInt % 4294967296) / 65536 := c_iushr xi (16 : Int32) 16 (by decide) (by decide)
        have f13 := rng32 ((xi.toUInt32 >>> ((16 : Int32) &&& 31).toUInt32).toInt32)
        generalize hv_v14 : ((xi.toUInt32 >>> ((16 : Int32) &&& 31).toUInt32).toInt32) = v14 at f12 f13 ⊢
        have f15 := liI_15
        exact J6 v14 (15 : Int32) (by omega)
    intro j4 j5 f16
    have f17 := rng32 j4
    have f18 := rng32 j5
    clear f1 f2 f17 f18
    have f19 := rng32 j4
    have f20 := rng32 j5
    refine gC X0 hx hby rfl d14_33 rfl ?_
    refine Go.st (fun _ k => XS.sipush X0.here hx rfl (hb hby d14_34) k) ?_
    show Go p e below s Q 0 0 (s₁.setTop (mkF m 37 #[vi j4, vi j5] [(.int (256 : Int32)), (.int j4)]))
    suffices J23 : ∀ (j21 j22 : Int32), (0 < j21.toInt ∧ j21.toInt < 256 ∧ 7 ≤ j22.toInt ∧ j22.toInt ≤ 31 ∧ (j22.toInt = 7 → j21.toInt < 128)) → Go p e below s Q 0 0 (s₁.setTop (mkF m 48 #[vi j21, vi j22] [])) by
      have f25 := liI_256
      by_cases c26 : j4.toInt < 256
      ·
        refine gZ X0 hx hby rfl (pc0 := 37) (pc' := 48) rfl d14_37 rfl (tlt (ltI rfl liI_256 c26)).1 (by decide) (by decide) ?_
        show Go p e below s Q 0 0 (s₁.setTop (mkF m 48 #[vi j4, vi j5] []))
        exact J23 j4 j5 (by omega)
      ·
        refine gM X0 hx hby rfl d14_37 rfl (flt (nltI rfl liI_256 c26)).1 ?_
        refine gInc X0 hx hby rfl d14_40 rfl (l' := #[vi j4, vi (j5 + (-8 : Int32))]) rfl ?_
        refine gC X0 hx hby rfl d14_43 rfl ?_
        refine Go.st (fun _ k => XS.bipush X0.here hx rfl (hb hby d14_44) k) ?_
        refine Go.st (fun _ k => XS.iushr X0.here hx rfl (hb hby d14_46) rfl k) ?_
        refine gT X0 hx hby rfl d14_47 rfl (l' := #[.val (.int ((j4.toUInt32 >>> ((8 : Int32) &&& 31).toUInt32).toInt32)), vi (j5 + (-8 : Int32))]) rfl ?_
        show Go p e below s Q 0 0 (s₁.setTop (mkF m 48 #[.val (.int ((j4.toUInt32 >>> ((8 : Int32) &&& 31).toUInt32).toInt32)), vi (j5 + (-8 : Int32))] []))
        have f27 := liI_8
        have f28 : ((j4.toUInt32 >>> ((8 : Int32) &&& 31).toUInt32).toInt32).toInt = (j4.toInt % 4294967296) / 256 := c_iushr j4 (8 : Int32) 8 (by decide) (by decide)
        have f29 := rng32 ((j4.toUInt32 >>> ((8 : Int32) &&& 31).toUInt32).toInt32)
        generalize hv_v30 : ((j4.toUInt32 >>> ((8 : Int32) &&& 31).toUInt32).toInt32) = v30 at f28 f29 ⊢
        have f31 : ((j5 + (-8 : Int32)).toInt - (j5.toInt + (-8))) % 4294967296 = 0 := (by have q := c_iadd j5 (-8 : Int32); rw [liI_m8] at q; exact q)
        have f32 := rng32 (j5 + (-8 : Int32))
        generalize hv_v33 : (j5 + (-8 : Int32)) = v33 at f31 f32 ⊢
        exact J23 v30 v33 (by omega)
    intro j21 j22 f34
    have f35 := rng32 j21
    have f36 := rng32 j22
    clear f16 f19 f20 f35 f36
    have f37 := rng32 j21
    have f38 := rng32 j22
    refine gC X0 hx hby rfl d14_48 rfl ?_
    refine Go.st (fun _ k => XS.bipush X0.here hx rfl (hb hby d14_49) k) ?_
    show Go p e below s Q 0 0 (s₁.setTop (mkF m 51 #[vi j21, vi j22] [(.int (16 : Int32)), (.int j21)]))
    suffices J41 : ∀ (j39 j40 : Int32), (0 < j39.toInt ∧ j39.toInt < 16 ∧ 3 ≤ j40.toInt ∧ j40.toInt ≤ 31 ∧ (j40.toInt = 3 → j39.toInt < 8)) → Go p e below s Q 0 0 (s₁.setTop (mkF m 61 #[vi j39, vi j40] [])) by
      have f43 := liI_16
      by_cases c44 : j21.toInt < 16
      ·
        refine gZ X0 hx hby rfl (pc0 := 51) (pc' := 61) rfl d14_51 rfl (tlt (ltI rfl liI_16 c44)).1 (by decide) (by decide) ?_
        show Go p e below s Q 0 0 (s₁.setTop (mkF m 61 #[vi j21, vi j22] []))
        exact J41 j21 j22 (by omega)
      ·
        refine gM X0 hx hby rfl d14_51 rfl (flt (nltI rfl liI_16 c44)).1 ?_
        refine gInc X0 hx hby rfl d14_54 rfl (l' := #[vi j21, vi (j22 + (-4 : Int32))]) rfl ?_
        refine gC X0 hx hby rfl d14_57 rfl ?_
        refine gI X0 hx hby rfl d14_58 ?_
        refine Go.st (fun _ k => XS.iushr X0.here hx rfl (hb hby d14_59) rfl k) ?_
        refine gT X0 hx hby rfl d14_60 rfl (l' := #[.val (.int ((j21.toUInt32 >>> ((4 : Int32) &&& 31).toUInt32).toInt32)), vi (j22 + (-4 : Int32))]) rfl ?_
        show Go p e below s Q 0 0 (s₁.setTop (mkF m 61 #[.val (.int ((j21.toUInt32 >>> ((4 : Int32) &&& 31).toUInt32).toInt32)), vi (j22 + (-4 : Int32))] []))
        have f45 := liI_4
        have f46 : ((j21.toUInt32 >>> ((4 : Int32) &&& 31).toUInt32).toInt32).toInt = (j21.toInt % 4294967296) / 16 := c_iushr j21 (4 : Int32) 4 (by decide) (by decide)
        have f47 := rng32 ((j21.toUInt32 >>> ((4 : Int32) &&& 31).toUInt32).toInt32)
        generalize hv_v48 : ((j21.toUInt32 >>> ((4 : Int32) &&& 31).toUInt32).toInt32) = v48 at f46 f47 ⊢
        have f49 : ((j22 + (-4 : Int32)).toInt - (j22.toInt + (-4))) % 4294967296 = 0 := (by have q := c_iadd j22 (-4 : Int32); rw [liI_m4] at q; exact q)
        have f50 := rng32 (j22 + (-4 : Int32))
        generalize hv_v51 : (j22 + (-4 : Int32)) = v51 at f49 f50 ⊢
        exact J41 v48 v51 (by omega)
    intro j39 j40 f52
    have f53 := rng32 j39
    have f54 := rng32 j40
    clear f34 f37 f38 f53 f54
    have f55 := rng32 j39
    have f56 := rng32 j40
    refine gC X0 hx hby rfl d14_61 rfl ?_
    refine gI X0 hx hby rfl d14_62 ?_
    show Go p e below s Q 0 0 (s₁.setTop (mkF m 63 #[vi j39, vi j40] [(.int (4 : Int32)), (.int j39)]))
    suffices J59 : ∀ (j57 j58 : Int32), (0 < j57.toInt ∧ j57.toInt < 4 ∧ 1 ≤ j58.toInt ∧ j58.toInt ≤ 31 ∧ (j58.toInt = 1 → j57.toInt < 2)) → Go p e below s Q 0 0 (s₁.setTop (mkF m 73 #[vi j57, vi j58] [])) by
      have f61 := liI_4
      by_cases c62 : j39.toInt < 4
      ·
        refine gZ X0 hx hby rfl (pc0 := 63) (pc' := 73) rfl d14_63 rfl (tlt (ltI rfl liI_4 c62)).1 (by decide) (by decide) ?_
        show Go p e below s Q 0 0 (s₁.setTop (mkF m 73 #[vi j39, vi j40] []))
        exact J59 j39 j40 (by omega)
      ·
        refine gM X0 hx hby rfl d14_63 rfl (flt (nltI rfl liI_4 c62)).1 ?_
        refine gInc X0 hx hby rfl d14_66 rfl (l' := #[vi j39, vi (j40 + (-2 : Int32))]) rfl ?_
        refine gC X0 hx hby rfl d14_69 rfl ?_
        refine gI X0 hx hby rfl d14_70 ?_
        refine Go.st (fun _ k => XS.iushr X0.here hx rfl (hb hby d14_71) rfl k) ?_
        refine gT X0 hx hby rfl d14_72 rfl (l' := #[.val (.int ((j39.toUInt32 >>> ((2 : Int32) &&& 31).toUInt32).toInt32)), vi (j40 + (-2 : Int32))]) rfl ?_
        show Go p e below s Q 0 0 (s₁.setTop (mkF m 73 #[.val (.int ((j39.toUInt32 >>> ((2 : Int32) &&& 31).toUInt32).toInt32)), vi (j40 + (-2 : Int32))] []))
        have f63 := liI_2
        have f64 : ((j39.toUInt32 >>> ((2 : Int32) &&& 31).toUInt32).toInt32).toInt = (j39.toInt % 4294967296) / 4 := c_iushr j39 (2 : Int32) 2 (by decide) (by decide)
        have f65 := rng32 ((j39.toUInt32 >>> ((2 : Int32) &&& 31).toUInt32).toInt32)
        generalize hv_v66 : ((j39.toUInt32 >>> ((2 : Int32) &&& 31).toUInt32).toInt32) = v66 at f64 f65 ⊢
        have f67 : ((j40 + (-2 : Int32)).toInt - (j40.toInt + (-2))) % 4294967296 = 0 := (by have q := c_iadd j40 (-2 : Int32); rw [liI_m2] at q; exact q)
        have f68 := rng32 (j40 + (-2 : Int32))
        generalize hv_v69 : (j40 + (-2 : Int32)) = v69 at f67 f68 ⊢
        exact J59 v66 v69 (by omega)
    intro j57 j58 f70
    have f71 := rng32 j57
    have f72 := rng32 j58
    clear f52 f55 f56 f71 f72
    have f73 := rng32 j57
    have f74 := rng32 j58
    refine gC X0 hx hby rfl d14_73 rfl ?_
    refine gC X0 hx hby rfl d14_74 rfl ?_
    refine gI X0 hx hby rfl d14_75 ?_
    refine Go.st (fun _ k => XS.iushr X0.here hx rfl (hb hby d14_76) rfl k) ?_
    refine Go.st (fun _ k => XS.isub X0.here hx rfl (hb hby d14_77) rfl k) ?_
    show Go p e below s Q 0 0 (s₁.setTop (mkF m 78 #[vi j57, vi j58] [(.int (j58 - ((j57.toUInt32 >>> ((1 : Int32) &&& 31).toUInt32).toInt32)))]))
    have f75 := liI_1
    have f76 : ((j57.toUInt32 >>> ((1 : Int32) &&& 31).toUInt32).toInt32).toInt = (j57.toInt % 4294967296) / 2 := c_iushr j57 (1 : Int32) 1 (by decide) (by decide)
    have f77 := rng32 ((j57.toUInt32 >>> ((1 : Int32) &&& 31).toUInt32).toInt32)
    have f78 := c_isub j58 ((j57.toUInt32 >>> ((1 : Int32) &&& 31).toUInt32).toInt32)
    have f79 := rng32 (j58 - ((j57.toUInt32 >>> ((1 : Int32) &&& 31).toUInt32).toInt32))
    exact Go.retI X0 hx hlk Bd.returns (hb hby d14_78) (by rw [← hQ, e0]; exact ⟨(j58 - ((j57.toUInt32 >>> ((1 : Int32) &&& 31).toUInt32).toInt32)), rfl, N0, (by omega), (by omega), (by omega), rfl⟩) (by decide) (by decide)
  ·
    refine gN X0 hx hby rfl d14_1 rfl ((if0 _ _).trans (flt (nltI liI_0 rfl c3)).2.2.1) ?_
    refine gC X0 hx hby rfl d14_4 rfl ?_
    by_cases c80 : xi.toInt = 0
    ·
      refine gN X0 hx hby rfl d14_5 rfl ((if0 _ _).trans (teq (eqI rfl liI_0 c80)).2) ?_
      refine Go.st (fun _ k => XS.bipush X0.here hx rfl (hb hby d14_8) k) ?_
      refine gG X0 hx hby rfl (pc0 := 10) (pc' := 14) rfl d14_10 (by decide) (by decide) ?_
      show Go p e below s Q 0 0 (s₁.setTop (mkF m 14 #[vi xi, un] [(.int (32 : Int32))]))
      have f81 := liI_32
      exact Go.retI X0 hx hlk Bd.returns (hb hby d14_14) (by rw [← hQ, e0]; exact ⟨(32 : Int32), rfl, N0, (by omega), (by omega), (by omega), rfl⟩) (by decide) (by decide)
    ·
      refine gY X0 hx hby rfl (pc0 := 5) (pc' := 13) rfl d14_5 rfl ((if0 _ _).trans (feq (neI rfl liI_0 c80)).2) (by decide) (by decide) ?_
      refine gI X0 hx hby rfl d14_13 ?_
      show Go p e below s Q 0 0 (s₁.setTop (mkF m 14 #[vi xi, un] [(.int (0 : Int32))]))
      exact Go.retI X0 hx hlk Bd.returns (hb hby d14_14) (by rw [← hQ, e0]; exact ⟨(0 : Int32), rfl, N0, (by omega), (by omega), (by omega), rfl⟩) (by decide) (by decide)
theorem pn_1 : plainName "java/lang/Long" = true := by first | (simp [plainName, overriddenIn]; done) | decide +kernel
theorem d13_0 : decode kc13 0 = .ok (.lload_n 0, 1) := by decide +kernel
theorem d13_1 : decode kc13 1 = .ok (.bipush 32, 2) := by decide +kernel
theorem d13_3 : decode kc13 3 = .ok (.lushr, 1) := by decide +kernel
theorem d13_4 : decode kc13 4 = .ok (.l2i, 1) := by decide +kernel
theorem d13_5 : decode kc13 5 = .ok (.istore_n 2, 1) := by decide +kernel
theorem d13_6 : decode kc13 6 = .ok (.iload_n 2, 1) := by decide +kernel
theorem d13_7 : decode kc13 7 = .ok (.ifCond .ne 14, 3) := by decide +kernel
theorem d13_10 : decode kc13 10 = .ok (.bipush 32, 2) := by decide +kernel
theorem d13_12 : decode kc13 12 = .ok (.lload_n 0, 1) := by decide +kernel
theorem d13_13 : decode kc13 13 = .ok (.l2i, 1) := by decide +kernel
theorem pd_0 : parseMethodDescriptor "(I)I" = some ⟨[.int], some .int⟩ := by decide +kernel
theorem d13_14 : decode kc13 14 = .ok (.invokestatic 308, 3) := by decide +kernel
theorem d13_17 : decode kc13 17 = .ok (.iadd, 1) := by decide +kernel
theorem d13_18 : decode kc13 18 = .ok (.goto 7, 3) := by decide +kernel
theorem d13_25 : decode kc13 25 = .ok (.ireturn, 1) := by decide +kernel
theorem d13_21 : decode kc13 21 = .ok (.iload_n 2, 1) := by decide +kernel
theorem d13_22 : decode kc13 22 = .ok (.invokestatic 308, 3) := by decide +kernel
theorem ef_rm13 (m : MethodId) (xj : Int64) : entryFrame m #[(.long xj)] 3 = mkF m 0 #[vj xj, sd, un] [] := by first | (simp [entryFrame, mkF, argsToLocals, Value.category]; done) | rfl
def Q13 (Z : State) (xj : Int64) (h0 : Heap) (n0 : Nat) (vv : Option Value) (h : Heap) (LL : List Loc) : Prop := ∃ (rr : Int32), vv = some (.int rr) ∧ Fr n0 LL ∧ (xj.toInt < 0 → rr.toInt = 0) ∧ (xj.toInt = 0 → rr.toInt = 64) ∧ (0 < xj.toInt → 1 ≤ rr.toInt ∧ rr.toInt ≤ 63) ∧ h = h0
set_option maxRecDepth 65536 in
set_option maxHeartbeats 40000000 in
theorem rm13 (l : Launch) (Z : State) (a0 : Array Value) (hw : ∀ d ∈ tables_1, d.before a0 Z = true) (ws : List Jvm.Cond) (xj : Int64) (h0 : Heap) (n0 : Nat) (Z0 : n0 ≤ h0.size) :
    MetFree l (⟨"java/lang/Long", "numberOfLeadingZeros", "(J)I"⟩ : MethodName) (head1 (Jvm.Cond.code (⟨"java/lang/Long", "numberOfLeadingZeros", "(J)I"⟩ : MethodName) kc13 3 (some .int) :: ws) ({ frames := 1, cells := 0, slots := 0, locals := 14 } : Room)) (fun aa UU => aa = #[(.long xj)] ∧ Z.Warmed39 UU.vm ∧ UU.heap = h0) (fun _ _ _ _ _ => True) (fun _ UU oo UU' => ∃ vv LL, oo = .returned vv ∧ Q13 Z xj h0 n0 vv UU'.heap LL ∧ FrameEnd UU oo UU' LL 0 0) := by
  refine MetFree.of_bodySF (plainFor_of_name pn_1) hisR ?_
  intro p e s m args below meth c s₁ Bd hml0 hP hK
  obtain ⟨rfl, hZ, hh⟩ := hP
  have hx := Bd.exec
  have hby := Bd.bytes
  have hlk : meth.locks = false := BodyLoose.notSynchronized Bd
  have hml : c.maxLocals = 3 := hml0
  have hown : s.vm.findClass "java/lang/Long" = some m.cls := findClass_of_methodNamed Bd.named
  have hnm := (name_of_methodNamed Bd.named Bd.method).1
  have X0 : Stand p l e ({ frames := 1, cells := 0, slots := 0, locals := 14 } : Room) s m #[(.long xj)] below meth c s₁ [] 0 0 := Stand.of_body Bd
  have e0 : s₁.heap = h0 := by rw [← hh, Bd.state]; rfl
  have N0 := Fr.nil n0
  have K0 : Keep h0 h0 [] := Keep.refl h0 _
  refine (?_ : Go p e below s (Q13 Z xj h0 n0) 0 0 (s₁.setTop (entryFrame m #[(.long xj)] 3)))
  rw [ef_rm13]
  generalize hQ : Q13 Z xj h0 n0 = Q
  show Go p e below s Q 0 0 (s₁.setTop (mkF m 0 #[vj xj, sd, un] []))
  have f1 := rng64 xj
  refine gE X0 hx hby rfl d13_0 rfl ?_
  refine Go.st (fun _ k => XS.bipush X0.here hx rfl (hb hby d13_1) k) ?_
  refine Go.st (fun _ k => XS.lushr X0.here hx rfl (hb hby d13_3) rfl k) ?_
  refine Go.st (fun _ k => XS.l2i X0.here hx rfl (hb hby d13_4) rfl k) ?_
  refine gT X0 hx hby rfl d13_5 rfl (l' := #[vj xj, sd, .val (.int (((xj.toUInt64 >>> ((32 : Int32) &&& 0x3f).toInt64.toUInt64).toInt64).toInt32))]) rfl ?_
  show Go p e below s Q 0 0 (s₁.setTop (mkF m 6 #[vj xj, sd, .val (.int (((xj.toUInt64 >>> ((32 : Int32) &&& 0x3f).toInt64.toUInt64).toInt64).toInt32))] []))
  have f2 := liI_32
  have f3 : ((xj.toUInt64 >>> ((32 : Int32) &&& 0x3f).toInt64.toUInt64).toInt64).toInt = (xj.toInt % 18446744073709551616) / 4294967296 := c_lushr xj (32 : Int32) 32 (by decide) (by decide)
  have f4 := rng64 ((xj.toUInt64 >>> ((32 : Int32) &&& 0x3f).toInt64.toUInt64).toInt64)
  have f5 := c_l2i ((xj.toUInt64 >>> ((32 : Int32) &&& 0x3f).toInt64.toUInt64).toInt64)
  have f6 := rng32 (((xj.toUInt64 >>> ((32 : Int32) &&& 0x3f).toInt64.toUInt64).toInt64).toInt32)
  generalize hv_v7 : (((xj.toUInt64 >>> ((32 : Int32) &&& 0x3f).toInt64.toUInt64).toInt64).toInt32) = v7 at f5 f6 ⊢
  refine gC X0 hx hby rfl d13_6 rfl ?_
  have f8 := liI_0
  by_cases c9 : v7.toInt = 0
  ·
    refine gN X0 hx hby rfl d13_7 rfl ((if0 _ _).trans (teq (eqI rfl liI_0 c9)).2) ?_
    refine Go.st (fun _ k => XS.bipush X0.here hx rfl (hb hby d13_10) k) ?_
    refine gE X0 hx hby rfl d13_12 rfl ?_
    refine Go.st (fun _ k => XS.l2i X0.here hx rfl (hb hby d13_13) rfl k) ?_
    have f11 := c_l2i xj
    have f12 := rng32 (xj.toInt32)
    obtain ⟨_, _, ⟨T10, L10, k10, n10⟩, -, X10, ⟨Lc10, hQ10, l10, y10, z10⟩, st10⟩ := Jvm.LawKit.callS X0 hx (y := (⟨"java/lang/Integer", "numberOfLeadingZeros", "(I)I"⟩ : MethodName)) hown (mvT hZ (tb hw 111 rfl)) (mvT hZ (tb hw 112 rfl)) (mvT hZ (tb hw 113 rfl)) (mvT hZ (tb hw 114 rfl)) (by decide) (backOf (W := 1) (rm14 l Z a0 hw [] (xj.toInt32) h0 n0 (Nat.le_trans Z0 K0.1) ) hZ (tb hw 114 rfl) (tb hw 113 rfl) (by decide) (by decide)) (g := (mkF m 14 #[vj xj, sd, vi v7] [(.int (xj.toInt32)), (.int (32 : Int32))])) rfl (by rw [hml]; rfl) (argsL := [(.int (xj.toInt32))]) (rest := [(.int (32 : Int32))]) (lenOf pd_0 rfl) rfl (by show 2 * 0 + _ ≤ _; exact Nat.le_of_eq rfl) (hb hby d13_14) (fun _ _ => ⟨rfl, e0, (by decide : 0 + 0 ≤ _), (by decide : 0 + 0 ≤ _)⟩)
    dsimp only [Pt.U, Pt.locs, Pt.cells, Pt.slots] at X10 l10 y10 z10 st10 hQ10
    subst y10 z10
    obtain ⟨rr_13, rfl, N10q, f14, f15, f16, e10⟩ := hQ10
    have N10 : Fr n0 L10 := by rw [l10]; exact Fr.app N0 N10q
    refine Go.st st10 ?_
    show Go p e below s Q 0 0 (T10.setTop (mkF m 17 #[vj xj, sd, vi v7] [(.int rr_13), (.int (32 : Int32))]))
    have f17 := rng32 rr_13
    refine Go.st (fun _ k => XS.iadd X10.here hx rfl (hb hby d13_17) rfl k) ?_
    refine gG X10 hx hby rfl (pc0 := 18) (pc' := 25) rfl d13_18 (by decide) (by decide) ?_
    show Go p e below s Q 0 0 (T10.setTop (mkF m 25 #[vj xj, sd, vi v7] [(.int ((32 : Int32) + rr_13))]))
    have f18 := c_iadd (32 : Int32) rr_13
    have f19 := rng32 ((32 : Int32) + rr_13)
    exact Go.retI X10 hx hlk Bd.returns (hb hby d13_25) (by rw [← hQ, e10]; exact ⟨((32 : Int32) + rr_13), rfl, N10, (by omega), (by omega), (by omega), rfl⟩) (by decide) (by decide)
  ·
    refine gY X0 hx hby rfl (pc0 := 7) (pc' := 21) rfl d13_7 rfl ((if0 _ _).trans (feq (neI rfl liI_0 c9)).2) (by decide) (by decide) ?_
    refine gC X0 hx hby rfl d13_21 rfl ?_
    obtain ⟨_, _, ⟨T20, L20, k20, n20⟩, -, X20, ⟨Lc20, hQ20, l20, y20, z20⟩, st20⟩ := Jvm.LawKit.callS X0 hx (y := (⟨"java/lang/Integer", "numberOfLeadingZeros", "(I)I"⟩ : MethodName)) hown (mvT hZ (tb hw 111 rfl)) (mvT hZ (tb hw 112 rfl)) (mvT hZ (tb hw 113 rfl)) (mvT hZ (tb hw 114 rfl)) (by decide) (backOf (W := 0) (rm14 l Z a0 hw [] v7 h0 n0 (Nat.le_trans Z0 K0.1) ) hZ (tb hw 114 rfl) (tb hw 113 rfl) (by decide) (by decide)) (g := (mkF m 22 #[vj xj, sd, vi v7] [(.int v7)])) rfl (by rw [hml]; rfl) (argsL := [(.int v7)]) (rest := []) (lenOf pd_0 rfl) rfl (by show 2 * 0 + _ ≤ _; exact Nat.le_of_eq rfl) (hb hby d13_22) (fun _ _ => ⟨rfl, e0, (by decide : 0 + 0 ≤ _), (by decide : 0 + 0 ≤ _)⟩)
    dsimp only [Pt.U, Pt.locs, Pt.cells, Pt.slots] at X20 l20 y20 z20 st20 hQ20
    subst y20 z20
    obtain ⟨rr_21, rfl, N20q, f22, f23, f24, e20⟩ := hQ20
    have N20 : Fr n0 L20 := by rw [l20]; exact Fr.app N0 N20q
    refine Go.st st20 ?_
    show Go p e below s Q 0 0 (T20.setTop (mkF m 25 #[vj xj, sd, vi v7] [(.int rr_21)]))
    have f25 := rng32 rr_21
    exact Go.retI X20 hx hlk Bd.returns (hb hby d13_25) (by rw [← hQ, e20]; exact ⟨rr_21, rfl, N20, (by omega), (by omega), (by omega), rfl⟩) (by decide) (by decide)
theorem pn_2 : plainName "com/example/rackwise/rackwise/RadixHeap" = true := by first | (simp [plainName, overriddenIn]; done) | decide +kernel
theorem d12_0 : decode prog_107_method_8_code 0 = .ok (.bipush 64, 2) := by decide +kernel
theorem d12_2 : decode prog_107_method_8_code 2 = .ok (.lload_n 1, 1) := by decide +kernel
theorem d12_3 : decode prog_107_method_8_code 3 = .ok (.aload_n 0, 1) := by decide +kernel
theorem d12_4 : decode prog_107_method_8_code 4 = .ok (.getfield 28, 3) := by decide +kernel
theorem d12_7 : decode prog_107_method_8_code 7 = .ok (.lxor, 1) := by decide +kernel
theorem pd_1 : parseMethodDescriptor "(J)I" = some ⟨[.long], some .int⟩ := by decide +kernel
theorem d12_8 : decode prog_107_method_8_code 8 = .ok (.invokestatic 53, 3) := by decide +kernel
theorem d12_11 : decode prog_107_method_8_code 11 = .ok (.isub, 1) := by decide +kernel
theorem liI_64 : (64 : Int32).toInt = 64 := by decide
theorem d12_12 : decode prog_107_method_8_code 12 = .ok (.ireturn, 1) := by decide +kernel
theorem ef_rm12 (m : MethodId) (q : Addr) (ky : Int64) : entryFrame m #[(.ref q), (.long ky)] 3 = mkF m 0 #[vr q, vj ky, sd] [] := by first | (simp [entryFrame, mkF, argsToLocals, Value.category]; done) | rfl
def Q12 (Z : State) (q : Addr) (ky la : Int64) (h0 : Heap) (n0 : Nat) (vv : Option Value) (h : Heap) (LL : List Loc) : Prop := ∃ (rr : Int32), vv = some (.int rr) ∧ Fr n0 LL ∧ (ky.toInt = la.toInt → rr.toInt = 0) ∧ (0 ≤ ky.toInt → la.toInt < 0 → rr.toInt = 64) ∧ (0 ≤ ky.toInt → 0 ≤ la.toInt → ¬ ky.toInt = la.toInt → 1 ≤ rr.toInt ∧ rr.toInt ≤ 63) ∧ h = h0
set_option maxRecDepth 65536 in
set_option maxHeartbeats 40000000 in
theorem rm12 (l : Launch) (Z : State) (a0 : Array Value) (hw : ∀ d ∈ tables_1, d.before a0 Z = true) (ws : List Jvm.Cond) (q : Addr) (ky la : Int64) (h0 : Heap) (n0 : Nat) (Z0 : n0 ≤ h0.size) (E : Exa Z h0 q cR) (Fl : Fld Z h0 q cR "last" "J" (.long la)) :
    MetFree l (⟨cR, "bucketOf", "(J)I"⟩ : MethodName) (head1 (Jvm.Cond.code (⟨cR, "bucketOf", "(J)I"⟩ : MethodName) prog_107_method_8_code 3 (some .int) :: ws) ({ frames := 2, cells := 0, slots := 0, locals := 29 } : Room)) (fun aa UU => aa = #[(.ref q), (.long ky)] ∧ Z.Warmed39 UU.vm ∧ UU.heap = h0) (fun _ _ _ _ _ => True) (fun _ UU oo UU' => ∃ vv LL, oo = .returned vv ∧ Q12 Z q ky la h0 n0 vv UU'.heap LL ∧ FrameEnd UU oo UU' LL 0 0) := by
  refine MetFree.of_bodySF (plainFor_of_name pn_2) hisR ?_
  intro p e s m args below meth c s₁ Bd hml0 hP hK
  obtain ⟨rfl, hZ, hh⟩ := hP
  have hx := Bd.exec
  have hby := Bd.bytes
  have hlk : meth.locks = false := BodyLoose.notSynchronized Bd
  have hml : c.maxLocals = 3 := hml0
  have hown : s.vm.findClass cR = some m.cls := findClass_of_methodNamed Bd.named
  have hnm := (name_of_methodNamed Bd.named Bd.method).1
  have X0 : Stand p l e ({ frames := 2, cells := 0, slots := 0, locals := 29 } : Room) s m #[(.ref q), (.long ky)] below meth c s₁ [] 0 0 := Stand.of_body Bd
  have e0 : s₁.heap = h0 := by rw [← hh, Bd.state]; rfl
  have N0 := Fr.nil n0
  have K0 : Keep h0 h0 [] := Keep.refl h0 _
  refine (?_ : Go p e below s (Q12 Z q ky la h0 n0) 0 0 (s₁.setTop (entryFrame m #[(.ref q), (.long ky)] 3)))
  rw [ef_rm12]
  generalize hQ : Q12 Z q ky la h0 n0 = Q
  show Go p e below s Q 0 0 (s₁.setTop (mkF m 0 #[vr q, vj ky, sd] []))
  have f1 := rng64 ky
  refine Go.st (fun _ k => XS.bipush X0.here hx rfl (hb hby d12_0) k) ?_
  refine gE X0 hx hby rfl d12_2 rfl ?_
  refine gA X0 hx hby rfl d12_3 rfl rfl ?_
  obtain ⟨T2, X2, e2, st2⟩ := getF X0 hx hZ hown (host := "") (Or.inl (tb hw 28 rfl)) Via.refl e0 Fl (g := (mkF m 4 #[vr q, vj ky, sd] [(.ref q), (.long ky), (.int (64 : Int32))])) rfl rfl (hb hby d12_4)
  refine Go.st st2 ?_
  refine Go.st (fun _ k => XS.lxor X2.here hx rfl (hb hby d12_7) rfl k) ?_
  show Go p e below s Q 0 0 (T2.setTop (mkF m 8 #[vr q, vj ky, sd] [(.long (ky ^^^ la)), (.int (64 : Int32))]))
  have hxs := xor_sign ky la
  have hxz := xor_zero ky la
  have f4 := rng64 la
  have f5 := rng64 (ky ^^^ la)
  obtain ⟨_, _, ⟨T3, L3, k3, n3⟩, -, X3, ⟨Lc3, hQ3, l3, y3, z3⟩, st3⟩ := Jvm.LawKit.callS X2 hx (y := (⟨"java/lang/Long", "numberOfLeadingZeros", "(J)I"⟩ : MethodName)) hown (mvT hZ (tb hw 107 rfl)) (mvT hZ (tb hw 108 rfl)) (mvT hZ (tb hw 109 rfl)) (mvT hZ (tb hw 110 rfl)) (by decide) (backOf (W := 1) (rm13 l Z a0 hw [] (ky ^^^ la) h0 n0 (Nat.le_trans Z0 K0.1) ) hZ (tb hw 110 rfl) (tb hw 109 rfl) (by decide) (by decide)) (g := (mkF m 8 #[vr q, vj ky, sd] [(.long (ky ^^^ la)), (.int (64 : Int32))])) rfl (by rw [hml]; rfl) (argsL := [(.long (ky ^^^ la))]) (rest := [(.int (64 : Int32))]) (lenOf pd_1 rfl) rfl (by show 2 * 0 + _ ≤ _; exact Nat.le_of_eq rfl) (hb hby d12_8) (fun _ _ => ⟨rfl, e2, (by decide : 0 + 0 ≤ _), (by decide : 0 + 0 ≤ _)⟩)
  dsimp only [Pt.U, Pt.locs, Pt.cells, Pt.slots] at X3 l3 y3 z3 st3 hQ3
  subst y3 z3
  obtain ⟨rr_6, rfl, N3q, f7, f8, f9, e3⟩ := hQ3
  have N3 : Fr n0 L3 := by rw [l3]; exact Fr.app N0 N3q
  refine Go.st st3 ?_
  show Go p e below s Q 0 0 (T3.setTop (mkF m 11 #[vr q, vj ky, sd] [(.int rr_6), (.int (64 : Int32))]))
  have f10 := rng32 rr_6
  refine Go.st (fun _ k => XS.isub X3.here hx rfl (hb hby d12_11) rfl k) ?_
  show Go p e below s Q 0 0 (T3.setTop (mkF m 12 #[vr q, vj ky, sd] [(.int ((64 : Int32) - rr_6))]))
  have f11 := liI_64
  have f12 := c_isub (64 : Int32) rr_6
  have f13 := rng32 ((64 : Int32) - rr_6)
  exact Go.retI X3 hx hlk Bd.returns (hb hby d12_12) (by rw [← hQ, e3]; exact ⟨((64 : Int32) - rr_6), rfl, N3, (by omega), (by omega), (by omega), rfl⟩) (by decide) (by decide)
theorem pn_3 : plainName "java/util/Arrays" = true := by first | (simp [plainName, overriddenIn]; done) | decide +kernel
theorem d7_0 : decode kc7 0 = .ok (.iconst 0, 1) := by decide +kernel
theorem d7_1 : decode kc7 1 = .ok (.istore_n 2, 1) := by decide +kernel
theorem d7_2 : decode kc7 2 = .ok (.aload_n 0, 1) := by decide +kernel
theorem d7_3 : decode kc7 3 = .ok (.arraylength, 1) := by decide +kernel
theorem d7_4 : decode kc7 4 = .ok (.istore_n 3, 1) := by decide +kernel
theorem d7_5 : decode kc7 5 = .ok (.iload_n 2, 1) := by decide +kernel
theorem d7_6 : decode kc7 6 = .ok (.iload_n 3, 1) := by decide +kernel
theorem d7_7 : decode kc7 7 = .ok (.if_icmp .ge 13, 3) := by decide +kernel
theorem d7_10 : decode kc7 10 = .ok (.aload_n 0, 1) := by decide +kernel
theorem d7_11 : decode kc7 11 = .ok (.iload_n 2, 1) := by decide +kernel
theorem d7_12 : decode kc7 12 = .ok (.iload_n 1, 1) := by decide +kernel
theorem d7_13 : decode kc7 13 = .ok (.iastore, 1) := by decide +kernel
theorem d7_14 : decode kc7 14 = .ok (.iinc 2 1, 3) := by decide +kernel
theorem d7_17 : decode kc7 17 = .ok (.goto (-12), 3) := by decide +kernel
theorem d7_20 : decode kc7 20 = .ok (.return_, 1) := by decide +kernel
theorem ef_rm7 (m : MethodId) (ar : Addr) : entryFrame m #[(.ref ar), (.int (0 : Int32))] 4 = mkF m 0 #[vr ar, vi (0 : Int32), un, un] [] := by first | (simp [entryFrame, mkF, argsToLocals, Value.category]; done) | rfl
def Q7 (Z : State) (ar : Addr) (nn : Int32) (ff : Nat → Int32) (h0 : Heap) (n0 : Nat) (vv : Option Value) (h : Heap) (LL : List Loc) : Prop := ∃ (gg : Nat → Int32), vv = none ∧ Fr n0 LL ∧ (∀ j : Nat, (j : Int) < nn.toInt → gg j = 0) ∧ Keep h0 h [ar] ∧ (Vec Z h ar .int nn (ints gg))
set_option maxRecDepth 65536 in
set_option maxHeartbeats 40000000 in
theorem rm7 (l : Launch) (Z : State) (a0 : Array Value) (hw : ∀ d ∈ tables_1, d.before a0 Z = true) (ws : List Jvm.Cond) (ar : Addr) (nn : Int32) (ff : Nat → Int32) (h0 : Heap) (n0 : Nat) (Z0 : n0 ≤ h0.size) (hV : Vec Z h0 ar .int nn (ints ff)) (hn : 0 ≤ nn.toInt) (hG : n0 ≤ ar) :
    MetFree l (⟨"java/util/Arrays", "fill", "([II)V"⟩ : MethodName) (head1 (Jvm.Cond.code (⟨"java/util/Arrays", "fill", "([II)V"⟩ : MethodName) kc7 4 none :: ws) ({ frames := 0, cells := 0, slots := 0, locals := 0 } : Room)) (fun aa UU => aa = #[(.ref ar), (.int (0 : Int32))] ∧ Z.Warmed39 UU.vm ∧ UU.heap = h0) (fun _ _ _ _ _ => True) (fun _ UU oo UU' => ∃ vv LL, oo = .returned vv ∧ Q7 Z ar nn ff h0 n0 vv UU'.heap LL ∧ FrameEnd UU oo UU' LL 0 0) := by
  refine MetFree.of_bodySF (plainFor_of_name pn_3) hisR ?_
  intro p e s m args below meth c s₁ Bd hml0 hP hK
  obtain ⟨rfl, hZ, hh⟩ := hP
  have hx := Bd.exec
  have hby := Bd.bytes
  have hlk : meth.locks = false := BodyLoose.notSynchronized Bd
  have hml : c.maxLocals = 4 := hml0
  have hown : s.vm.findClass "java/util/Arrays" = some m.cls := findClass_of_methodNamed Bd.named
  have hnm := (name_of_methodNamed Bd.named Bd.method).1
  have X0 : Stand p l e ({ frames := 0, cells := 0, slots := 0, locals := 0 } : Room) s m #[(.ref ar), (.int (0 : Int32))] below meth c s₁ [] 0 0 := Stand.of_body Bd
  have e0 : s₁.heap = h0 := by rw [← hh, Bd.state]; rfl
  have N0 := Fr.nil n0
  have K0 : Keep h0 h0 [ar] := Keep.refl h0 _
  refine (?_ : Go p e below s (Q7 Z ar nn ff h0 n0) 0 0 (s₁.setTop (entryFrame m #[(.ref ar), (.int (0 : Int32))] 4)))
  rw [ef_rm7]
  generalize hQ : Q7 Z ar nn ff h0 n0 = Q
  show Go p e below s Q 0 0 (s₁.setTop (mkF m 0 #[vr ar, vi (0 : Int32), un, un] []))
  have f1 := liI_0
  refine gI X0 hx hby rfl d7_0 ?_
  refine gT X0 hx hby rfl d7_1 rfl (l' := #[vr ar, vi (0 : Int32), vi (0 : Int32), un]) rfl ?_
  refine gA X0 hx hby rfl d7_2 rfl rfl ?_
  refine Go.st (Vec.len X0 hx hZ e0 hV (g := (mkF m 3 #[vr ar, vi (0 : Int32), vi (0 : Int32), un] [(.ref ar)])) rfl rfl (hb hby d7_3)) ?_
  refine gT X0 hx hby rfl d7_4 rfl (l' := #[vr ar, vi (0 : Int32), vi (0 : Int32), vi nn]) rfl ?_
  show Go p e below s Q 0 0 (s₁.setTop (mkF m 5 #[vr ar, vi (0 : Int32), vi (0 : Int32), vi nn] []))
  have lp4 : ∀ (kg3 : Nat) (Tg3 : State) (hg3 : Heap) (Lgg3 : List Loc) (Xg3 : Stand p l e ({ frames := 0, cells := 0, slots := 0, locals := 0 } : Room) s m #[(.ref ar), (.int (0 : Int32))] below meth c Tg3 Lgg3 0 0) (eg3 : Tg3.heap = hg3) (Ng3 : Fr n0 Lgg3) (Kg3 : Keep h0 hg3 [ar]) (i5 : Int32) (g5 : Nat → Int32) (hfg3_0 : Vec Z hg3 ar .int nn (ints g5)) (hpg3_0 : 0 ≤ i5.toInt ∧ i5.toInt ≤ nn.toInt) (hpg3_1 : ∀ j : Nat, (j : Int) < i5.toInt → g5 j = 0), (nn.toInt - i5.toInt).toNat = kg3 → Go p e below s Q 0 0 (Tg3.setTop (mkF m 5 #[vr ar, vi (0 : Int32), vi i5, vi nn] [])) := by
    intro kg3
    induction kg3 using Nat.strongRecOn with
    | ind kg3 ihg3 =>
    intro Tg3 hg3 Lgg3 Xg3 eg3 Ng3 Kg3 i5 g5 hfg3_0 hpg3_0 hpg3_1 hkg3
    have f5 := rng32 i5
    show Go p e below s Q 0 0 (Tg3.setTop (mkF m 5 #[vr ar, vi (0 : Int32), vi i5, vi nn] []))
    refine gC Xg3 hx hby rfl d7_5 rfl ?_
    refine gC Xg3 hx hby rfl d7_6 rfl ?_
    have f6 := rng32 nn
    by_cases c7 : i5.toInt < nn.toInt
    ·
      refine gM Xg3 hx hby rfl d7_7 rfl (tlt (ltI rfl rfl c7)).2.1 ?_
      refine gA Xg3 hx hby rfl d7_10 rfl rfl ?_
      refine gC Xg3 hx hby rfl d7_11 rfl ?_
      refine gC Xg3 hx hby rfl d7_12 rfl ?_
      show Go p e below s Q 0 0 (Tg3.setTop (mkF m 13 #[vr ar, vi (0 : Int32), vi i5, vi nn] [(.int (0 : Int32)), (.int i5), (.ref ar)]))
      have r9 : 0 ≤ i5.toInt := by omega
      have r10 : i5.toInt < nn.toInt := by omega
      obtain ⟨T8, h8, X8, e8, W8, V8, st8⟩ := Vec.istI Xg3 hx hZ eg3 hfg3_0 (j := i5) r9 r10 (g := (mkF m 13 #[vr ar, vi (0 : Int32), vi i5, vi nn] [(.int (0 : Int32)), (.int i5), (.ref ar)])) rfl rfl (hb hby d7_13)
      have h11 : Vec Z h8 ar .int nn (ints (updF g5 i5.toInt.toNat (0 : Int32))) := V8
      have K8 : Keep h0 h8 [ar] := Kg3.wr W8 (Or.inl (List.mem_of_getElem? (i := 0) rfl))
      have N8 := Fr.snoc X8 Ng3 hG
      refine Go.st st8 ?_
      show Go p e below s Q 0 0 (T8.setTop (mkF m 14 #[vr ar, vi (0 : Int32), vi i5, vi nn] []))
      refine gInc X8 hx hby rfl d7_14 rfl (l' := #[vr ar, vi (0 : Int32), vi (i5 + (1 : Int32)), vi nn]) rfl ?_
      show Go p e below s Q 0 0 (T8.setTop (mkF m 17 #[vr ar, vi (0 : Int32), vi (i5 + (1 : Int32)), vi nn] []))
      have f12 := liI_1
      have f13 := c_iadd i5 (1 : Int32)
      have f14 := rng32 (i5 + (1 : Int32))
      generalize hv_v15 : (i5 + (1 : Int32)) = v15 at f13 f14 ⊢
      refine gG X8 hx hby rfl (pc0 := 17) (pc' := 5) rfl d7_17 (by decide) (by decide) ?_
      show Go p e below s Q 0 0 (T8.setTop (mkF m 5 #[vr ar, vi (0 : Int32), vi v15, vi nn] []))
      exact ihg3 _ (by omega) T8 h8 _ (up X8 (by decide) (by decide)) e8 N8 K8 v15 (updF g5 i5.toInt.toNat (0 : Int32)) h11 (by omega) (by exact fill_step hpg3_1 (by omega)) rfl
    ·
      refine gZ Xg3 hx hby rfl (pc0 := 7) (pc' := 20) rfl d7_7 rfl (flt (nltI rfl rfl c7)).2.1 (by decide) (by decide) ?_
      show Go p e below s Q 0 0 (Tg3.setTop (mkF m 20 #[vr ar, vi (0 : Int32), vi i5, vi nn] []))
      exact Go.retV Xg3 hx hlk Bd.returns (hb hby d7_20) (by rw [← hQ, eg3]; exact ⟨g5, rfl, Ng3, (by exact fun j hj => hpg3_1 j (by omega)), Kg3, hfg3_0⟩) (by decide) (by decide)
  have f16 := rng32 nn
  exact lp4 _ s₁ h0 _ (up X0 (by decide) (by decide)) e0 N0 K0 (0 : Int32) ff hV (by omega) (by intro j hj; exact absurd hj (by omega)) rfl
theorem d17_0 : decode prog_107_method_3_code 0 = .ok (.aload_n 0, 1) := by decide +kernel
theorem d17_1 : decode prog_107_method_3_code 1 = .ok (.getfield 38, 3) := by decide +kernel
theorem d17_4 : decode prog_107_method_3_code 4 = .ok (.ifCond .ne 7, 3) := by decide +kernel
theorem d17_7 : decode prog_107_method_3_code 7 = .ok (.iconst 1, 1) := by decide +kernel
theorem d17_8 : decode prog_107_method_3_code 8 = .ok (.goto 4, 3) := by decide +kernel
theorem d17_12 : decode prog_107_method_3_code 12 = .ok (.ireturn, 1) := by decide +kernel
theorem d17_11 : decode prog_107_method_3_code 11 = .ok (.iconst 0, 1) := by decide +kernel
theorem ef_rm17 (m : MethodId) (q : Addr) : entryFrame m #[(.ref q)] 1 = mkF m 0 #[vr q] [] := by first | (simp [entryFrame, mkF, argsToLocals, Value.category]; done) | rfl
def Q17 (Z : State) (q : Addr) (sn : Int32) (h0 : Heap) (n0 : Nat) (vv : Option Value) (h : Heap) (LL : List Loc) : Prop := ∃ (rr : Int32), vv = some (.int rr) ∧ Fr n0 LL ∧ ((sn.toInt = 0 ∧ rr.toInt = 1) ∨ (¬ sn.toInt = 0 ∧ rr.toInt = 0)) ∧ h = h0
set_option maxRecDepth 65536 in
set_option maxHeartbeats 40000000 in
theorem rm17 (l : Launch) (Z : State) (a0 : Array Value) (hw : ∀ d ∈ tables_1, d.before a0 Z = true) (ws : List Jvm.Cond) (q : Addr) (sn : Int32) (h0 : Heap) (n0 : Nat) (Z0 : n0 ≤ h0.size) (F_n : Fld Z h0 q cR "size" "I" (.int sn)) :
    MetFree l (⟨cR, "isEmpty", "()Z"⟩ : MethodName) (head1 (Jvm.Cond.code (⟨cR, "isEmpty", "()Z"⟩ : MethodName) prog_107_method_3_code 1 (some .boolean) :: ws) ({ frames := 0, cells := 0, slots := 0, locals := 0 } : Room)) (fun aa UU => aa = #[(.ref q)] ∧ Z.Warmed39 UU.vm ∧ UU.heap = h0) (fun _ _ _ _ _ => True) (fun _ UU oo UU' => ∃ vv LL, oo = .returned vv ∧ Q17 Z q sn h0 n0 vv UU'.heap LL ∧ FrameEnd UU oo UU' LL 0 0) := by
  refine MetFree.of_bodySF (plainFor_of_name pn_2) hisR ?_
  intro p e s m args below meth c s₁ Bd hml0 hP hK
  obtain ⟨rfl, hZ, hh⟩ := hP
  have hx := Bd.exec
  have hby := Bd.bytes
  have hlk : meth.locks = false := BodyLoose.notSynchronized Bd
  have hml : c.maxLocals = 1 := hml0
  have hown : s.vm.findClass cR = some m.cls := findClass_of_methodNamed Bd.named
  have hnm := (name_of_methodNamed Bd.named Bd.method).1
  have X0 : Stand p l e ({ frames := 0, cells := 0, slots := 0, locals := 0 } : Room) s m #[(.ref q)] below meth c s₁ [] 0 0 := Stand.of_body Bd
  have e0 : s₁.heap = h0 := by rw [← hh, Bd.state]; rfl
  have N0 := Fr.nil n0
  have K0 : Keep h0 h0 [] := Keep.refl h0 _
  refine (?_ : Go p e below s (Q17 Z q sn h0 n0) 0 0 (s₁.setTop (entryFrame m #[(.ref q)] 1)))
  rw [ef_rm17]
  generalize hQ : Q17 Z q sn h0 n0 = Q
  show Go p e below s Q 0 0 (s₁.setTop (mkF m 0 #[vr q] []))
  refine gA X0 hx hby rfl d17_0 rfl rfl ?_
  obtain ⟨T1, X1, e1, st1⟩ := getF X0 hx hZ hown (host := "") (Or.inl (tb hw 70 rfl)) Via.refl e0 F_n (g := (mkF m 1 #[vr q] [(.ref q)])) rfl rfl (hb hby d17_1)
  refine Go.st st1 ?_
  have f2 := rng32 sn
  have f3 := liI_0
  by_cases c4 : sn.toInt = 0
  ·
    refine gN X1 hx hby rfl d17_4 rfl ((if0 _ _).trans (teq (eqI rfl liI_0 c4)).2) ?_
    refine gI X1 hx hby rfl d17_7 ?_
    refine gG X1 hx hby rfl (pc0 := 8) (pc' := 12) rfl d17_8 (by decide) (by decide) ?_
    show Go p e below s Q 0 0 (T1.setTop (mkF m 12 #[vr q] [(.int (1 : Int32))]))
    have f5 := liI_1
    exact Go.retN X1 hx hlk (by simp) Bd.returns (hb hby d17_12) (z' := (1 : Int32)) (by decide) (by rw [← hQ, e1]; exact ⟨(1 : Int32), rfl, N0, (by omega), rfl⟩) (by decide) (by decide)
  ·
    refine gY X1 hx hby rfl (pc0 := 4) (pc' := 11) rfl d17_4 rfl ((if0 _ _).trans (feq (neI rfl liI_0 c4)).2) (by decide) (by decide) ?_
    refine gI X1 hx hby rfl d17_11 ?_
    show Go p e below s Q 0 0 (T1.setTop (mkF m 12 #[vr q] [(.int (0 : Int32))]))
    exact Go.retN X1 hx hlk (by simp) Bd.returns (hb hby d17_12) (z' := (0 : Int32)) (by decide) (by rw [← hQ, e1]; exact ⟨(0 : Int32), rfl, N0, (by omega), rfl⟩) (by decide) (by decide)
theorem d6_0 : decode prog_107_method_2_code 0 = .ok (.aload_n 0, 1) := by decide +kernel
theorem d6_1 : decode prog_107_method_2_code 1 = .ok (.getfield 21, 3) := by decide +kernel
theorem d6_4 : decode prog_107_method_2_code 4 = .ok (.iconst 0, 1) := by decide +kernel
theorem liI_65 : (65 : Int32).toInt = 65 := by decide
theorem pd_2 : parseMethodDescriptor "([II)V" = some ⟨[(.array .int), .int], none⟩ := by decide +kernel
theorem d6_5 : decode prog_107_method_2_code 5 = .ok (.invokestatic 32, 3) := by decide +kernel
theorem d6_8 : decode prog_107_method_2_code 8 = .ok (.aload_n 0, 1) := by decide +kernel
theorem d6_9 : decode prog_107_method_2_code 9 = .ok (.iconst 0, 1) := by decide +kernel
theorem d6_10 : decode prog_107_method_2_code 10 = .ok (.putfield 38, 3) := by decide +kernel
theorem sl_0 {Z : State} {a0 : Array Value} (hw : ∀ d ∈ tables_1, d.before a0 Z = true) : List.Nodup [Jvm.RoadKit.slotOf Z cR "keys" "[[J", Jvm.RoadKit.slotOf Z cR "ids" "[[I", Jvm.RoadKit.slotOf Z cR "sizes" "[I", Jvm.RoadKit.slotOf Z cR "last" "J", Jvm.RoadKit.slotOf Z cR "size" "I"] := by
  have w0 : Laid Z a0 cR cR "keys" "[[J" := (Or.inr (tb hw 19 rfl))
  have p0 : parseFieldDescriptor "[[J" = some (.array (.array .long)) := by decide
  have w1 : Laid Z a0 cR cR "ids" "[[I" := (Or.inr (tb hw 23 rfl))
  have p1 : parseFieldDescriptor "[[I" = some (.array (.array .int)) := by decide
  have w2 : Laid Z a0 cR cR "sizes" "[I" := (Or.inr (tb hw 26 rfl))
  have p2 : parseFieldDescriptor "[I" = some (.array .int) := by decide
  have w3 : Laid Z a0 cR cR "last" "J" := (Or.inl (tb hw 29 rfl))
  have p3 : parseFieldDescriptor "J" = some .long := by decide
  have w4 : Laid Z a0 cR cR "size" "I" := (Or.inl (tb hw 71 rfl))
  have p4 : parseFieldDescriptor "I" = some .int := by decide
  exact (List.nodup_cons.mpr ⟨(ninS (slot_ne w0 w1 (by decide) p0 p1) (ninS (slot_ne w0 w2 (by decide) p0 p2) (ninS (slot_ne w0 w3 (by decide) p0 p3) (ninS (slot_ne w0 w4 (by decide) p0 p4) nin0)))), (List.nodup_cons.mpr ⟨(ninS (slot_ne w1 w2 (by decide) p1 p2) (ninS (slot_ne w1 w3 (by decide) p1 p3) (ninS (slot_ne w1 w4 (by decide) p1 p4) nin0))), (List.nodup_cons.mpr ⟨(ninS (slot_ne w2 w3 (by decide) p2 p3) (ninS (slot_ne w2 w4 (by decide) p2 p4) nin0)), (List.nodup_cons.mpr ⟨(ninS (slot_ne w3 w4 (by decide) p3 p4) nin0), (List.nodup_cons.mpr ⟨nin0, List.nodup_nil⟩)⟩)⟩)⟩)⟩)
theorem d6_13 : decode prog_107_method_2_code 13 = .ok (.aload_n 0, 1) := by decide +kernel
theorem d6_14 : decode prog_107_method_2_code 14 = .ok (.ldc2_w 26, 3) := by decide +kernel
theorem d6_17 : decode prog_107_method_2_code 17 = .ok (.putfield 28, 3) := by decide +kernel
theorem d6_20 : decode prog_107_method_2_code 20 = .ok (.return_, 1) := by decide +kernel
theorem ef_rm6 (m : MethodId) (q : Addr) : entryFrame m #[(.ref q)] 1 = mkF m 0 #[vr q] [] := by first | (simp [entryFrame, mkF, argsToLocals, Value.category]; done) | rfl
def Q6 (Z : State) (q ks js ss : Addr) (kf jf : Nat → Addr) (sz : Nat → Int32) (KF : Nat → Nat → Int64) (JF : Nat → Nat → Int32) (sn : Int32) (la : Int64) (h0 : Heap) (n0 : Nat) (vv : Option Value) (h : Heap) (LL : List Loc) : Prop := ∃ (s2 : Nat → Int32), vv = none ∧ Fr n0 LL ∧ (∀ b : Nat, b < 65 → s2 b = 0) ∧ Keep h0 h [q, ss] ∧ (Exa Z h q cR) ∧ (Fld Z h q cR "keys" "[[J" (.ref ks)) ∧ (Fld Z h q cR "ids" "[[I" (.ref js)) ∧ (Fld Z h q cR "sizes" "[I" (.ref ss)) ∧ (Fld Z h q cR "size" "I" (.int (0 : Int32))) ∧ (Fld Z h q cR "last" "J" (.long (-9223372036854775808 : Int64))) ∧ (RA Z h ks .long kf) ∧ (RA Z h js .int jf) ∧ (Vec Z h ss .int (65 : Int32) (ints s2)) ∧ (RwJ Z h kf KF) ∧ (RwI Z h jf JF)
set_option maxRecDepth 65536 in
set_option maxHeartbeats 40000000 in
theorem rm6 (l : Launch) (Z : State) (a0 : Array Value) (hw : ∀ d ∈ tables_1, d.before a0 Z = true) (ws : List Jvm.Cond) (q ks js ss : Addr) (kf jf : Nat → Addr) (sz : Nat → Int32) (KF : Nat → Nat → Int64) (JF : Nat → Nat → Int32) (sn : Int32) (la : Int64) (h0 : Heap) (n0 : Nat) (Z0 : n0 ≤ h0.size) (E_q : Exa Z h0 q cR) (F_k : Fld Z h0 q cR "keys" "[[J" (.ref ks)) (F_i : Fld Z h0 q cR "ids" "[[I" (.ref js)) (F_s : Fld Z h0 q cR "sizes" "[I" (.ref ss)) (F_n : Fld Z h0 q cR "size" "I" (.int sn)) (F_l : Fld Z h0 q cR "last" "J" (.long la)) (A_k : RA Z h0 ks .long kf) (A_j : RA Z h0 js .int jf) (V_s : Vec Z h0 ss .int (65 : Int32) (ints sz)) (W_k : RwJ Z h0 kf KF) (W_j : RwI Z h0 jf JF) (Ik : Inj kf) (Ij : Inj jf) (GR : ∀ b : Nat, b < 65 → n0 ≤ kf b ∧ n0 ≤ jf b) (G_q : n0 ≤ q) (G_s : n0 ≤ ss) (N_q : NR kf jf q) (N_ks : NR kf jf ks) (N_js : NR kf jf js) (N_ss : NR kf jf ss) (n_q_ss : q ≠ ss) (n_ks_ss : ks ≠ ss) (n_js_ss : js ≠ ss) (n_ks_q : ks ≠ q) (n_js_q : js ≠ q) :
    MetFree l (⟨cR, "clear", "()V"⟩ : MethodName) (head1 (Jvm.Cond.code (⟨cR, "clear", "()V"⟩ : MethodName) prog_107_method_2_code 1 none :: ws) ({ frames := 1, cells := 0, slots := 0, locals := 15 } : Room)) (fun aa UU => aa = #[(.ref q)] ∧ Z.Warmed39 UU.vm ∧ UU.heap = h0) (fun _ _ _ _ _ => True) (fun _ UU oo UU' => ∃ vv LL, oo = .returned vv ∧ Q6 Z q ks js ss kf jf sz KF JF sn la h0 n0 vv UU'.heap LL ∧ FrameEnd UU oo UU' LL 0 0) := by
  refine MetFree.of_bodySF (plainFor_of_name pn_2) hisR ?_
  intro p e s m args below meth c s₁ Bd hml0 hP hK
  obtain ⟨rfl, hZ, hh⟩ := hP
  have hx := Bd.exec
  have hby := Bd.bytes
  have hlk : meth.locks = false := BodyLoose.notSynchronized Bd
  have hml : c.maxLocals = 1 := hml0
  have hown : s.vm.findClass cR = some m.cls := findClass_of_methodNamed Bd.named
  have hnm := (name_of_methodNamed Bd.named Bd.method).1
  have X0 : Stand p l e ({ frames := 1, cells := 0, slots := 0, locals := 15 } : Room) s m #[(.ref q)] below meth c s₁ [] 0 0 := Stand.of_body Bd
  have e0 : s₁.heap = h0 := by rw [← hh, Bd.state]; rfl
  have N0 := Fr.nil n0
  have K0 : Keep h0 h0 [q, ss] := Keep.refl h0 _
  refine (?_ : Go p e below s (Q6 Z q ks js ss kf jf sz KF JF sn la h0 n0) 0 0 (s₁.setTop (entryFrame m #[(.ref q)] 1)))
  rw [ef_rm6]
  generalize hQ : Q6 Z q ks js ss kf jf sz KF JF sn la h0 n0 = Q
  show Go p e below s Q 0 0 (s₁.setTop (mkF m 0 #[vr q] []))
  refine gA X0 hx hby rfl d6_0 rfl rfl ?_
  obtain ⟨T1, X1, e1, st1⟩ := getF X0 hx hZ hown (host := "") (Or.inl (tb hw 25 rfl)) Via.refl e0 F_s (g := (mkF m 1 #[vr q] [(.ref q)])) rfl rfl (hb hby d6_1)
  refine Go.st st1 ?_
  refine gI X1 hx hby rfl d6_4 ?_
  have f3 := liI_65
  have f4 := liI_0
  have p5 : 0 ≤ (65 : Int32).toInt := by omega
  obtain ⟨_, _, ⟨T2, L2, k2, n2⟩, -, X2, ⟨Lc2, hQ2, l2, y2, z2⟩, st2⟩ := Jvm.LawKit.callS X1 hx (y := (⟨"java/util/Arrays", "fill", "([II)V"⟩ : MethodName)) hown (mvT hZ (tb hw 66 rfl)) (mvT hZ (tb hw 67 rfl)) (mvT hZ (tb hw 68 rfl)) (mvT hZ (tb hw 69 rfl)) (by decide) (backOf (W := 0) (rm7 l Z a0 hw [] ss (65 : Int32) sz h0 n0 (Nat.le_trans Z0 K0.1) V_s p5 G_s) hZ (tb hw 69 rfl) (tb hw 68 rfl) (by decide) (by decide)) (g := (mkF m 5 #[vr q] [(.int (0 : Int32)), (.ref ss)])) rfl (by rw [hml]; rfl) (argsL := [(.ref ss), (.int (0 : Int32))]) (rest := []) (lenOf pd_2 rfl) rfl (by show 2 * 0 + _ ≤ _; exact Nat.le_of_eq rfl) (hb hby d6_5) (fun _ _ => ⟨rfl, e1, (by decide : 0 + 0 ≤ _), (by decide : 0 + 0 ≤ _)⟩)
  dsimp only [Pt.U, Pt.locs, Pt.cells, Pt.slots] at X2 l2 y2 z2 st2 hQ2
  subst y2 z2
  obtain ⟨gg_6, rfl, N2q, f7, K2q, h8⟩ := hQ2
  have N2 : Fr n0 L2 := by rw [l2]; exact Fr.app N0 N2q
  have h9 : Exa Z T2.heap q cR := E_q.keep K2q
  have h10 : Fld Z T2.heap q cR "keys" "[[J" (.ref ks) := F_k.keep K2q (ninS n_q_ss nin0)
  have h11 : Fld Z T2.heap q cR "ids" "[[I" (.ref js) := F_i.keep K2q (ninS n_q_ss nin0)
  have h12 : Fld Z T2.heap q cR "sizes" "[I" (.ref ss) := F_s.keep K2q (ninS n_q_ss nin0)
  have h13 : Fld Z T2.heap q cR "size" "I" (.int sn) := F_n.keep K2q (ninS n_q_ss nin0)
  have h14 : Fld Z T2.heap q cR "last" "J" (.long la) := F_l.keep K2q (ninS n_q_ss nin0)
  have h15 : RA Z T2.heap ks .long kf := A_k.keep K2q (ninS n_ks_ss nin0)
  have h16 : RA Z T2.heap js .int jf := A_j.keep K2q (ninS n_js_ss nin0)
  have h17 : RwJ Z T2.heap kf KF := RwJ.keep W_k K2q (fun b hb => (ninS (N_ss b hb).1 nin0))
  have h18 : RwI Z T2.heap jf JF := RwI.keep W_j K2q (fun b hb => (ninS (N_ss b hb).2 nin0))
  have K2 : Keep h0 T2.heap [q, ss] := K0.trans K2q (fun x hx => (show ∀ x ∈ ([ss] : List Addr), x ∈ ([q, ss] : List Addr) ∨ h0.size ≤ x from (allS (Or.inl (List.mem_of_getElem? (i := 1) rfl)) all0)) x hx)
  refine Go.st st2 ?_
  show Go p e below s Q 0 0 (T2.setTop (mkF m 8 #[vr q] []))
  have hz := f7
  refine gA X2 hx hby rfl d6_8 rfl rfl ?_
  refine gI X2 hx hby rfl d6_9 ?_
  obtain ⟨T19, h19, X19, e19, W19, st19⟩ := putF X2 hx hZ hown (host := "") (Or.inl (tb hw 70 rfl)) Via.refl rfl h13 h9 (Or.inl (tb hw 71 rfl)) (tb hw 10 rfl) (ty := .int) (by decide) rfl rfl (g := (mkF m 10 #[vr q] [(.int (0 : Int32)), (.ref q)])) rfl rfl (hb hby d6_10)
  have h20 : Exa Z h19 q cR := h9.wr W19
  have h21 : Fld Z h19 q cR "keys" "[[J" (.ref ks) := h10.other W19 (Or.inr (ndq (sl_0 hw) 0 4 rfl))
  have h22 : Fld Z h19 q cR "ids" "[[I" (.ref js) := h11.other W19 (Or.inr (ndq (sl_0 hw) 1 4 rfl))
  have h23 : Fld Z h19 q cR "sizes" "[I" (.ref ss) := h12.other W19 (Or.inr (ndq (sl_0 hw) 2 4 rfl))
  have h24 : Fld Z h19 q cR "size" "I" (.int (0 : Int32)) := h13.same W19
  have h25 : Fld Z h19 q cR "last" "J" (.long la) := h14.other W19 (Or.inr (ndq (sl_0 hw) 3 4 rfl))
  have h26 : RA Z h19 ks .long kf := h15.other W19 n_ks_q
  have h27 : RA Z h19 js .int jf := h16.other W19 n_js_q
  have h28 : RwJ Z h19 kf KF := RwJ.other W19 h17 (fun b hb => (N_q b hb).1)
  have h29 : RwI Z h19 jf JF := RwI.other W19 h18 (fun b hb => (N_q b hb).2)
  have h30 : Vec Z h19 ss .int (65 : Int32) (ints gg_6) := h8.other W19 (Ne.symm n_q_ss)
  have K19 : Keep h0 h19 [q, ss] := K2.wr W19 (Or.inl (List.mem_of_getElem? (i := 0) rfl))
  have N19 := Fr.snoc X19 N2 G_q
  refine Go.st st19 ?_
  show Go p e below s Q 0 0 (T19.setTop (mkF m 13 #[vr q] []))
  refine gA X19 hx hby rfl d6_13 rfl rfl ?_
  refine Go.st (X19.ldc2Long hx hown (mvT hZ (tb hw 27 rfl)) (g := (mkF m 14 #[vr q] [(.ref q)])) rfl (hb hby d6_14)) ?_
  show Go p e below s Q 0 0 (T19.setTop (mkF m 17 #[vr q] [(.long (-9223372036854775808 : Int64)), (.ref q)]))
  obtain ⟨T31, h31, X31, e31, W31, st31⟩ := putF X19 hx hZ hown (host := "") (Or.inl (tb hw 28 rfl)) Via.refl e19 h25 h20 (Or.inl (tb hw 29 rfl)) (tb hw 10 rfl) (ty := .long) (by decide) rfl rfl (g := (mkF m 17 #[vr q] [(.long (-9223372036854775808 : Int64)), (.ref q)])) rfl rfl (hb hby d6_17)
  have h32 : Exa Z h31 q cR := h20.wr W31
  have h33 : Fld Z h31 q cR "keys" "[[J" (.ref ks) := h21.other W31 (Or.inr (ndq (sl_0 hw) 0 3 rfl))
  have h34 : Fld Z h31 q cR "ids" "[[I" (.ref js) := h22.other W31 (Or.inr (ndq (sl_0 hw) 1 3 rfl))
  have h35 : Fld Z h31 q cR "sizes" "[I" (.ref ss) := h23.other W31 (Or.inr (ndq (sl_0 hw) 2 3 rfl))
  have h36 : Fld Z h31 q cR "size" "I" (.int (0 : Int32)) := h24.other W31 (Or.inr (ndq (sl_0 hw) 4 3 rfl))
  have h37 : Fld Z h31 q cR "last" "J" (.long (-9223372036854775808 : Int64)) := h25.same W31
  have h38 : RA Z h31 ks .long kf := h26.other W31 n_ks_q
  have h39 : RA Z h31 js .int jf := h27.other W31 n_js_q
  have h40 : RwJ Z h31 kf KF := RwJ.other W31 h28 (fun b hb => (N_q b hb).1)
  have h41 : RwI Z h31 jf JF := RwI.other W31 h29 (fun b hb => (N_q b hb).2)
  have h42 : Vec Z h31 ss .int (65 : Int32) (ints gg_6) := h30.other W31 (Ne.symm n_q_ss)
  have K31 : Keep h0 h31 [q, ss] := K19.wr W31 (Or.inl (List.mem_of_getElem? (i := 0) rfl))
  have N31 := Fr.snoc X31 N19 G_q
  refine Go.st st31 ?_
  show Go p e below s Q 0 0 (T31.setTop (mkF m 20 #[vr q] []))
  exact Go.retV X31 hx hlk Bd.returns (hb hby d6_20) (by rw [← hQ, e31]; exact ⟨gg_6, rfl, N31, (by exact fun b hb => hz b (by show (b : Int) < 65; omega)), K31, h32, h33, h34, h35, h36, h37, h38, h39, h42, h40, h41⟩) (by decide) (by decide)
theorem d15_0 : decode kc15 0 = .ok (.aload_n 0, 1) := by decide +kernel
theorem d15_1 : decode kc15 1 = .ok (.getfield 21, 3) := by decide +kernel
theorem d15_4 : decode kc15 4 = .ok (.iload_n 1, 1) := by decide +kernel
theorem d15_5 : decode kc15 5 = .ok (.iaload, 1) := by decide +kernel
theorem d15_6 : decode kc15 6 = .ok (.istore 5, 2) := by decide +kernel
theorem d15_8 : decode kc15 8 = .ok (.iload 5, 2) := by decide +kernel
theorem d15_10 : decode kc15 10 = .ok (.aload_n 0, 1) := by decide +kernel
theorem d15_11 : decode kc15 11 = .ok (.getfield 11, 3) := by decide +kernel
theorem d15_14 : decode kc15 14 = .ok (.iload_n 1, 1) := by decide +kernel
theorem d15_15 : decode kc15 15 = .ok (.aaload, 1) := by decide +kernel
theorem d15_16 : decode kc15 16 = .ok (.arraylength, 1) := by decide +kernel
theorem d15_17 : decode kc15 17 = .ok (.if_icmp .ne 41, 3) := by decide +kernel
theorem d15_58 : decode kc15 58 = .ok (.aload_n 0, 1) := by decide +kernel
theorem d15_59 : decode kc15 59 = .ok (.getfield 11, 3) := by decide +kernel
theorem d15_62 : decode kc15 62 = .ok (.iload_n 1, 1) := by decide +kernel
theorem d15_63 : decode kc15 63 = .ok (.aaload, 1) := by decide +kernel
theorem d15_64 : decode kc15 64 = .ok (.iload 5, 2) := by decide +kernel
theorem d15_66 : decode kc15 66 = .ok (.lload_n 2, 1) := by decide +kernel
theorem d15_67 : decode kc15 67 = .ok (.lastore, 1) := by decide +kernel
theorem d15_68 : decode kc15 68 = .ok (.aload_n 0, 1) := by decide +kernel
theorem d15_69 : decode kc15 69 = .ok (.getfield 17, 3) := by decide +kernel
theorem d15_72 : decode kc15 72 = .ok (.iload_n 1, 1) := by decide +kernel
theorem d15_73 : decode kc15 73 = .ok (.aaload, 1) := by decide +kernel
theorem d15_74 : decode kc15 74 = .ok (.iload 5, 2) := by decide +kernel
theorem d15_76 : decode kc15 76 = .ok (.iload 4, 2) := by decide +kernel
theorem d15_78 : decode kc15 78 = .ok (.iastore, 1) := by decide +kernel
theorem d15_79 : decode kc15 79 = .ok (.aload_n 0, 1) := by decide +kernel
theorem d15_80 : decode kc15 80 = .ok (.getfield 21, 3) := by decide +kernel
theorem d15_83 : decode kc15 83 = .ok (.iload_n 1, 1) := by decide +kernel
theorem d15_84 : decode kc15 84 = .ok (.iload 5, 2) := by decide +kernel
theorem d15_86 : decode kc15 86 = .ok (.iconst 1, 1) := by decide +kernel
theorem d15_87 : decode kc15 87 = .ok (.iadd, 1) := by decide +kernel
theorem d15_88 : decode kc15 88 = .ok (.iastore, 1) := by decide +kernel
theorem d15_89 : decode kc15 89 = .ok (.return_, 1) := by decide +kernel
theorem ef_rm15 (m : MethodId) (q : Addr) (bk : Int32) (ky : Int64) (id : Int32) : entryFrame m #[(.ref q), (.int bk), (.long ky), (.int id)] 6 = mkF m 0 #[vr q, vi bk, vj ky, sd, vi id, un] [] := by first | (simp [entryFrame, mkF, argsToLocals, Value.category]; done) | rfl
def Q15 (Z : State) (q : Addr) (bk : Int32) (ky : Int64) (id : Int32) (ks js ss : Addr) (kf jf : Nat → Addr) (sz : Nat → Int32) (KF : Nat → Nat → Int64) (JF : Nat → Nat → Int32) (sn : Int32) (la : Int64) (h0 : Heap) (n0 : Nat) (vv : Option Value) (h : Heap) (LL : List Loc) : Prop := vv = none ∧ Fr n0 LL ∧ Keep h0 h ([ss] ++ rowsOf kf jf) ∧ (Exa Z h q cR) ∧ (Fld Z h q cR "keys" "[[J" (.ref ks)) ∧ (Fld Z h q cR "ids" "[[I" (.ref js)) ∧ (Fld Z h q cR "sizes" "[I" (.ref ss)) ∧ (Fld Z h q cR "size" "I" (.int sn)) ∧ (Fld Z h q cR "last" "J" (.long la)) ∧ (RA Z h ks .long kf) ∧ (RA Z h js .int jf) ∧ (Vec Z h ss .int (65 : Int32) (ints (updF sz bk.toInt.toNat ((sz bk.toInt.toNat) + (1 : Int32))))) ∧ (RwJ Z h kf (updF KF bk.toInt.toNat (updF (KF bk.toInt.toNat) (sz bk.toInt.toNat).toInt.toNat ky))) ∧ (RwI Z h jf (updF JF bk.toInt.toNat (updF (JF bk.toInt.toNat) (sz bk.toInt.toNat).toInt.toNat id)))
set_option maxRecDepth 65536 in
set_option maxHeartbeats 40000000 in
theorem rm15 (l : Launch) (Z : State) (a0 : Array Value) (hw : ∀ d ∈ tables_1, d.before a0 Z = true) (ws : List Jvm.Cond) (q : Addr) (bk : Int32) (ky : Int64) (id : Int32) (ks js ss : Addr) (kf jf : Nat → Addr) (sz : Nat → Int32) (KF : Nat → Nat → Int64) (JF : Nat → Nat → Int32) (sn : Int32) (la : Int64) (h0 : Heap) (n0 : Nat) (Z0 : n0 ≤ h0.size) (E_q : Exa Z h0 q cR) (F_k : Fld Z h0 q cR "keys" "[[J" (.ref ks)) (F_i : Fld Z h0 q cR "ids" "[[I" (.ref js)) (F_s : Fld Z h0 q cR "sizes" "[I" (.ref ss)) (F_n : Fld Z h0 q cR "size" "I" (.int sn)) (F_l : Fld Z h0 q cR "last" "J" (.long la)) (A_k : RA Z h0 ks .long kf) (A_j : RA Z h0 js .int jf) (V_s : Vec Z h0 ss .int (65 : Int32) (ints sz)) (W_k : RwJ Z h0 kf KF) (W_j : RwI Z h0 jf JF) (Ik : Inj kf) (Ij : Inj jf) (GR : ∀ b : Nat, b < 65 → n0 ≤ kf b ∧ n0 ≤ jf b) (G_q : n0 ≤ q) (G_s : n0 ≤ ss) (N_q : NR kf jf q) (N_ks : NR kf jf ks) (N_js : NR kf jf js) (N_ss : NR kf jf ss) (n_q_ss : q ≠ ss) (n_ks_ss : ks ≠ ss) (n_js_ss : js ≠ ss) (n_ks_q : ks ≠ q) (n_js_q : js ≠ q) (hbk : 0 ≤ bk.toInt ∧ bk.toInt < 65) (hct : 0 ≤ (sz bk.toInt.toNat).toInt ∧ (sz bk.toInt.toNat).toInt < 4) :
    MetFree l (⟨cR, "add", "(IJI)V"⟩ : MethodName) (head1 (Jvm.Cond.code (⟨cR, "add", "(IJI)V"⟩ : MethodName) kc15 6 none :: ws) ({ frames := 0, cells := 0, slots := 0, locals := 0 } : Room)) (fun aa UU => aa = #[(.ref q), (.int bk), (.long ky), (.int id)] ∧ Z.Warmed39 UU.vm ∧ UU.heap = h0) (fun _ _ _ _ _ => True) (fun _ UU oo UU' => ∃ vv LL, oo = .returned vv ∧ Q15 Z q bk ky id ks js ss kf jf sz KF JF sn la h0 n0 vv UU'.heap LL ∧ FrameEnd UU oo UU' LL 0 0) := by
  refine MetFree.of_bodySF (plainFor_of_name pn_2) hisR ?_
  intro p e s m args below meth c s₁ Bd hml0 hP hK
  obtain ⟨rfl, hZ, hh⟩ := hP
  have hx := Bd.exec
  have hby := Bd.bytes
  have hlk : meth.locks = false := BodyLoose.notSynchronized Bd
  have hml : c.maxLocals = 6 := hml0
  have hown : s.vm.findClass cR = some m.cls := findClass_of_methodNamed Bd.named
  have hnm := (name_of_methodNamed Bd.named Bd.method).1
  have X0 : Stand p l e ({ frames := 0, cells := 0, slots := 0, locals := 0 } : Room) s m #[(.ref q), (.int bk), (.long ky), (.int id)] below meth c s₁ [] 0 0 := Stand.of_body Bd
  have e0 : s₁.heap = h0 := by rw [← hh, Bd.state]; rfl
  have N0 := Fr.nil n0
  have K0 : Keep h0 h0 ([ss] ++ rowsOf kf jf) := Keep.refl h0 _
  refine (?_ : Go p e below s (Q15 Z q bk ky id ks js ss kf jf sz KF JF sn la h0 n0) 0 0 (s₁.setTop (entryFrame m #[(.ref q), (.int bk), (.long ky), (.int id)] 6)))
  rw [ef_rm15]
  generalize hQ : Q15 Z q bk ky id ks js ss kf jf sz KF JF sn la h0 n0 = Q
  show Go p e below s Q 0 0 (s₁.setTop (mkF m 0 #[vr q, vi bk, vj ky, sd, vi id, un] []))
  have f1 := rng32 bk
  have f2 := rng64 ky
  have f3 := rng32 id
  refine gA X0 hx hby rfl d15_0 rfl rfl ?_
  obtain ⟨T4, X4, e4, st4⟩ := getF X0 hx hZ hown (host := "") (Or.inl (tb hw 25 rfl)) Via.refl e0 F_s (g := (mkF m 1 #[vr q, vi bk, vj ky, sd, vi id, un] [(.ref q)])) rfl rfl (hb hby d15_1)
  refine Go.st st4 ?_
  refine gC X4 hx hby rfl d15_4 rfl ?_
  have f6 := liI_65
  have r7 : 0 ≤ bk.toInt := by omega
  have r8 : bk.toInt < (65 : Int32).toInt := by omega
  refine Go.st (Vec.ildI X4 hx hZ e4 V_s (j := bk) r7 r8 (g := (mkF m 5 #[vr q, vi bk, vj ky, sd, vi id, un] [(.int bk), (.ref ss)])) rfl rfl (hb hby d15_5)) ?_
  refine gS X4 hx hby rfl d15_6 rfl (l' := #[vr q, vi bk, vj ky, sd, vi id, vi (sz bk.toInt.toNat)]) rfl ?_
  refine gD X4 hx hby rfl d15_8 rfl ?_
  show Go p e below s Q 0 0 (T4.setTop (mkF m 10 #[vr q, vi bk, vj ky, sd, vi id, vi (sz bk.toInt.toNat)] [(.int (sz bk.toInt.toNat))]))
  refine gA X4 hx hby rfl d15_10 rfl rfl ?_
  obtain ⟨T9, X9, e9, st9⟩ := getF X4 hx hZ hown (host := "") (Or.inl (tb hw 18 rfl)) Via.refl e4 F_k (g := (mkF m 11 #[vr q, vi bk, vj ky, sd, vi id, vi (sz bk.toInt.toNat)] [(.ref q), (.int (sz bk.toInt.toNat))])) rfl rfl (hb hby d15_11)
  refine Go.st st9 ?_
  refine gC X9 hx hby rfl d15_14 rfl ?_
  have r11 : 0 ≤ bk.toInt := by omega
  have r12 : bk.toInt < 65 := by omega
  have hb13 : bk.toInt.toNat < 65 := by omega
  refine Go.st (RA.ild X9 hx hZ e9 A_k (j := bk) r11 r12 (g := (mkF m 15 #[vr q, vi bk, vj ky, sd, vi id, vi (sz bk.toInt.toNat)] [(.int bk), (.ref ks), (.int (sz bk.toInt.toNat))])) rfl rfl (hb hby d15_15)) ?_
  show Go p e below s Q 0 0 (T9.setTop (mkF m 16 #[vr q, vi bk, vj ky, sd, vi id, vi (sz bk.toInt.toNat)] [(.ref (kf bk.toInt.toNat)), (.int (sz bk.toInt.toNat))]))
  obtain ⟨rw10, hr10⟩ : ∃ z, z = kf bk.toInt.toNat := ⟨_, rfl⟩
  rw [← hr10]
  have Grw10 : n0 ≤ rw10 := by rw [hr10]; exact (GR bk.toInt.toNat hb13).1
  have h14 : Vec Z h0 rw10 .long (4 : Int32) (longs (KF bk.toInt.toNat)) := by rw [hr10]; exact W_k bk.toInt.toNat hb13
  show Go p e below s Q 0 0 (T9.setTop (mkF m 16 #[vr q, vi bk, vj ky, sd, vi id, vi (sz bk.toInt.toNat)] [(.ref rw10), (.int (sz bk.toInt.toNat))]))
  refine Go.st (Vec.len X9 hx hZ e9 h14 (g := (mkF m 16 #[vr q, vi bk, vj ky, sd, vi id, vi (sz bk.toInt.toNat)] [(.ref rw10), (.int (sz bk.toInt.toNat))])) rfl rfl (hb hby d15_16)) ?_
  have f16 := rng32 (sz bk.toInt.toNat)
  have f17 := liI_4
  have c18 : ¬ ((sz bk.toInt.toNat).toInt = 4) := by omega
  refine gZ X9 hx hby rfl (pc0 := 17) (pc' := 58) rfl d15_17 rfl (feq (neI rfl liI_4 c18)).2 (by decide) (by decide) ?_
  refine gA X9 hx hby rfl d15_58 rfl rfl ?_
  obtain ⟨T19, X19, e19, st19⟩ := getF X9 hx hZ hown (host := "") (Or.inl (tb hw 18 rfl)) Via.refl e9 F_k (g := (mkF m 59 #[vr q, vi bk, vj ky, sd, vi id, vi (sz bk.toInt.toNat)] [(.ref q)])) rfl rfl (hb hby d15_59)
  refine Go.st st19 ?_
  refine gC X19 hx hby rfl d15_62 rfl ?_
  have r21 : 0 ≤ bk.toInt := by omega
  have r22 : bk.toInt < 65 := by omega
  have hb23 : bk.toInt.toNat < 65 := by omega
  refine Go.st (RA.ild X19 hx hZ e19 A_k (j := bk) r21 r22 (g := (mkF m 63 #[vr q, vi bk, vj ky, sd, vi id, vi (sz bk.toInt.toNat)] [(.int bk), (.ref ks)])) rfl rfl (hb hby d15_63)) ?_
  show Go p e below s Q 0 0 (T19.setTop (mkF m 64 #[vr q, vi bk, vj ky, sd, vi id, vi (sz bk.toInt.toNat)] [(.ref (kf bk.toInt.toNat))]))
  obtain ⟨rw20, hr20⟩ : ∃ z, z = kf bk.toInt.toNat := ⟨_, rfl⟩
  rw [← hr20]
  have Grw20 : n0 ≤ rw20 := by rw [hr20]; exact (GR bk.toInt.toNat hb23).1
  have h24 : Vec Z h0 rw20 .long (4 : Int32) (longs (KF bk.toInt.toNat)) := by rw [hr20]; exact W_k bk.toInt.toNat hb23
  show Go p e below s Q 0 0 (T19.setTop (mkF m 64 #[vr q, vi bk, vj ky, sd, vi id, vi (sz bk.toInt.toNat)] [(.ref rw20)]))
  refine gD X19 hx hby rfl d15_64 rfl ?_
  refine gE X19 hx hby rfl d15_66 rfl ?_
  have r26 : 0 ≤ (sz bk.toInt.toNat).toInt := by omega
  have r27 : (sz bk.toInt.toNat).toInt < (4 : Int32).toInt := by omega
  obtain ⟨T25, h25, X25, e25, W25, V25, st25⟩ := Vec.istJ X19 hx hZ e19 h24 (j := (sz bk.toInt.toNat)) r26 r27 (g := (mkF m 67 #[vr q, vi bk, vj ky, sd, vi id, vi (sz bk.toInt.toNat)] [(.long ky), (.int (sz bk.toInt.toNat)), (.ref rw20)])) rfl rfl (hb hby d15_67)
  have h28 : Exa Z h25 q cR := E_q.wr W25
  have h29 : Fld Z h25 q cR "keys" "[[J" (.ref ks) := F_k.other W25 (Or.inl (nr_k N_q hb23 hr20))
  have h30 : Fld Z h25 q cR "ids" "[[I" (.ref js) := F_i.other W25 (Or.inl (nr_k N_q hb23 hr20))
  have h31 : Fld Z h25 q cR "sizes" "[I" (.ref ss) := F_s.other W25 (Or.inl (nr_k N_q hb23 hr20))
  have h32 : Fld Z h25 q cR "size" "I" (.int sn) := F_n.other W25 (Or.inl (nr_k N_q hb23 hr20))
  have h33 : Fld Z h25 q cR "last" "J" (.long la) := F_l.other W25 (Or.inl (nr_k N_q hb23 hr20))
  have h34 : RA Z h25 ks .long kf := A_k.other W25 (nr_k N_ks hb23 hr20)
  have h35 : RA Z h25 js .int jf := A_j.other W25 (nr_k N_js hb23 hr20)
  have h36 : Vec Z h25 ss .int (65 : Int32) (ints sz) := V_s.other W25 (nr_k N_ss hb23 hr20)
  have h37 : RwJ Z h25 kf (updF KF bk.toInt.toNat (updF (KF bk.toInt.toNat) (sz bk.toInt.toNat).toInt.toNat ky)) := RwJ.set W_k Ik hb23 hr20 W25 V25
  have h38 : RwI Z h25 jf JF := RwI.other W25 W_j (rwi_tne W_j h24 (by decide))
  have h39 : Vec Z h25 rw20 .long (4 : Int32) (longs (updF (KF bk.toInt.toNat) (sz bk.toInt.toNat).toInt.toNat ky)) := V25
  have K25 : Keep h0 h25 ([ss] ++ rowsOf kf jf) := K0.wr W25 (Or.inl (List.mem_append_right _ (mem_k hb23 hr20)))
  have N25 := Fr.snoc X25 N0 Grw20
  refine Go.st st25 ?_
  show Go p e below s Q 0 0 (T25.setTop (mkF m 68 #[vr q, vi bk, vj ky, sd, vi id, vi (sz bk.toInt.toNat)] []))
  refine gA X25 hx hby rfl d15_68 rfl rfl ?_
  obtain ⟨T40, X40, e40, st40⟩ := getF X25 hx hZ hown (host := "") (Or.inl (tb hw 22 rfl)) Via.refl e25 h30 (g := (mkF m 69 #[vr q, vi bk, vj ky, sd, vi id, vi (sz bk.toInt.toNat)] [(.ref q)])) rfl rfl (hb hby d15_69)
  refine Go.st st40 ?_
  refine gC X40 hx hby rfl d15_72 rfl ?_
  have r42 : 0 ≤ bk.toInt := by omega
  have r43 : bk.toInt < 65 := by omega
  have hb44 : bk.toInt.toNat < 65 := by omega
  refine Go.st (RA.ild X40 hx hZ e40 h35 (j := bk) r42 r43 (g := (mkF m 73 #[vr q, vi bk, vj ky, sd, vi id, vi (sz bk.toInt.toNat)] [(.int bk), (.ref js)])) rfl rfl (hb hby d15_73)) ?_
  show Go p e below s Q 0 0 (T40.setTop (mkF m 74 #[vr q, vi bk, vj ky, sd, vi id, vi (sz bk.toInt.toNat)] [(.ref (jf bk.toInt.toNat))]))
  obtain ⟨rw41, hr41⟩ : ∃ z, z = jf bk.toInt.toNat := ⟨_, rfl⟩
  rw [← hr41]
  have Grw41 : n0 ≤ rw41 := by rw [hr41]; exact (GR bk.toInt.toNat hb44).2
  have h45 : Vec Z h25 rw41 .int (4 : Int32) (ints (JF bk.toInt.toNat)) := by rw [hr41]; exact h38 bk.toInt.toNat hb44
  show Go p e below s Q 0 0 (T40.setTop (mkF m 74 #[vr q, vi bk, vj ky, sd, vi id, vi (sz bk.toInt.toNat)] [(.ref rw41)]))
  refine gD X40 hx hby rfl d15_74 rfl ?_
  refine gD X40 hx hby rfl d15_76 rfl ?_
  have r47 : 0 ≤ (sz bk.toInt.toNat).toInt := by omega
  have r48 : (sz bk.toInt.toNat).toInt < (4 : Int32).toInt := by omega
  obtain ⟨T46, h46, X46, e46, W46, V46, st46⟩ := Vec.istI X40 hx hZ e40 h45 (j := (sz bk.toInt.toNat)) r47 r48 (g := (mkF m 78 #[vr q, vi bk, vj ky, sd, vi id, vi (sz bk.toInt.toNat)] [(.int id), (.int (sz bk.toInt.toNat)), (.ref rw41)])) rfl rfl (hb hby d15_78)
  have h49 : Exa Z h46 q cR := h28.wr W46
  have h50 : Fld Z h46 q cR "keys" "[[J" (.ref ks) := h29.other W46 (Or.inl (nr_j N_q hb44 hr41))
  have h51 : Fld Z h46 q cR "ids" "[[I" (.ref js) := h30.other W46 (Or.inl (nr_j N_q hb44 hr41))
  have h52 : Fld Z h46 q cR "sizes" "[I" (.ref ss) := h31.other W46 (Or.inl (nr_j N_q hb44 hr41))
  have h53 : Fld Z h46 q cR "size" "I" (.int sn) := h32.other W46 (Or.inl (nr_j N_q hb44 hr41))
  have h54 : Fld Z h46 q cR "last" "J" (.long la) := h33.other W46 (Or.inl (nr_j N_q hb44 hr41))
  have h55 : RA Z h46 ks .long kf := h34.other W46 (nr_j N_ks hb44 hr41)
  have h56 : RA Z h46 js .int jf := h35.other W46 (nr_j N_js hb44 hr41)
  have h57 : Vec Z h46 ss .int (65 : Int32) (ints sz) := h36.other W46 (nr_j N_ss hb44 hr41)
  have h58 : RwJ Z h46 kf (updF KF bk.toInt.toNat (updF (KF bk.toInt.toNat) (sz bk.toInt.toNat).toInt.toNat ky)) := RwJ.other W46 h37 (rwj_tne h37 h45 (by decide))
  have h59 : RwI Z h46 jf (updF JF bk.toInt.toNat (updF (JF bk.toInt.toNat) (sz bk.toInt.toNat).toInt.toNat id)) := RwI.set h38 Ij hb44 hr41 W46 V46
  have h60 : Vec Z h46 rw20 .long (4 : Int32) (longs (updF (KF bk.toInt.toNat) (sz bk.toInt.toNat).toInt.toNat ky)) := h39.other W46 (vec_tne h39 h45 (by decide))
  have h61 : Vec Z h46 rw41 .int (4 : Int32) (ints (updF (JF bk.toInt.toNat) (sz bk.toInt.toNat).toInt.toNat id)) := V46
  have K46 : Keep h0 h46 ([ss] ++ rowsOf kf jf) := K25.wr W46 (Or.inl (List.mem_append_right _ (mem_j hb44 hr41)))
  have N46 := Fr.snoc X46 N25 Grw41
  refine Go.st st46 ?_
  show Go p e below s Q 0 0 (T46.setTop (mkF m 79 #[vr q, vi bk, vj ky, sd, vi id, vi (sz bk.toInt.toNat)] []))
  refine gA X46 hx hby rfl d15_79 rfl rfl ?_
  obtain ⟨T62, X62, e62, st62⟩ := getF X46 hx hZ hown (host := "") (Or.inl (tb hw 25 rfl)) Via.refl e46 h52 (g := (mkF m 80 #[vr q, vi bk, vj ky, sd, vi id, vi (sz bk.toInt.toNat)] [(.ref q)])) rfl rfl (hb hby d15_80)
  refine Go.st st62 ?_
  refine gC X62 hx hby rfl d15_83 rfl ?_
  refine gD X62 hx hby rfl d15_84 rfl ?_
  refine gI X62 hx hby rfl d15_86 ?_
  refine Go.st (fun _ k => XS.iadd X62.here hx rfl (hb hby d15_87) rfl k) ?_
  show Go p e below s Q 0 0 (T62.setTop (mkF m 88 #[vr q, vi bk, vj ky, sd, vi id, vi (sz bk.toInt.toNat)] [(.int ((sz bk.toInt.toNat) + (1 : Int32))), (.int bk), (.ref ss)]))
  have r64 : 0 ≤ bk.toInt := by omega
  have r65 : bk.toInt < (65 : Int32).toInt := by omega
  obtain ⟨T63, h63, X63, e63, W63, V63, st63⟩ := Vec.istI X62 hx hZ e62 h57 (j := bk) r64 r65 (g := (mkF m 88 #[vr q, vi bk, vj ky, sd, vi id, vi (sz bk.toInt.toNat)] [(.int ((sz bk.toInt.toNat) + (1 : Int32))), (.int bk), (.ref ss)])) rfl rfl (hb hby d15_88)
  have h66 : Exa Z h63 q cR := h49.wr W63
  have h67 : Fld Z h63 q cR "keys" "[[J" (.ref ks) := h50.other W63 (Or.inl n_q_ss)
  have h68 : Fld Z h63 q cR "ids" "[[I" (.ref js) := h51.other W63 (Or.inl n_q_ss)
  have h69 : Fld Z h63 q cR "sizes" "[I" (.ref ss) := h52.other W63 (Or.inl n_q_ss)
  have h70 : Fld Z h63 q cR "size" "I" (.int sn) := h53.other W63 (Or.inl n_q_ss)
  have h71 : Fld Z h63 q cR "last" "J" (.long la) := h54.other W63 (Or.inl n_q_ss)
  have h72 : RA Z h63 ks .long kf := h55.other W63 n_ks_ss
  have h73 : RA Z h63 js .int jf := h56.other W63 n_js_ss
  have h74 : Vec Z h63 ss .int (65 : Int32) (ints (updF sz bk.toInt.toNat ((sz bk.toInt.toNat) + (1 : Int32)))) := V63
  have h75 : RwJ Z h63 kf (updF KF bk.toInt.toNat (updF (KF bk.toInt.toNat) (sz bk.toInt.toNat).toInt.toNat ky)) := RwJ.other W63 h58 (fun b hb => (N_ss b hb).1)
  have h76 : RwI Z h63 jf (updF JF bk.toInt.toNat (updF (JF bk.toInt.toNat) (sz bk.toInt.toNat).toInt.toNat id)) := RwI.other W63 h59 (fun b hb => (N_ss b hb).2)
  have h77 : Vec Z h63 rw20 .long (4 : Int32) (longs (updF (KF bk.toInt.toNat) (sz bk.toInt.toNat).toInt.toNat ky)) := h60.other W63 (Ne.symm (nr_k N_ss hb23 hr20))
  have h78 : Vec Z h63 rw41 .int (4 : Int32) (ints (updF (JF bk.toInt.toNat) (sz bk.toInt.toNat).toInt.toNat id)) := h61.other W63 (Ne.symm (nr_j N_ss hb44 hr41))
  have K63 : Keep h0 h63 ([ss] ++ rowsOf kf jf) := K46.wr W63 (Or.inl (List.mem_append_left _ (List.mem_of_getElem? (i := 0) rfl)))
  have N63 := Fr.snoc X63 N46 G_s
  refine Go.st st63 ?_
  show Go p e below s Q 0 0 (T63.setTop (mkF m 89 #[vr q, vi bk, vj ky, sd, vi id, vi (sz bk.toInt.toNat)] []))
  exact Go.retV X63 hx hlk Bd.returns (hb hby d15_89) (by rw [← hQ, e63]; exact ⟨rfl, N63, K63, h66, h67, h68, h69, h70, h71, h72, h73, h74, h75, h76⟩) (by decide) (by decide)
theorem d11_0 : decode kc11 0 = .ok (.aload_n 0, 1) := by decide +kernel
theorem d11_1 : decode kc11 1 = .ok (.aload_n 0, 1) := by decide +kernel
theorem d11_2 : decode kc11 2 = .ok (.lload_n 1, 1) := by decide +kernel
theorem d11_3 : decode kc11 3 = .ok (.invokevirtual 42, 3) := by decide +kernel
theorem d11_6 : decode kc11 6 = .ok (.lload_n 1, 1) := by decide +kernel
theorem d11_7 : decode kc11 7 = .ok (.iload_n 3, 1) := by decide +kernel
theorem pd_3 : parseMethodDescriptor "(IJI)V" = some ⟨[.int, .long, .int], none⟩ := by decide +kernel
theorem d11_8 : decode kc11 8 = .ok (.invokevirtual 46, 3) := by decide +kernel
theorem d11_11 : decode kc11 11 = .ok (.aload_n 0, 1) := by decide +kernel
theorem d11_12 : decode kc11 12 = .ok (.dup, 1) := by decide +kernel
theorem d11_13 : decode kc11 13 = .ok (.getfield 38, 3) := by decide +kernel
theorem d11_16 : decode kc11 16 = .ok (.iconst 1, 1) := by decide +kernel
theorem d11_17 : decode kc11 17 = .ok (.iadd, 1) := by decide +kernel
theorem d11_18 : decode kc11 18 = .ok (.putfield 38, 3) := by decide +kernel
theorem d11_21 : decode kc11 21 = .ok (.return_, 1) := by decide +kernel
theorem ef_rm11 (m : MethodId) (q : Addr) (ky : Int64) (id : Int32) : entryFrame m #[(.ref q), (.long ky), (.int id)] 4 = mkF m 0 #[vr q, vj ky, sd, vi id] [] := by first | (simp [entryFrame, mkF, argsToLocals, Value.category]; done) | rfl
def Q11 (Z : State) (q : Addr) (ky : Int64) (id : Int32) (ks js ss : Addr) (kf jf : Nat → Addr) (sz : Nat → Int32) (KF : Nat → Nat → Int64) (JF : Nat → Nat → Int32) (sn : Int32) (la : Int64) (h0 : Heap) (n0 : Nat) (vv : Option Value) (h : Heap) (LL : List Loc) : Prop := vv = none ∧ Fr n0 LL ∧ Keep h0 h ([q, ss] ++ rowsOf kf jf) ∧ (Exa Z h q cR) ∧ (Fld Z h q cR "keys" "[[J" (.ref ks)) ∧ (Fld Z h q cR "ids" "[[I" (.ref js)) ∧ (Fld Z h q cR "sizes" "[I" (.ref ss)) ∧ (Fld Z h q cR "size" "I" (.int (sn + (1 : Int32)))) ∧ (Fld Z h q cR "last" "J" (.long la)) ∧ (RA Z h ks .long kf) ∧ (RA Z h js .int jf) ∧ (Vec Z h ss .int (65 : Int32) (ints (updF sz 64 ((sz 64) + (1 : Int32))))) ∧ (RwJ Z h kf (updF KF 64 (updF (KF 64) (sz 64).toInt.toNat ky))) ∧ (RwI Z h jf (updF JF 64 (updF (JF 64) (sz 64).toInt.toNat id)))
set_option maxRecDepth 65536 in
set_option maxHeartbeats 40000000 in
theorem rm11 (l : Launch) (Z : State) (a0 : Array Value) (hw : ∀ d ∈ tables_1, d.before a0 Z = true) (ws : List Jvm.Cond) (q : Addr) (ky : Int64) (id : Int32) (ks js ss : Addr) (kf jf : Nat → Addr) (sz : Nat → Int32) (KF : Nat → Nat → Int64) (JF : Nat → Nat → Int32) (sn : Int32) (la : Int64) (h0 : Heap) (n0 : Nat) (Z0 : n0 ≤ h0.size) (E_q : Exa Z h0 q cR) (F_k : Fld Z h0 q cR "keys" "[[J" (.ref ks)) (F_i : Fld Z h0 q cR "ids" "[[I" (.ref js)) (F_s : Fld Z h0 q cR "sizes" "[I" (.ref ss)) (F_n : Fld Z h0 q cR "size" "I" (.int sn)) (F_l : Fld Z h0 q cR "last" "J" (.long la)) (A_k : RA Z h0 ks .long kf) (A_j : RA Z h0 js .int jf) (V_s : Vec Z h0 ss .int (65 : Int32) (ints sz)) (W_k : RwJ Z h0 kf KF) (W_j : RwI Z h0 jf JF) (Ik : Inj kf) (Ij : Inj jf) (GR : ∀ b : Nat, b < 65 → n0 ≤ kf b ∧ n0 ≤ jf b) (G_q : n0 ≤ q) (G_s : n0 ≤ ss) (N_q : NR kf jf q) (N_ks : NR kf jf ks) (N_js : NR kf jf js) (N_ss : NR kf jf ss) (n_q_ss : q ≠ ss) (n_ks_ss : ks ≠ ss) (n_js_ss : js ≠ ss) (n_ks_q : ks ≠ q) (n_js_q : js ≠ q) (h64 : 0 ≤ (sz 64).toInt ∧ (sz 64).toInt < 4) (hky : 0 ≤ ky.toInt ∧ la.toInt < 0) :
    MetFree l (⟨cR, "push", "(JI)V"⟩ : MethodName) (head1 (Jvm.Cond.code (⟨cR, "push", "(JI)V"⟩ : MethodName) kc11 4 none :: ws) ({ frames := 3, cells := 0, slots := 0, locals := 44 } : Room)) (fun aa UU => aa = #[(.ref q), (.long ky), (.int id)] ∧ Z.Warmed39 UU.vm ∧ UU.heap = h0) (fun _ _ _ _ _ => True) (fun _ UU oo UU' => ∃ vv LL, oo = .returned vv ∧ Q11 Z q ky id ks js ss kf jf sz KF JF sn la h0 n0 vv UU'.heap LL ∧ FrameEnd UU oo UU' LL 0 0) := by
  refine MetFree.of_bodySF (plainFor_of_name pn_2) hisR ?_
  intro p e s m args below meth c s₁ Bd hml0 hP hK
  obtain ⟨rfl, hZ, hh⟩ := hP
  have hx := Bd.exec
  have hby := Bd.bytes
  have hlk : meth.locks = false := BodyLoose.notSynchronized Bd
  have hml : c.maxLocals = 4 := hml0
  have hown : s.vm.findClass cR = some m.cls := findClass_of_methodNamed Bd.named
  have hnm := (name_of_methodNamed Bd.named Bd.method).1
  have X0 : Stand p l e ({ frames := 3, cells := 0, slots := 0, locals := 44 } : Room) s m #[(.ref q), (.long ky), (.int id)] below meth c s₁ [] 0 0 := Stand.of_body Bd
  have e0 : s₁.heap = h0 := by rw [← hh, Bd.state]; rfl
  have N0 := Fr.nil n0
  have K0 : Keep h0 h0 ([q, ss] ++ rowsOf kf jf) := Keep.refl h0 _
  refine (?_ : Go p e below s (Q11 Z q ky id ks js ss kf jf sz KF JF sn la h0 n0) 0 0 (s₁.setTop (entryFrame m #[(.ref q), (.long ky), (.int id)] 4)))
  rw [ef_rm11]
  generalize hQ : Q11 Z q ky id ks js ss kf jf sz KF JF sn la h0 n0 = Q
  show Go p e below s Q 0 0 (s₁.setTop (mkF m 0 #[vr q, vj ky, sd, vi id] []))
  have f1 := rng64 ky
  have f2 := rng32 id
  refine gA X0 hx hby rfl d11_0 rfl rfl ?_
  refine gA X0 hx hby rfl d11_1 rfl rfl ?_
  refine gE X0 hx hby rfl d11_2 rfl ?_
  have f4 := rng64 la
  obtain ⟨cq3, q3, q3'⟩ := E_q.cell
  have pv3 := Cond.privateMethod_at (mvP hZ (tb hw 105 rfl) (args := #[]))
  obtain ⟨_, _, ⟨T3, L3, k3, n3⟩, -, X3, ⟨Lc3, hQ3, l3, y3, z3⟩, st3⟩ := X0.privateBack hx (y := (⟨cR, "bucketOf", "(J)I"⟩ : MethodName)) hown (mvT hZ (tb hw 103 rfl)) (mvT hZ (tb hw 104 rfl)) (self_sel (mvT hZ (args := #[]) (tb hw 64 rfl)) rfl pv3 (mvT hZ (tb hw 104 rfl)) (by decide)) pv3 (mvT hZ (tb hw 106 rfl)) (by decide) (backOf (W := 1) (rm12 l Z a0 hw [] q ky la h0 n0 (Nat.le_trans Z0 K0.1) E_q F_l) hZ (tb hw 106 rfl) (tb hw 11 rfl) (by decide) (by decide)) (g := (mkF m 3 #[vr q, vj ky, sd, vi id] [(.long ky), (.ref q), (.ref q)])) rfl (by rw [hml]; rfl) (Steps.refl _) (a := q) (by rw [e0]; exact q3) q3' (argsL := [(.long ky)]) (rest := [(.ref q)]) (lenOf pd_1 rfl) rfl (by show 2 * 0 + _ ≤ _; exact Nat.le_of_eq rfl) (hb hby d11_3) (fun _ _ => ⟨rfl, e0, (by decide : 0 + 0 ≤ _), (by decide : 0 + 0 ≤ _)⟩)
  dsimp only [Pt.U, Pt.locs, Pt.cells, Pt.slots] at X3 l3 y3 z3 st3 hQ3
  subst y3 z3
  obtain ⟨rr_5, rfl, N3q, f6, f7, f8, e3⟩ := hQ3
  have N3 : Fr n0 L3 := by rw [l3]; exact Fr.app N0 N3q
  refine Go.tr  st3 ?_
  show Go p e below s Q 0 0 (T3.setTop (mkF m 6 #[vr q, vj ky, sd, vi id] [(.int rr_5), (.ref q)]))
  have f9 := rng32 rr_5
  have cs10 : rr_5.toInt = 64 := by omega
  ·
    have cs10' : rr_5 = (64 : Int32) := eqI cs10 liI_64 rfl
    subst cs10'
    have f11 := liI_64
    show Go p e below s Q 0 0 (T3.setTop (mkF m 6 #[vr q, vj ky, sd, vi id] [(.int (64 : Int32)), (.ref q)]))
    refine gE X3 hx hby rfl d11_6 rfl ?_
    refine gC X3 hx hby rfl d11_7 rfl ?_
    have f13 := rng32 sn
    have p14 : 0 ≤ (64 : Int32).toInt ∧ (64 : Int32).toInt < 65 := by omega
    obtain ⟨cq12, q12, q12'⟩ := E_q.cell
    have pv12 := Cond.privateMethod_at (mvP hZ (tb hw 117 rfl) (args := #[]))
    obtain ⟨_, _, ⟨T12, L12, k12, n12⟩, -, X12, ⟨Lc12, hQ12, l12, y12, z12⟩, st12⟩ := X3.privateBack hx (y := (⟨cR, "add", "(IJI)V"⟩ : MethodName)) hown (mvT hZ (tb hw 115 rfl)) (mvT hZ (tb hw 116 rfl)) (self_sel (mvT hZ (args := #[]) (tb hw 64 rfl)) rfl pv12 (mvT hZ (tb hw 116 rfl)) (by decide)) pv12 (mvT hZ (tb hw 118 rfl)) (by decide) (backOf (W := 0) (rm15 l Z a0 hw [] q (64 : Int32) ky id ks js ss kf jf sz KF JF sn la h0 n0 (Nat.le_trans Z0 K0.1) E_q F_k F_i F_s F_n F_l A_k A_j V_s W_k W_j Ik Ij GR G_q G_s N_q N_ks N_js N_ss n_q_ss n_ks_ss n_js_ss n_ks_q n_js_q p14 h64) hZ (tb hw 118 rfl) (tb hw 11 rfl) (by decide) (by decide)) (g := (mkF m 8 #[vr q, vj ky, sd, vi id] [(.int id), (.long ky), (.int (64 : Int32)), (.ref q)])) rfl (by rw [hml]; rfl) (Steps.refl _) (a := q) (by rw [e3]; exact q12) q12' (argsL := [(.int (64 : Int32)), (.long ky), (.int id)]) (rest := []) (lenOf pd_3 rfl) rfl (by show 2 * 0 + _ ≤ _; exact Nat.le_of_eq rfl) (hb hby d11_8) (fun _ _ => ⟨rfl, e3, (by decide : 0 + 0 ≤ _), (by decide : 0 + 0 ≤ _)⟩)
    dsimp only [Pt.U, Pt.locs, Pt.cells, Pt.slots] at X12 l12 y12 z12 st12 hQ12
    subst y12 z12
    obtain ⟨rfl, N12q, K12q, h15, h16, h17, h18, h19, h20, h21, h22, h23, h24, h25⟩ := hQ12
    have N12 : Fr n0 L12 := by rw [l12]; exact Fr.app N3 N12q
    have K12 : Keep h0 T12.heap ([q, ss] ++ rowsOf kf jf) := K0.trans K12q (fun x hx => (fun x hx => (List.mem_append.mp hx).elim ((show ∀ x ∈ ([ss] : List Addr), x ∈ (([q, ss] ++ rowsOf kf jf) : List Addr) ∨ h0.size ≤ x from (allS (Or.inl (List.mem_append_left _ (List.mem_of_getElem? (i := 1) rfl))) all0)) x) (fun q => Or.inl (List.mem_append_right _ q))) x hx)
    refine Go.tr  st12 ?_
    show Go p e below s Q 0 0 (T12.setTop (mkF m 11 #[vr q, vj ky, sd, vi id] []))
    refine gA X12 hx hby rfl d11_11 rfl rfl ?_
    refine Go.st (fun _ k => XS.dup X12.here hx rfl (hb hby d11_12) rfl rfl k) ?_
    obtain ⟨T26, X26, e26, st26⟩ := getF X12 hx hZ hown (host := "") (Or.inl (tb hw 70 rfl)) Via.refl rfl h19 (g := (mkF m 13 #[vr q, vj ky, sd, vi id] [(.ref q), (.ref q)])) rfl rfl (hb hby d11_13)
    refine Go.st st26 ?_
    refine gI X26 hx hby rfl d11_16 ?_
    refine Go.st (fun _ k => XS.iadd X26.here hx rfl (hb hby d11_17) rfl k) ?_
    obtain ⟨T27, h27, X27, e27, W27, st27⟩ := putF X26 hx hZ hown (host := "") (Or.inl (tb hw 70 rfl)) Via.refl e26 h19 h15 (Or.inl (tb hw 71 rfl)) (tb hw 10 rfl) (ty := .int) (by decide) rfl rfl (g := (mkF m 18 #[vr q, vj ky, sd, vi id] [(.int (sn + (1 : Int32))), (.ref q)])) rfl rfl (hb hby d11_18)
    have h28 : Exa Z h27 q cR := h15.wr W27
    have h29 : Fld Z h27 q cR "keys" "[[J" (.ref ks) := h16.other W27 (Or.inr (ndq (sl_0 hw) 0 4 rfl))
    have h30 : Fld Z h27 q cR "ids" "[[I" (.ref js) := h17.other W27 (Or.inr (ndq (sl_0 hw) 1 4 rfl))
    have h31 : Fld Z h27 q cR "sizes" "[I" (.ref ss) := h18.other W27 (Or.inr (ndq (sl_0 hw) 2 4 rfl))
    have h32 : Fld Z h27 q cR "size" "I" (.int (sn + (1 : Int32))) := h19.same W27
    have h33 : Fld Z h27 q cR "last" "J" (.long la) := h20.other W27 (Or.inr (ndq (sl_0 hw) 3 4 rfl))
    have h34 : RA Z h27 ks .long kf := h21.other W27 n_ks_q
    have h35 : RA Z h27 js .int jf := h22.other W27 n_js_q
    have h36 : Vec Z h27 ss .int (65 : Int32) (ints (updF sz (64 : Int32).toInt.toNat ((sz (64 : Int32).toInt.toNat) + (1 : Int32)))) := h23.other W27 (Ne.symm n_q_ss)
    have h37 : RwJ Z h27 kf (updF KF (64 : Int32).toInt.toNat (updF (KF (64 : Int32).toInt.toNat) (sz (64 : Int32).toInt.toNat).toInt.toNat ky)) := RwJ.other W27 h24 (fun b hb => (N_q b hb).1)
    have h38 : RwI Z h27 jf (updF JF (64 : Int32).toInt.toNat (updF (JF (64 : Int32).toInt.toNat) (sz (64 : Int32).toInt.toNat).toInt.toNat id)) := RwI.other W27 h25 (fun b hb => (N_q b hb).2)
    have K27 : Keep h0 h27 ([q, ss] ++ rowsOf kf jf) := K12.wr W27 (Or.inl (List.mem_append_left _ (List.mem_of_getElem? (i := 0) rfl)))
    have N27 := Fr.snoc X27 N12 G_q
    refine Go.st st27 ?_
    show Go p e below s Q 0 0 (T27.setTop (mkF m 21 #[vr q, vj ky, sd, vi id] []))
    exact Go.retV X27 hx hlk Bd.returns (hb hby d11_21) (by rw [← hQ, e27]; exact ⟨rfl, N27, K27, h28, h29, h30, h31, h32, h33, h34, h35, (by have hh := h36; first | exact hh | simpa using hh), (by have hh := h37; first | exact hh | simpa using hh), (by have hh := h38; first | exact hh | simpa using hh)⟩) (by decide) (by decide)
theorem d19_0 : decode kc19 0 = .ok (.aload_n 0, 1) := by decide +kernel
theorem d19_1 : decode kc19 1 = .ok (.getfield 21, 3) := by decide +kernel
theorem d19_4 : decode kc19 4 = .ok (.iconst 0, 1) := by decide +kernel
theorem d19_5 : decode kc19 5 = .ok (.iaload, 1) := by decide +kernel
theorem d19_6 : decode kc19 6 = .ok (.ifCond .le 4, 3) := by decide +kernel
theorem d19_9 : decode kc19 9 = .ok (.return_, 1) := by decide +kernel
theorem ef_rmf0 (m : MethodId) (q : Addr) : entryFrame m #[(.ref q)] 8 = mkF m 0 #[vr q, un, un, un, un, un, un, un] [] := by first | (simp [entryFrame, mkF, argsToLocals, Value.category]; done) | rfl
def Qf0 (Z : State) (q ss : Addr) (sz : Nat → Int32) (h0 : Heap) (n0 : Nat) (vv : Option Value) (h : Heap) (LL : List Loc) : Prop := vv = none ∧ Fr n0 LL ∧ h = h0
set_option maxRecDepth 65536 in
set_option maxHeartbeats 40000000 in
theorem rmf0 (l : Launch) (Z : State) (a0 : Array Value) (hw : ∀ d ∈ tables_1, d.before a0 Z = true) (ws : List Jvm.Cond) (q ss : Addr) (sz : Nat → Int32) (h0 : Heap) (n0 : Nat) (Z0 : n0 ≤ h0.size) (F_s : Fld Z h0 q cR "sizes" "[I" (.ref ss)) (V_s : Vec Z h0 ss .int (65 : Int32) (ints sz)) (hz0 : 0 < (sz 0).toInt) :
    MetFree l (⟨cR, "fillFirstBucket", "()V"⟩ : MethodName) (head1 (Jvm.Cond.code (⟨cR, "fillFirstBucket", "()V"⟩ : MethodName) kc19 8 none :: ws) ({ frames := 0, cells := 0, slots := 0, locals := 0 } : Room)) (fun aa UU => aa = #[(.ref q)] ∧ Z.Warmed39 UU.vm ∧ UU.heap = h0) (fun _ _ _ _ _ => True) (fun _ UU oo UU' => ∃ vv LL, oo = .returned vv ∧ Qf0 Z q ss sz h0 n0 vv UU'.heap LL ∧ FrameEnd UU oo UU' LL 0 0) := by
  refine MetFree.of_bodySF (plainFor_of_name pn_2) hisR ?_
  intro p e s m args below meth c s₁ Bd hml0 hP hK
  obtain ⟨rfl, hZ, hh⟩ := hP
  have hx := Bd.exec
  have hby := Bd.bytes
  have hlk : meth.locks = false := BodyLoose.notSynchronized Bd
  have hml : c.maxLocals = 8 := hml0
  have hown : s.vm.findClass cR = some m.cls := findClass_of_methodNamed Bd.named
  have hnm := (name_of_methodNamed Bd.named Bd.method).1
  have X0 : Stand p l e ({ frames := 0, cells := 0, slots := 0, locals := 0 } : Room) s m #[(.ref q)] below meth c s₁ [] 0 0 := Stand.of_body Bd
  have e0 : s₁.heap = h0 := by rw [← hh, Bd.state]; rfl
  have N0 := Fr.nil n0
  have K0 : Keep h0 h0 [] := Keep.refl h0 _
  refine (?_ : Go p e below s (Qf0 Z q ss sz h0 n0) 0 0 (s₁.setTop (entryFrame m #[(.ref q)] 8)))
  rw [ef_rmf0]
  generalize hQ : Qf0 Z q ss sz h0 n0 = Q
  show Go p e below s Q 0 0 (s₁.setTop (mkF m 0 #[vr q, un, un, un, un, un, un, un] []))
  refine gA X0 hx hby rfl d19_0 rfl rfl ?_
  obtain ⟨T1, X1, e1, st1⟩ := getF X0 hx hZ hown (host := "") (Or.inl (tb hw 25 rfl)) Via.refl e0 F_s (g := (mkF m 1 #[vr q, un, un, un, un, un, un, un] [(.ref q)])) rfl rfl (hb hby d19_1)
  refine Go.st st1 ?_
  refine gI X1 hx hby rfl d19_4 ?_
  refine Go.st (Vec.ildI X1 hx hZ e1 V_s (j := (0 : Int32)) (by decide) (by decide) (g := (mkF m 5 #[vr q, un, un, un, un, un, un, un] [(.int (0 : Int32)), (.ref ss)])) rfl rfl (hb hby d19_5)) ?_
  have f3 := liI_0
  have f4 := rng32 (sz 0)
  have c5 : 0 < (sz 0).toInt := by omega
  refine gN X1 hx hby rfl d19_6 rfl ((if0 _ _).trans (tlt (ltI liI_0 rfl c5)).2.2.2) ?_
  show Go p e below s Q 0 0 (T1.setTop (mkF m 9 #[vr q, un, un, un, un, un, un, un] []))
  exact Go.retV X1 hx hlk Bd.returns (hb hby d19_9) (by rw [← hQ, e1]; exact ⟨rfl, N0, rfl⟩) (by decide) (by decide)
theorem d19_10 : decode kc19 10 = .ok (.iconst 1, 1) := by decide +kernel
theorem d19_11 : decode kc19 11 = .ok (.istore_n 1, 1) := by decide +kernel
theorem d19_12 : decode kc19 12 = .ok (.aload_n 0, 1) := by decide +kernel
theorem d19_13 : decode kc19 13 = .ok (.getfield 21, 3) := by decide +kernel
theorem d19_16 : decode kc19 16 = .ok (.iload_n 1, 1) := by decide +kernel
theorem d19_17 : decode kc19 17 = .ok (.iaload, 1) := by decide +kernel
theorem d19_18 : decode kc19 18 = .ok (.ifCond .ne 9, 3) := by decide +kernel
theorem d19_21 : decode kc19 21 = .ok (.iinc 1 1, 3) := by decide +kernel
theorem d19_24 : decode kc19 24 = .ok (.goto (-12), 3) := by decide +kernel
theorem d19_27 : decode kc19 27 = .ok (.aload_n 0, 1) := by decide +kernel
theorem d19_28 : decode kc19 28 = .ok (.getfield 11, 3) := by decide +kernel
theorem d19_31 : decode kc19 31 = .ok (.iload_n 1, 1) := by decide +kernel
theorem d19_32 : decode kc19 32 = .ok (.aaload, 1) := by decide +kernel
theorem d19_33 : decode kc19 33 = .ok (.astore_n 2, 1) := by decide +kernel
theorem d19_34 : decode kc19 34 = .ok (.aload_n 0, 1) := by decide +kernel
theorem d19_35 : decode kc19 35 = .ok (.getfield 17, 3) := by decide +kernel
theorem d19_38 : decode kc19 38 = .ok (.iload_n 1, 1) := by decide +kernel
theorem d19_39 : decode kc19 39 = .ok (.aaload, 1) := by decide +kernel
theorem d19_40 : decode kc19 40 = .ok (.astore_n 3, 1) := by decide +kernel
theorem d19_41 : decode kc19 41 = .ok (.aload_n 0, 1) := by decide +kernel
theorem d19_42 : decode kc19 42 = .ok (.getfield 21, 3) := by decide +kernel
theorem d19_45 : decode kc19 45 = .ok (.iload_n 1, 1) := by decide +kernel
theorem d19_46 : decode kc19 46 = .ok (.iaload, 1) := by decide +kernel
theorem d19_47 : decode kc19 47 = .ok (.istore 4, 2) := by decide +kernel
theorem d19_49 : decode kc19 49 = .ok (.aload_n 2, 1) := by decide +kernel
theorem d19_50 : decode kc19 50 = .ok (.iconst 0, 1) := by decide +kernel
theorem d19_51 : decode kc19 51 = .ok (.laload, 1) := by decide +kernel
theorem d19_52 : decode kc19 52 = .ok (.lstore 5, 2) := by decide +kernel
theorem d19_54 : decode kc19 54 = .ok (.iconst 1, 1) := by decide +kernel
theorem d19_55 : decode kc19 55 = .ok (.istore 7, 2) := by decide +kernel
theorem d19_57 : decode kc19 57 = .ok (.iload 7, 2) := by decide +kernel
theorem d19_59 : decode kc19 59 = .ok (.iload 4, 2) := by decide +kernel
theorem d19_61 : decode kc19 61 = .ok (.if_icmp .ge 20, 3) := by decide +kernel
theorem d19_81 : decode kc19 81 = .ok (.aload_n 0, 1) := by decide +kernel
theorem d19_82 : decode kc19 82 = .ok (.lload 5, 2) := by decide +kernel
theorem d19_84 : decode kc19 84 = .ok (.putfield 28, 3) := by decide +kernel
theorem d19_87 : decode kc19 87 = .ok (.aload_n 0, 1) := by decide +kernel
theorem d19_88 : decode kc19 88 = .ok (.getfield 21, 3) := by decide +kernel
theorem d19_91 : decode kc19 91 = .ok (.iload_n 1, 1) := by decide +kernel
theorem d19_92 : decode kc19 92 = .ok (.iconst 0, 1) := by decide +kernel
theorem d19_93 : decode kc19 93 = .ok (.iastore, 1) := by decide +kernel
theorem d19_94 : decode kc19 94 = .ok (.iconst 0, 1) := by decide +kernel
theorem d19_95 : decode kc19 95 = .ok (.istore 7, 2) := by decide +kernel
theorem d19_97 : decode kc19 97 = .ok (.iload 7, 2) := by decide +kernel
theorem d19_99 : decode kc19 99 = .ok (.iload 4, 2) := by decide +kernel
theorem d19_101 : decode kc19 101 = .ok (.if_icmp .ge 29, 3) := by decide +kernel
theorem d19_104 : decode kc19 104 = .ok (.aload_n 0, 1) := by decide +kernel
theorem d19_105 : decode kc19 105 = .ok (.aload_n 0, 1) := by decide +kernel
theorem d19_106 : decode kc19 106 = .ok (.aload_n 2, 1) := by decide +kernel
theorem d19_107 : decode kc19 107 = .ok (.iload 7, 2) := by decide +kernel
theorem d19_109 : decode kc19 109 = .ok (.laload, 1) := by decide +kernel
theorem d19_110 : decode kc19 110 = .ok (.invokevirtual 42, 3) := by decide +kernel
theorem d19_113 : decode kc19 113 = .ok (.aload_n 2, 1) := by decide +kernel
theorem d19_114 : decode kc19 114 = .ok (.iload 7, 2) := by decide +kernel
theorem d19_116 : decode kc19 116 = .ok (.laload, 1) := by decide +kernel
theorem d19_117 : decode kc19 117 = .ok (.aload_n 3, 1) := by decide +kernel
theorem d19_118 : decode kc19 118 = .ok (.iload 7, 2) := by decide +kernel
theorem d19_120 : decode kc19 120 = .ok (.iaload, 1) := by decide +kernel
theorem d19_121 : decode kc19 121 = .ok (.invokevirtual 46, 3) := by decide +kernel
theorem d19_124 : decode kc19 124 = .ok (.iinc 7 1, 3) := by decide +kernel
theorem d19_127 : decode kc19 127 = .ok (.goto (-30), 3) := by decide +kernel
theorem d19_130 : decode kc19 130 = .ok (.return_, 1) := by decide +kernel
theorem ef_rmf1 (m : MethodId) (q : Addr) : entryFrame m #[(.ref q)] 8 = mkF m 0 #[vr q, un, un, un, un, un, un, un] [] := by first | (simp [entryFrame, mkF, argsToLocals, Value.category]; done) | rfl
def Qf1 (Z : State) (q ks js ss : Addr) (kf jf : Nat → Addr) (sz : Nat → Int32) (KF : Nat → Nat → Int64) (JF : Nat → Nat → Int32) (sn : Int32) (la : Int64) (bb : Int32) (h0 : Heap) (n0 : Nat) (vv : Option Value) (h : Heap) (LL : List Loc) : Prop := ∃ (s2 : Nat → Int32) (K2 : Nat → Nat → Int64) (J2 : Nat → Nat → Int32) (l2 : Int64), vv = none ∧ Fr n0 LL ∧ ((s2 0).toInt = 1) ∧ (∀ b : Nat, b < 65 → ¬ b = 0 → (s2 b).toInt = 0) ∧ (K2 0 0 = KF bb.toInt.toNat 0) ∧ (J2 0 0 = JF bb.toInt.toNat 0) ∧ (l2 = KF bb.toInt.toNat 0) ∧ Keep h0 h ([q, ss] ++ rowsOf kf jf) ∧ (Exa Z h q cR) ∧ (Fld Z h q cR "keys" "[[J" (.ref ks)) ∧ (Fld Z h q cR "ids" "[[I" (.ref js)) ∧ (Fld Z h q cR "sizes" "[I" (.ref ss)) ∧ (Fld Z h q cR "size" "I" (.int sn)) ∧ (Fld Z h q cR "last" "J" (.long l2)) ∧ (RA Z h ks .long kf) ∧ (RA Z h js .int jf) ∧ (Vec Z h ss .int (65 : Int32) (ints s2)) ∧ (RwJ Z h kf K2) ∧ (RwI Z h jf J2)
set_option maxRecDepth 65536 in
set_option maxHeartbeats 40000000 in
theorem rmf1 (l : Launch) (Z : State) (a0 : Array Value) (hw : ∀ d ∈ tables_1, d.before a0 Z = true) (ws : List Jvm.Cond) (q ks js ss : Addr) (kf jf : Nat → Addr) (sz : Nat → Int32) (KF : Nat → Nat → Int64) (JF : Nat → Nat → Int32) (sn : Int32) (la : Int64) (bb : Int32) (h0 : Heap) (n0 : Nat) (Z0 : n0 ≤ h0.size) (E_q : Exa Z h0 q cR) (F_k : Fld Z h0 q cR "keys" "[[J" (.ref ks)) (F_i : Fld Z h0 q cR "ids" "[[I" (.ref js)) (F_s : Fld Z h0 q cR "sizes" "[I" (.ref ss)) (F_n : Fld Z h0 q cR "size" "I" (.int sn)) (F_l : Fld Z h0 q cR "last" "J" (.long la)) (A_k : RA Z h0 ks .long kf) (A_j : RA Z h0 js .int jf) (V_s : Vec Z h0 ss .int (65 : Int32) (ints sz)) (W_k : RwJ Z h0 kf KF) (W_j : RwI Z h0 jf JF) (Ik : Inj kf) (Ij : Inj jf) (GR : ∀ b : Nat, b < 65 → n0 ≤ kf b ∧ n0 ≤ jf b) (G_q : n0 ≤ q) (G_s : n0 ≤ ss) (N_q : NR kf jf q) (N_ks : NR kf jf ks) (N_js : NR kf jf js) (N_ss : NR kf jf ss) (n_q_ss : q ≠ ss) (n_ks_ss : ks ≠ ss) (n_js_ss : js ≠ ss) (n_ks_q : ks ≠ q) (n_js_q : js ≠ q) (hbb : 1 ≤ bb.toInt ∧ bb.toInt ≤ 64) (hone : (sz bb.toInt.toNat).toInt = 1) (hrest : ∀ b : Nat, b < 65 → ¬ (b : Int) = bb.toInt → (sz b).toInt = 0) :
    MetFree l (⟨cR, "fillFirstBucket", "()V"⟩ : MethodName) (head1 (Jvm.Cond.code (⟨cR, "fillFirstBucket", "()V"⟩ : MethodName) kc19 8 none :: ws) ({ frames := 3, cells := 0, slots := 0, locals := 44 } : Room)) (fun aa UU => aa = #[(.ref q)] ∧ Z.Warmed39 UU.vm ∧ UU.heap = h0) (fun _ _ _ _ _ => True) (fun _ UU oo UU' => ∃ vv LL, oo = .returned vv ∧ Qf1 Z q ks js ss kf jf sz KF JF sn la bb h0 n0 vv UU'.heap LL ∧ FrameEnd UU oo UU' LL 0 0) := by
  refine MetFree.of_bodySF (plainFor_of_name pn_2) hisR ?_
  intro p e s m args below meth c s₁ Bd hml0 hP hK
  obtain ⟨rfl, hZ, hh⟩ := hP
  have hx := Bd.exec
  have hby := Bd.bytes
  have hlk : meth.locks = false := BodyLoose.notSynchronized Bd
  have hml : c.maxLocals = 8 := hml0
  have hown : s.vm.findClass cR = some m.cls := findClass_of_methodNamed Bd.named
  have hnm := (name_of_methodNamed Bd.named Bd.method).1
  have X0 : Stand p l e ({ frames := 3, cells := 0, slots := 0, locals := 44 } : Room) s m #[(.ref q)] below meth c s₁ [] 0 0 := Stand.of_body Bd
  have e0 : s₁.heap = h0 := by rw [← hh, Bd.state]; rfl
  have N0 := Fr.nil n0
  have K0 : Keep h0 h0 ([q, ss] ++ rowsOf kf jf) := Keep.refl h0 _
  refine (?_ : Go p e below s (Qf1 Z q ks js ss kf jf sz KF JF sn la bb h0 n0) 0 0 (s₁.setTop (entryFrame m #[(.ref q)] 8)))
  rw [ef_rmf1]
  generalize hQ : Qf1 Z q ks js ss kf jf sz KF JF sn la bb h0 n0 = Q
  show Go p e below s Q 0 0 (s₁.setTop (mkF m 0 #[vr q, un, un, un, un, un, un, un] []))
  refine gA X0 hx hby rfl d19_0 rfl rfl ?_
  obtain ⟨T1, X1, e1, st1⟩ := getF X0 hx hZ hown (host := "") (Or.inl (tb hw 25 rfl)) Via.refl e0 F_s (g := (mkF m 1 #[vr q, un, un, un, un, un, un, un] [(.ref q)])) rfl rfl (hb hby d19_1)
  refine Go.st st1 ?_
  refine gI X1 hx hby rfl d19_4 ?_
  refine Go.st (Vec.ildI X1 hx hZ e1 V_s (j := (0 : Int32)) (by decide) (by decide) (g := (mkF m 5 #[vr q, un, un, un, un, un, un, un] [(.int (0 : Int32)), (.ref ss)])) rfl rfl (hb hby d19_5)) ?_
  show Go p e below s Q 0 0 (T1.setTop (mkF m 6 #[vr q, un, un, un, un, un, un, un] [(.int (sz 0))]))
  have hz0 : (sz 0).toInt = 0 := hrest 0 (by decide) (by omega)
  have f3 := liI_0
  have f4 := rng32 (sz 0)
  have c5 : ¬ (0 < (sz 0).toInt) := by omega
  refine gY X1 hx hby rfl (pc0 := 6) (pc' := 10) rfl d19_6 rfl ((if0 _ _).trans (flt (nltI liI_0 rfl c5)).2.2.2) (by decide) (by decide) ?_
  refine gI X1 hx hby rfl d19_10 ?_
  refine gT X1 hx hby rfl d19_11 rfl (l' := #[vr q, vi (1 : Int32), un, un, un, un, un, un]) rfl ?_
  show Go p e below s Q 0 0 (T1.setTop (mkF m 12 #[vr q, vi (1 : Int32), un, un, un, un, un, un] []))
  have lp7 : ∀ (kg6 : Nat) (Tg6 : State) (hg6 : Heap) (Lgg6 : List Loc) (Xg6 : Stand p l e ({ frames := 3, cells := 0, slots := 0, locals := 44 } : Room) s m #[(.ref q)] below meth c Tg6 Lgg6 0 0) (eg6 : Tg6.heap = hg6) (Ng6 : Fr n0 Lgg6) (Kg6 : Keep h0 hg6 ([q, ss] ++ rowsOf kf jf)) (k12 : Int32) (hfg6_0 : Exa Z hg6 q cR) (hfg6_1 : Fld Z hg6 q cR "keys" "[[J" (.ref ks)) (hfg6_2 : Fld Z hg6 q cR "ids" "[[I" (.ref js)) (hfg6_3 : Fld Z hg6 q cR "sizes" "[I" (.ref ss)) (hfg6_4 : Fld Z hg6 q cR "size" "I" (.int sn)) (hfg6_5 : Fld Z hg6 q cR "last" "J" (.long la)) (hfg6_6 : RA Z hg6 ks .long kf) (hfg6_7 : RA Z hg6 js .int jf) (hfg6_8 : Vec Z hg6 ss .int (65 : Int32) (ints sz)) (hfg6_9 : RwJ Z hg6 kf KF) (hfg6_10 : RwI Z hg6 jf JF) (hpg6_0 : 1 ≤ k12.toInt ∧ k12.toInt ≤ bb.toInt), (bb.toInt - k12.toInt).toNat = kg6 → Go p e below s Q 0 0 (Tg6.setTop (mkF m 12 #[vr q, vi k12, un, un, un, un, un, un] [])) := by
    intro kg6
    induction kg6 using Nat.strongRecOn with
    | ind kg6 ihg6 =>
    intro Tg6 hg6 Lgg6 Xg6 eg6 Ng6 Kg6 k12 hfg6_0 hfg6_1 hfg6_2 hfg6_3 hfg6_4 hfg6_5 hfg6_6 hfg6_7 hfg6_8 hfg6_9 hfg6_10 hpg6_0 hkg6
    have f8 := rng32 k12
    show Go p e below s Q 0 0 (Tg6.setTop (mkF m 12 #[vr q, vi k12, un, un, un, un, un, un] []))
    refine gA Xg6 hx hby rfl d19_12 rfl rfl ?_
    obtain ⟨T9, X9, e9, st9⟩ := getF Xg6 hx hZ hown (host := "") (Or.inl (tb hw 25 rfl)) Via.refl eg6 hfg6_3 (g := (mkF m 13 #[vr q, vi k12, un, un, un, un, un, un] [(.ref q)])) rfl rfl (hb hby d19_13)
    refine Go.st st9 ?_
    refine gC X9 hx hby rfl d19_16 rfl ?_
    have f11 := liI_65
    have r12 : 0 ≤ k12.toInt := by omega
    have r13 : k12.toInt < (65 : Int32).toInt := by omega
    refine Go.st (Vec.ildI X9 hx hZ e9 hfg6_8 (j := k12) r12 r13 (g := (mkF m 17 #[vr q, vi k12, un, un, un, un, un, un] [(.int k12), (.ref ss)])) rfl rfl (hb hby d19_17)) ?_
    show Go p e below s Q 0 0 (T9.setTop (mkF m 18 #[vr q, vi k12, un, un, un, un, un, un] [(.int (sz k12.toInt.toNat))]))
    have hsk : (k12.toInt = bb.toInt ∧ (sz k12.toInt.toNat).toInt = 1) ∨ (¬ k12.toInt = bb.toInt ∧ (sz k12.toInt.toNat).toInt = 0) := by
      by_cases q : k12.toInt = bb.toInt
      · exact Or.inl ⟨q, by rw [q]; exact hone⟩
      · exact Or.inr ⟨q, hrest k12.toInt.toNat (by omega) (by omega)⟩
    have f14 := rng32 (sz k12.toInt.toNat)
    by_cases c15 : (sz k12.toInt.toNat).toInt = 0
    ·
      refine gN X9 hx hby rfl d19_18 rfl ((if0 _ _).trans (teq (eqI rfl liI_0 c15)).2) ?_
      refine gInc X9 hx hby rfl d19_21 rfl (l' := #[vr q, vi (k12 + (1 : Int32)), un, un, un, un, un, un]) rfl ?_
      show Go p e below s Q 0 0 (T9.setTop (mkF m 24 #[vr q, vi (k12 + (1 : Int32)), un, un, un, un, un, un] []))
      have f16 := liI_1
      have f17 := c_iadd k12 (1 : Int32)
      have f18 := rng32 (k12 + (1 : Int32))
      generalize hv_v19 : (k12 + (1 : Int32)) = v19 at f17 f18 ⊢
      refine gG X9 hx hby rfl (pc0 := 24) (pc' := 12) rfl d19_24 (by decide) (by decide) ?_
      show Go p e below s Q 0 0 (T9.setTop (mkF m 12 #[vr q, vi v19, un, un, un, un, un, un] []))
      exact ihg6 _ (by omega) T9 hg6 _ (up X9 (by decide) (by decide)) e9 Ng6 Kg6 v19 hfg6_0 hfg6_1 hfg6_2 hfg6_3 hfg6_4 hfg6_5 hfg6_6 hfg6_7 hfg6_8 hfg6_9 hfg6_10 (by omega) rfl
    ·
      refine gY X9 hx hby rfl (pc0 := 18) (pc' := 27) rfl d19_18 rfl ((if0 _ _).trans (feq (neI rfl liI_0 c15)).2) (by decide) (by decide) ?_
      show Go p e below s Q 0 0 (T9.setTop (mkF m 27 #[vr q, vi k12, un, un, un, un, un, un] []))
      have hkb : bb = k12 := eqI rfl rfl (by omega)
      subst hkb
      clear hsk
      show Go p e below s Q 0 0 (T9.setTop (mkF m 27 #[vr q, vi bb, un, un, un, un, un, un] []))
      refine gA X9 hx hby rfl d19_27 rfl rfl ?_
      obtain ⟨T20, X20, e20, st20⟩ := getF X9 hx hZ hown (host := "") (Or.inl (tb hw 18 rfl)) Via.refl e9 hfg6_1 (g := (mkF m 28 #[vr q, vi bb, un, un, un, un, un, un] [(.ref q)])) rfl rfl (hb hby d19_28)
      refine Go.st st20 ?_
      refine gC X20 hx hby rfl d19_31 rfl ?_
      have r22 : 0 ≤ bb.toInt := by omega
      have r23 : bb.toInt < 65 := by omega
      have hb24 : bb.toInt.toNat < 65 := by omega
      refine Go.st (RA.ild X20 hx hZ e20 hfg6_6 (j := bb) r22 r23 (g := (mkF m 32 #[vr q, vi bb, un, un, un, un, un, un] [(.int bb), (.ref ks)])) rfl rfl (hb hby d19_32)) ?_
      show Go p e below s Q 0 0 (T20.setTop (mkF m 33 #[vr q, vi bb, un, un, un, un, un, un] [(.ref (kf bb.toInt.toNat))]))
      obtain ⟨rw21, hr21⟩ : ∃ z, z = kf bb.toInt.toNat := ⟨_, rfl⟩
      rw [← hr21]
      have Grw21 : n0 ≤ rw21 := by rw [hr21]; exact (GR bb.toInt.toNat hb24).1
      have h25 : Vec Z hg6 rw21 .long (4 : Int32) (longs (KF bb.toInt.toNat)) := by rw [hr21]; exact hfg6_9 bb.toInt.toNat hb24
      show Go p e below s Q 0 0 (T20.setTop (mkF m 33 #[vr q, vi bb, un, un, un, un, un, un] [(.ref rw21)]))
      refine Go.st (fun _ k => XS.astoreN X20.here hx rfl (hb hby d19_33) rfl rfl (l' := #[vr q, vi bb, vr rw21, un, un, un, un, un]) rfl k) ?_
      refine gA X20 hx hby rfl d19_34 rfl rfl ?_
      obtain ⟨T26, X26, e26, st26⟩ := getF X20 hx hZ hown (host := "") (Or.inl (tb hw 22 rfl)) Via.refl e20 hfg6_2 (g := (mkF m 35 #[vr q, vi bb, vr rw21, un, un, un, un, un] [(.ref q)])) rfl rfl (hb hby d19_35)
      refine Go.st st26 ?_
      refine gC X26 hx hby rfl d19_38 rfl ?_
      have r28 : 0 ≤ bb.toInt := by omega
      have r29 : bb.toInt < 65 := by omega
      have hb30 : bb.toInt.toNat < 65 := by omega
      refine Go.st (RA.ild X26 hx hZ e26 hfg6_7 (j := bb) r28 r29 (g := (mkF m 39 #[vr q, vi bb, vr rw21, un, un, un, un, un] [(.int bb), (.ref js)])) rfl rfl (hb hby d19_39)) ?_
      show Go p e below s Q 0 0 (T26.setTop (mkF m 40 #[vr q, vi bb, vr rw21, un, un, un, un, un] [(.ref (jf bb.toInt.toNat))]))
      obtain ⟨rw27, hr27⟩ : ∃ z, z = jf bb.toInt.toNat := ⟨_, rfl⟩
      rw [← hr27]
      have Grw27 : n0 ≤ rw27 := by rw [hr27]; exact (GR bb.toInt.toNat hb30).2
      have h31 : Vec Z hg6 rw27 .int (4 : Int32) (ints (JF bb.toInt.toNat)) := by rw [hr27]; exact hfg6_10 bb.toInt.toNat hb30
      show Go p e below s Q 0 0 (T26.setTop (mkF m 40 #[vr q, vi bb, vr rw21, un, un, un, un, un] [(.ref rw27)]))
      refine Go.st (fun _ k => XS.astoreN X26.here hx rfl (hb hby d19_40) rfl rfl (l' := #[vr q, vi bb, vr rw21, vr rw27, un, un, un, un]) rfl k) ?_
      refine gA X26 hx hby rfl d19_41 rfl rfl ?_
      obtain ⟨T32, X32, e32, st32⟩ := getF X26 hx hZ hown (host := "") (Or.inl (tb hw 25 rfl)) Via.refl e26 hfg6_3 (g := (mkF m 42 #[vr q, vi bb, vr rw21, vr rw27, un, un, un, un] [(.ref q)])) rfl rfl (hb hby d19_42)
      refine Go.st st32 ?_
      refine gC X32 hx hby rfl d19_45 rfl ?_
      have r34 : 0 ≤ bb.toInt := by omega
      have r35 : bb.toInt < (65 : Int32).toInt := by omega
      refine Go.st (Vec.ildI X32 hx hZ e32 hfg6_8 (j := bb) r34 r35 (g := (mkF m 46 #[vr q, vi bb, vr rw21, vr rw27, un, un, un, un] [(.int bb), (.ref ss)])) rfl rfl (hb hby d19_46)) ?_
      refine gS X32 hx hby rfl d19_47 rfl (l' := #[vr q, vi bb, vr rw21, vr rw27, vi (sz bb.toInt.toNat), un, un, un]) rfl ?_
      show Go p e below s Q 0 0 (T32.setTop (mkF m 49 #[vr q, vi bb, vr rw21, vr rw27, vi (sz bb.toInt.toNat), un, un, un] []))
      generalize hv_v36 : (sz bb.toInt.toNat) = v36 at f14 ⊢
      have cs37 : v36.toInt = 1 := by rw [← hv_v36]; exact hone
      ·
        have cs37' : v36 = (1 : Int32) := eqI cs37 liI_1 rfl
        subst cs37'
        have f38 := liI_1
        show Go p e below s Q 0 0 (T32.setTop (mkF m 49 #[vr q, vi bb, vr rw21, vr rw27, vi (1 : Int32), un, un, un] []))
        refine gA X32 hx hby rfl d19_49 rfl rfl ?_
        refine gI X32 hx hby rfl d19_50 ?_
        refine Go.st (Vec.ildJ X32 hx hZ e32 h25 (j := (0 : Int32)) (by decide) (by decide) (g := (mkF m 51 #[vr q, vi bb, vr rw21, vr rw27, vi (1 : Int32), un, un, un] [(.int (0 : Int32)), (.ref rw21)])) rfl rfl (hb hby d19_51)) ?_
        refine gU X32 hx hby rfl d19_52 rfl (l' := #[vr q, vi bb, vr rw21, vr rw27, vi (1 : Int32), vj ((KF bb.toInt.toNat) 0), sd, un]) rfl ?_
        show Go p e below s Q 0 0 (T32.setTop (mkF m 54 #[vr q, vi bb, vr rw21, vr rw27, vi (1 : Int32), vj ((KF bb.toInt.toNat) 0), sd, un] []))
        have f40 := rng64 ((KF bb.toInt.toNat) 0)
        generalize hv_v41 : ((KF bb.toInt.toNat) 0) = v41 at f40 ⊢
        refine gI X32 hx hby rfl d19_54 ?_
        refine gS X32 hx hby rfl d19_55 rfl (l' := #[vr q, vi bb, vr rw21, vr rw27, vi (1 : Int32), vj v41, sd, vi (1 : Int32)]) rfl ?_
        refine gD X32 hx hby rfl d19_57 rfl ?_
        refine gD X32 hx hby rfl d19_59 rfl ?_
        refine gZ X32 hx hby rfl (pc0 := 61) (pc' := 81) rfl d19_61 rfl (flt (nltI liI_1 liI_1 (by decide))).2.1 (by decide) (by decide) ?_
        refine gA X32 hx hby rfl d19_81 rfl rfl ?_
        show Go p e below s Q 0 0 (T32.setTop (mkF m 82 #[vr q, vi bb, vr rw21, vr rw27, vi (1 : Int32), vj v41, sd, vi (1 : Int32)] [(.ref q)]))
        refine gF X32 hx hby rfl d19_82 rfl ?_
        obtain ⟨T42, h42, X42, e42, W42, st42⟩ := putF X32 hx hZ hown (host := "") (Or.inl (tb hw 28 rfl)) Via.refl e32 hfg6_5 hfg6_0 (Or.inl (tb hw 29 rfl)) (tb hw 10 rfl) (ty := .long) (by decide) rfl rfl (g := (mkF m 84 #[vr q, vi bb, vr rw21, vr rw27, vi (1 : Int32), vj v41, sd, vi (1 : Int32)] [(.long v41), (.ref q)])) rfl rfl (hb hby d19_84)
        have h43 : Exa Z h42 q cR := hfg6_0.wr W42
        have h44 : Fld Z h42 q cR "keys" "[[J" (.ref ks) := hfg6_1.other W42 (Or.inr (ndq (sl_0 hw) 0 3 rfl))
        have h45 : Fld Z h42 q cR "ids" "[[I" (.ref js) := hfg6_2.other W42 (Or.inr (ndq (sl_0 hw) 1 3 rfl))
        have h46 : Fld Z h42 q cR "sizes" "[I" (.ref ss) := hfg6_3.other W42 (Or.inr (ndq (sl_0 hw) 2 3 rfl))
        have h47 : Fld Z h42 q cR "size" "I" (.int sn) := hfg6_4.other W42 (Or.inr (ndq (sl_0 hw) 4 3 rfl))
        have h48 : Fld Z h42 q cR "last" "J" (.long v41) := hfg6_5.same W42
        have h49 : RA Z h42 ks .long kf := hfg6_6.other W42 n_ks_q
        have h50 : RA Z h42 js .int jf := hfg6_7.other W42 n_js_q
        have h51 : Vec Z h42 ss .int (65 : Int32) (ints sz) := hfg6_8.other W42 (Ne.symm n_q_ss)
        have h52 : RwJ Z h42 kf KF := RwJ.other W42 hfg6_9 (fun b hb => (N_q b hb).1)
        have h53 : RwI Z h42 jf JF := RwI.other W42 hfg6_10 (fun b hb => (N_q b hb).2)
        have h54 : Vec Z h42 rw21 .long (4 : Int32) (longs (KF bb.toInt.toNat)) := h25.other W42 (Ne.symm (nr_k N_q hb24 hr21))
        have h55 : Vec Z h42 rw27 .int (4 : Int32) (ints (JF bb.toInt.toNat)) := h31.other W42 (Ne.symm (nr_j N_q hb30 hr27))
        have K42 : Keep h0 h42 ([q, ss] ++ rowsOf kf jf) := Kg6.wr W42 (Or.inl (List.mem_append_left _ (List.mem_of_getElem? (i := 0) rfl)))
        have N42 := Fr.snoc X42 Ng6 G_q
        refine Go.st st42 ?_
        show Go p e below s Q 0 0 (T42.setTop (mkF m 87 #[vr q, vi bb, vr rw21, vr rw27, vi (1 : Int32), vj v41, sd, vi (1 : Int32)] []))
        refine gA X42 hx hby rfl d19_87 rfl rfl ?_
        obtain ⟨T56, X56, e56, st56⟩ := getF X42 hx hZ hown (host := "") (Or.inl (tb hw 25 rfl)) Via.refl e42 h46 (g := (mkF m 88 #[vr q, vi bb, vr rw21, vr rw27, vi (1 : Int32), vj v41, sd, vi (1 : Int32)] [(.ref q)])) rfl rfl (hb hby d19_88)
        refine Go.st st56 ?_
        refine gC X56 hx hby rfl d19_91 rfl ?_
        refine gI X56 hx hby rfl d19_92 ?_
        have r58 : 0 ≤ bb.toInt := by omega
        have r59 : bb.toInt < (65 : Int32).toInt := by omega
        obtain ⟨T57, h57, X57, e57, W57, V57, st57⟩ := Vec.istI X56 hx hZ e56 h51 (j := bb) r58 r59 (g := (mkF m 93 #[vr q, vi bb, vr rw21, vr rw27, vi (1 : Int32), vj v41, sd, vi (1 : Int32)] [(.int (0 : Int32)), (.int bb), (.ref ss)])) rfl rfl (hb hby d19_93)
        have h60 : Exa Z h57 q cR := h43.wr W57
        have h61 : Fld Z h57 q cR "keys" "[[J" (.ref ks) := h44.other W57 (Or.inl n_q_ss)
        have h62 : Fld Z h57 q cR "ids" "[[I" (.ref js) := h45.other W57 (Or.inl n_q_ss)
        have h63 : Fld Z h57 q cR "sizes" "[I" (.ref ss) := h46.other W57 (Or.inl n_q_ss)
        have h64 : Fld Z h57 q cR "size" "I" (.int sn) := h47.other W57 (Or.inl n_q_ss)
        have h65 : Fld Z h57 q cR "last" "J" (.long v41) := h48.other W57 (Or.inl n_q_ss)
        have h66 : RA Z h57 ks .long kf := h49.other W57 n_ks_ss
        have h67 : RA Z h57 js .int jf := h50.other W57 n_js_ss
        have h68 : Vec Z h57 ss .int (65 : Int32) (ints (updF sz bb.toInt.toNat (0 : Int32))) := V57
        have h69 : RwJ Z h57 kf KF := RwJ.other W57 h52 (fun b hb => (N_ss b hb).1)
        have h70 : RwI Z h57 jf JF := RwI.other W57 h53 (fun b hb => (N_ss b hb).2)
        have h71 : Vec Z h57 rw21 .long (4 : Int32) (longs (KF bb.toInt.toNat)) := h54.other W57 (Ne.symm (nr_k N_ss hb24 hr21))
        have h72 : Vec Z h57 rw27 .int (4 : Int32) (ints (JF bb.toInt.toNat)) := h55.other W57 (Ne.symm (nr_j N_ss hb30 hr27))
        have K57 : Keep h0 h57 ([q, ss] ++ rowsOf kf jf) := K42.wr W57 (Or.inl (List.mem_append_left _ (List.mem_of_getElem? (i := 1) rfl)))
        have N57 := Fr.snoc X57 N42 G_s
        refine Go.st st57 ?_
        show Go p e below s Q 0 0 (T57.setTop (mkF m 94 #[vr q, vi bb, vr rw21, vr rw27, vi (1 : Int32), vj v41, sd, vi (1 : Int32)] []))
        refine gI X57 hx hby rfl d19_94 ?_
        refine gS X57 hx hby rfl d19_95 rfl (l' := #[vr q, vi bb, vr rw21, vr rw27, vi (1 : Int32), vj v41, sd, vi (0 : Int32)]) rfl ?_
        refine gD X57 hx hby rfl d19_97 rfl ?_
        refine gD X57 hx hby rfl d19_99 rfl ?_
        refine gM X57 hx hby rfl d19_101 rfl (tlt (ltI liI_0 liI_1 (by decide))).2.1 ?_
        refine gA X57 hx hby rfl d19_104 rfl rfl ?_
        show Go p e below s Q 0 0 (T57.setTop (mkF m 105 #[vr q, vi bb, vr rw21, vr rw27, vi (1 : Int32), vj v41, sd, vi (0 : Int32)] [(.ref q)]))
        refine gA X57 hx hby rfl d19_105 rfl rfl ?_
        refine gA X57 hx hby rfl d19_106 rfl rfl ?_
        refine gD X57 hx hby rfl d19_107 rfl ?_
        refine Go.st (Vec.ildJ X57 hx hZ e57 h71 (j := (0 : Int32)) (by decide) (by decide) (g := (mkF m 109 #[vr q, vi bb, vr rw21, vr rw27, vi (1 : Int32), vj v41, sd, vi (0 : Int32)] [(.int (0 : Int32)), (.ref rw21), (.ref q), (.ref q)])) rfl rfl (hb hby d19_109)) ?_
        show Go p e below s Q 0 0 (T57.setTop (mkF m 110 #[vr q, vi bb, vr rw21, vr rw27, vi (1 : Int32), vj v41, sd, vi (0 : Int32)] [(.long ((KF bb.toInt.toNat) 0)), (.ref q), (.ref q)]))
        have hkl : ((KF bb.toInt.toNat) 0).toInt = v41.toInt := congrArg Int64.toInt hv_v41
        have f75 := rng64 ((KF bb.toInt.toNat) 0)
        obtain ⟨cq74, q74, q74'⟩ := h60.cell
        have pv74 := Cond.privateMethod_at (mvP hZ (tb hw 105 rfl) (args := #[]))
        obtain ⟨_, _, ⟨T74, L74, k74, n74⟩, -, X74, ⟨Lc74, hQ74, l74, y74, z74⟩, st74⟩ := X57.privateBack hx (y := (⟨cR, "bucketOf", "(J)I"⟩ : MethodName)) hown (mvT hZ (tb hw 103 rfl)) (mvT hZ (tb hw 104 rfl)) (self_sel (mvT hZ (args := #[]) (tb hw 64 rfl)) rfl pv74 (mvT hZ (tb hw 104 rfl)) (by decide)) pv74 (mvT hZ (tb hw 106 rfl)) (by decide) (backOf (W := 1) (rm12 l Z a0 hw [] q ((KF bb.toInt.toNat) 0) v41 h57 n0 (Nat.le_trans Z0 K57.1) h60 h65) hZ (tb hw 106 rfl) (tb hw 11 rfl) (by decide) (by decide)) (g := (mkF m 110 #[vr q, vi bb, vr rw21, vr rw27, vi (1 : Int32), vj v41, sd, vi (0 : Int32)] [(.long ((KF bb.toInt.toNat) 0)), (.ref q), (.ref q)])) rfl (by rw [hml]; rfl) (Steps.refl _) (a := q) (by rw [e57]; exact q74) q74' (argsL := [(.long ((KF bb.toInt.toNat) 0))]) (rest := [(.ref q)]) (lenOf pd_1 rfl) rfl (by show 2 * 0 + _ ≤ _; exact Nat.le_of_eq rfl) (hb hby d19_110) (fun _ _ => ⟨rfl, e57, (by decide : 0 + 0 ≤ _), (by decide : 0 + 0 ≤ _)⟩)
        dsimp only [Pt.U, Pt.locs, Pt.cells, Pt.slots] at X74 l74 y74 z74 st74 hQ74
        subst y74 z74
        obtain ⟨rr_76, rfl, N74q, f77, f78, f79, e74⟩ := hQ74
        have N74 : Fr n0 L74 := by rw [l74]; exact Fr.app N57 N74q
        refine Go.tr  st74 ?_
        show Go p e below s Q 0 0 (T74.setTop (mkF m 113 #[vr q, vi bb, vr rw21, vr rw27, vi (1 : Int32), vj v41, sd, vi (0 : Int32)] [(.int rr_76), (.ref q)]))
        have f80 := rng32 rr_76
        have cs81 : rr_76.toInt = 0 := by omega
        ·
          have cs81' : rr_76 = (0 : Int32) := eqI cs81 liI_0 rfl
          subst cs81'
          show Go p e below s Q 0 0 (T74.setTop (mkF m 113 #[vr q, vi bb, vr rw21, vr rw27, vi (1 : Int32), vj v41, sd, vi (0 : Int32)] [(.int (0 : Int32)), (.ref q)]))
          refine gA X74 hx hby rfl d19_113 rfl rfl ?_
          refine gD X74 hx hby rfl d19_114 rfl ?_
          refine Go.st (Vec.ildJ X74 hx hZ e74 h71 (j := (0 : Int32)) (by decide) (by decide) (g := (mkF m 116 #[vr q, vi bb, vr rw21, vr rw27, vi (1 : Int32), vj v41, sd, vi (0 : Int32)] [(.int (0 : Int32)), (.ref rw21), (.int (0 : Int32)), (.ref q)])) rfl rfl (hb hby d19_116)) ?_
          refine gA X74 hx hby rfl d19_117 rfl rfl ?_
          refine gD X74 hx hby rfl d19_118 rfl ?_
          refine Go.st (Vec.ildI X74 hx hZ e74 h72 (j := (0 : Int32)) (by decide) (by decide) (g := (mkF m 120 #[vr q, vi bb, vr rw21, vr rw27, vi (1 : Int32), vj v41, sd, vi (0 : Int32)] [(.int (0 : Int32)), (.ref rw27), (.long ((KF bb.toInt.toNat) 0)), (.int (0 : Int32)), (.ref q)])) rfl rfl (hb hby d19_120)) ?_
          show Go p e below s Q 0 0 (T74.setTop (mkF m 121 #[vr q, vi bb, vr rw21, vr rw27, vi (1 : Int32), vj v41, sd, vi (0 : Int32)] [(.int ((JF bb.toInt.toNat) 0)), (.long ((KF bb.toInt.toNat) 0)), (.int (0 : Int32)), (.ref q)]))
          have f85 := rng32 sn
          have f86 := rng32 ((JF bb.toInt.toNat) 0)
          have p87 : 0 ≤ (0 : Int32).toInt ∧ (0 : Int32).toInt < 65 := by omega
          obtain ⟨cq84, q84, q84'⟩ := h60.cell
          have pv84 := Cond.privateMethod_at (mvP hZ (tb hw 117 rfl) (args := #[]))
          obtain ⟨_, _, ⟨T84, L84, k84, n84⟩, -, X84, ⟨Lc84, hQ84, l84, y84, z84⟩, st84⟩ := X74.privateBack hx (y := (⟨cR, "add", "(IJI)V"⟩ : MethodName)) hown (mvT hZ (tb hw 115 rfl)) (mvT hZ (tb hw 116 rfl)) (self_sel (mvT hZ (args := #[]) (tb hw 64 rfl)) rfl pv84 (mvT hZ (tb hw 116 rfl)) (by decide)) pv84 (mvT hZ (tb hw 118 rfl)) (by decide) (backOf (W := 0) (rm15 l Z a0 hw [] q (0 : Int32) ((KF bb.toInt.toNat) 0) ((JF bb.toInt.toNat) 0) ks js ss kf jf (updF sz bb.toInt.toNat (0 : Int32)) KF JF sn v41 h57 n0 (Nat.le_trans Z0 K57.1) h60 h61 h62 h63 h64 h65 h66 h67 h68 h69 h70 Ik Ij GR G_q G_s N_q N_ks N_js N_ss n_q_ss n_ks_ss n_js_ss n_ks_q n_js_q p87 (f1_ct hrest hbb)) hZ (tb hw 118 rfl) (tb hw 11 rfl) (by decide) (by decide)) (g := (mkF m 121 #[vr q, vi bb, vr rw21, vr rw27, vi (1 : Int32), vj v41, sd, vi (0 : Int32)] [(.int ((JF bb.toInt.toNat) 0)), (.long ((KF bb.toInt.toNat) 0)), (.int (0 : Int32)), (.ref q)])) rfl (by rw [hml]; rfl) (Steps.refl _) (a := q) (by rw [e74]; exact q84) q84' (argsL := [(.int (0 : Int32)), (.long ((KF bb.toInt.toNat) 0)), (.int ((JF bb.toInt.toNat) 0))]) (rest := []) (lenOf pd_3 rfl) rfl (by show 2 * 0 + _ ≤ _; exact Nat.le_of_eq rfl) (hb hby d19_121) (fun _ _ => ⟨rfl, e74, (by decide : 0 + 0 ≤ _), (by decide : 0 + 0 ≤ _)⟩)
          dsimp only [Pt.U, Pt.locs, Pt.cells, Pt.slots] at X84 l84 y84 z84 st84 hQ84
          subst y84 z84
          obtain ⟨rfl, N84q, K84q, h88, h89, h90, h91, h92, h93, h94, h95, h96, h97, h98⟩ := hQ84
          have N84 : Fr n0 L84 := by rw [l84]; exact Fr.app N74 N84q
          have K84 : Keep h0 T84.heap ([q, ss] ++ rowsOf kf jf) := K57.trans K84q (fun x hx => (fun x hx => (List.mem_append.mp hx).elim ((show ∀ x ∈ ([ss] : List Addr), x ∈ (([q, ss] ++ rowsOf kf jf) : List Addr) ∨ h0.size ≤ x from (allS (Or.inl (List.mem_append_left _ (List.mem_of_getElem? (i := 1) rfl))) all0)) x) (fun q => Or.inl (List.mem_append_right _ q))) x hx)
          refine Go.tr  st84 ?_
          show Go p e below s Q 0 0 (T84.setTop (mkF m 124 #[vr q, vi bb, vr rw21, vr rw27, vi (1 : Int32), vj v41, sd, vi (0 : Int32)] []))
          refine gInc X84 hx hby rfl d19_124 rfl (l' := #[vr q, vi bb, vr rw21, vr rw27, vi (1 : Int32), vj v41, sd, vi (1 : Int32)]) rfl ?_
          refine gG X84 hx hby rfl (pc0 := 127) (pc' := 97) rfl d19_127 (by decide) (by decide) ?_
          refine gD X84 hx hby rfl d19_97 rfl ?_
          refine gD X84 hx hby rfl d19_99 rfl ?_
          refine gZ X84 hx hby rfl (pc0 := 101) (pc' := 130) rfl d19_101 rfl (flt (nltI liI_1 liI_1 (by decide))).2.1 (by decide) (by decide) ?_
          show Go p e below s Q 0 0 (T84.setTop (mkF m 130 #[vr q, vi bb, vr rw21, vr rw27, vi (1 : Int32), vj v41, sd, vi (1 : Int32)] []))
          exact Go.retV X84 hx hlk Bd.returns (hb hby d19_130) (by rw [← hQ]; exact ⟨(updF (updF sz bb.toInt.toNat (0 : Int32)) (0 : Int32).toInt.toNat (((updF sz bb.toInt.toNat (0 : Int32)) (0 : Int32).toInt.toNat) + (1 : Int32))), (updF KF (0 : Int32).toInt.toNat (updF (KF (0 : Int32).toInt.toNat) ((updF sz bb.toInt.toNat (0 : Int32)) (0 : Int32).toInt.toNat).toInt.toNat ((KF bb.toInt.toNat) 0))), (updF JF (0 : Int32).toInt.toNat (updF (JF (0 : Int32).toInt.toNat) ((updF sz bb.toInt.toNat (0 : Int32)) (0 : Int32).toInt.toNat).toInt.toNat ((JF bb.toInt.toNat) 0))), v41, rfl, N84, (by exact f1_a hrest hbb), (by exact f1_b hrest hbb), (by exact f1_k hrest hbb), (by exact f1_k hrest hbb), (by exact hv_v41.symm), K84, h88, h89, h90, h91, h92, h93, h94, h95, h96, h97, h98⟩) (by decide) (by decide)
  have f99 := liI_1
  exact lp7 _ T1 h0 _ (up X1 (by decide) (by decide)) e1 N0 K0 (1 : Int32) E_q F_k F_i F_s F_n F_l A_k A_j V_s W_k W_j (by omega) rfl
theorem d19_64 : decode kc19 64 = .ok (.lload 5, 2) := by decide +kernel
theorem d19_66 : decode kc19 66 = .ok (.aload_n 2, 1) := by decide +kernel
theorem d19_67 : decode kc19 67 = .ok (.iload 7, 2) := by decide +kernel
theorem d19_69 : decode kc19 69 = .ok (.laload, 1) := by decide +kernel
theorem pd_4 : parseMethodDescriptor "(JJ)J" = some ⟨[.long, .long], some .long⟩ := by decide +kernel
theorem d19_70 : decode kc19 70 = .ok (.invokestatic 63, 3) := by decide +kernel
theorem d19_73 : decode kc19 73 = .ok (.lstore 5, 2) := by decide +kernel
theorem d19_75 : decode kc19 75 = .ok (.iinc 7 1, 3) := by decide +kernel
theorem d19_78 : decode kc19 78 = .ok (.goto (-21), 3) := by decide +kernel
theorem ef_rmf2e (m : MethodId) (q : Addr) : entryFrame m #[(.ref q)] 8 = mkF m 0 #[vr q, un, un, un, un, un, un, un] [] := by first | (simp [entryFrame, mkF, argsToLocals, Value.category]; done) | rfl
def Qf2e (Z : State) (q ks js ss : Addr) (kf jf : Nat → Addr) (sz : Nat → Int32) (KF : Nat → Nat → Int64) (JF : Nat → Nat → Int32) (sn : Int32) (la : Int64) (bb : Int32) (h0 : Heap) (n0 : Nat) (vv : Option Value) (h : Heap) (LL : List Loc) : Prop := ∃ (s2 : Nat → Int32) (K2 : Nat → Nat → Int64) (J2 : Nat → Nat → Int32) (l2 : Int64), vv = none ∧ Fr n0 LL ∧ ((s2 0).toInt = 2) ∧ (∀ b : Nat, b < 65 → ¬ b = 0 → (s2 b).toInt = 0) ∧ (K2 0 0 = KF bb.toInt.toNat 0 ∧ K2 0 1 = KF bb.toInt.toNat 1) ∧ (J2 0 0 = JF bb.toInt.toNat 0 ∧ J2 0 1 = JF bb.toInt.toNat 1) ∧ (l2.toInt = (KF bb.toInt.toNat 0).toInt) ∧ Keep h0 h ([q, ss] ++ rowsOf kf jf) ∧ (Exa Z h q cR) ∧ (Fld Z h q cR "keys" "[[J" (.ref ks)) ∧ (Fld Z h q cR "ids" "[[I" (.ref js)) ∧ (Fld Z h q cR "sizes" "[I" (.ref ss)) ∧ (Fld Z h q cR "size" "I" (.int sn)) ∧ (Fld Z h q cR "last" "J" (.long l2)) ∧ (RA Z h ks .long kf) ∧ (RA Z h js .int jf) ∧ (Vec Z h ss .int (65 : Int32) (ints s2)) ∧ (RwJ Z h kf K2) ∧ (RwI Z h jf J2)
set_option maxRecDepth 65536 in
set_option maxHeartbeats 40000000 in
theorem rmf2e (l : Launch) (Z : State) (a0 : Array Value) (hw : ∀ d ∈ tables_1, d.before a0 Z = true) (ws : List Jvm.Cond) (q ks js ss : Addr) (kf jf : Nat → Addr) (sz : Nat → Int32) (KF : Nat → Nat → Int64) (JF : Nat → Nat → Int32) (sn : Int32) (la : Int64) (bb : Int32) (h0 : Heap) (n0 : Nat) (Z0 : n0 ≤ h0.size) (E_q : Exa Z h0 q cR) (F_k : Fld Z h0 q cR "keys" "[[J" (.ref ks)) (F_i : Fld Z h0 q cR "ids" "[[I" (.ref js)) (F_s : Fld Z h0 q cR "sizes" "[I" (.ref ss)) (F_n : Fld Z h0 q cR "size" "I" (.int sn)) (F_l : Fld Z h0 q cR "last" "J" (.long la)) (A_k : RA Z h0 ks .long kf) (A_j : RA Z h0 js .int jf) (V_s : Vec Z h0 ss .int (65 : Int32) (ints sz)) (W_k : RwJ Z h0 kf KF) (W_j : RwI Z h0 jf JF) (Ik : Inj kf) (Ij : Inj jf) (GR : ∀ b : Nat, b < 65 → n0 ≤ kf b ∧ n0 ≤ jf b) (G_q : n0 ≤ q) (G_s : n0 ≤ ss) (N_q : NR kf jf q) (N_ks : NR kf jf ks) (N_js : NR kf jf js) (N_ss : NR kf jf ss) (n_q_ss : q ≠ ss) (n_ks_ss : ks ≠ ss) (n_js_ss : js ≠ ss) (n_ks_q : ks ≠ q) (n_js_q : js ≠ q) (hbb : 1 ≤ bb.toInt ∧ bb.toInt ≤ 64 ∧ 64 ≤ bb.toInt) (hone : (sz bb.toInt.toNat).toInt = 2) (hrest : ∀ b : Nat, b < 65 → ¬ (b : Int) = bb.toInt → (sz b).toInt = 0) (hpos : 0 ≤ (KF bb.toInt.toNat 0).toInt ∧ 0 ≤ (KF bb.toInt.toNat 1).toInt) (hcmp : (KF bb.toInt.toNat 0).toInt = (KF bb.toInt.toNat 1).toInt) :
    MetFree l (⟨cR, "fillFirstBucket", "()V"⟩ : MethodName) (head1 (Jvm.Cond.code (⟨cR, "fillFirstBucket", "()V"⟩ : MethodName) kc19 8 none :: ws) ({ frames := 3, cells := 0, slots := 0, locals := 44 } : Room)) (fun aa UU => aa = #[(.ref q)] ∧ Z.Warmed39 UU.vm ∧ UU.heap = h0) (fun _ _ _ _ _ => True) (fun _ UU oo UU' => ∃ vv LL, oo = .returned vv ∧ Qf2e Z q ks js ss kf jf sz KF JF sn la bb h0 n0 vv UU'.heap LL ∧ FrameEnd UU oo UU' LL 0 0) := by
  refine MetFree.of_bodySF (plainFor_of_name pn_2) hisR ?_
  intro p e s m args below meth c s₁ Bd hml0 hP hK
  obtain ⟨rfl, hZ, hh⟩ := hP
  have hx := Bd.exec
  have hby := Bd.bytes
  have hlk : meth.locks = false := BodyLoose.notSynchronized Bd
  have hml : c.maxLocals = 8 := hml0
  have hown : s.vm.findClass cR = some m.cls := findClass_of_methodNamed Bd.named
  have hnm := (name_of_methodNamed Bd.named Bd.method).1
  have X0 : Stand p l e ({ frames := 3, cells := 0, slots := 0, locals := 44 } : Room) s m #[(.ref q)] below meth c s₁ [] 0 0 := Stand.of_body Bd
  have e0 : s₁.heap = h0 := by rw [← hh, Bd.state]; rfl
  have N0 := Fr.nil n0
  have K0 : Keep h0 h0 ([q, ss] ++ rowsOf kf jf) := Keep.refl h0 _
  refine (?_ : Go p e below s (Qf2e Z q ks js ss kf jf sz KF JF sn la bb h0 n0) 0 0 (s₁.setTop (entryFrame m #[(.ref q)] 8)))
  rw [ef_rmf2e]
  generalize hQ : Qf2e Z q ks js ss kf jf sz KF JF sn la bb h0 n0 = Q
  show Go p e below s Q 0 0 (s₁.setTop (mkF m 0 #[vr q, un, un, un, un, un, un, un] []))
  refine gA X0 hx hby rfl d19_0 rfl rfl ?_
  obtain ⟨T1, X1, e1, st1⟩ := getF X0 hx hZ hown (host := "") (Or.inl (tb hw 25 rfl)) Via.refl e0 F_s (g := (mkF m 1 #[vr q, un, un, un, un, un, un, un] [(.ref q)])) rfl rfl (hb hby d19_1)
  refine Go.st st1 ?_
  refine gI X1 hx hby rfl d19_4 ?_
  refine Go.st (Vec.ildI X1 hx hZ e1 V_s (j := (0 : Int32)) (by decide) (by decide) (g := (mkF m 5 #[vr q, un, un, un, un, un, un, un] [(.int (0 : Int32)), (.ref ss)])) rfl rfl (hb hby d19_5)) ?_
  show Go p e below s Q 0 0 (T1.setTop (mkF m 6 #[vr q, un, un, un, un, un, un, un] [(.int (sz 0))]))
  have hz0 : (sz 0).toInt = 0 := hrest 0 (by decide) (by omega)
  have f3 := liI_0
  have f4 := rng32 (sz 0)
  have c5 : ¬ (0 < (sz 0).toInt) := by omega
  refine gY X1 hx hby rfl (pc0 := 6) (pc' := 10) rfl d19_6 rfl ((if0 _ _).trans (flt (nltI liI_0 rfl c5)).2.2.2) (by decide) (by decide) ?_
  refine gI X1 hx hby rfl d19_10 ?_
  refine gT X1 hx hby rfl d19_11 rfl (l' := #[vr q, vi (1 : Int32), un, un, un, un, un, un]) rfl ?_
  show Go p e below s Q 0 0 (T1.setTop (mkF m 12 #[vr q, vi (1 : Int32), un, un, un, un, un, un] []))
  have lp7 : ∀ (kg6 : Nat) (Tg6 : State) (hg6 : Heap) (Lgg6 : List Loc) (Xg6 : Stand p l e ({ frames := 3, cells := 0, slots := 0, locals := 44 } : Room) s m #[(.ref q)] below meth c Tg6 Lgg6 0 0) (eg6 : Tg6.heap = hg6) (Ng6 : Fr n0 Lgg6) (Kg6 : Keep h0 hg6 ([q, ss] ++ rowsOf kf jf)) (k12 : Int32) (hfg6_0 : Exa Z hg6 q cR) (hfg6_1 : Fld Z hg6 q cR "keys" "[[J" (.ref ks)) (hfg6_2 : Fld Z hg6 q cR "ids" "[[I" (.ref js)) (hfg6_3 : Fld Z hg6 q cR "sizes" "[I" (.ref ss)) (hfg6_4 : Fld Z hg6 q cR "size" "I" (.int sn)) (hfg6_5 : Fld Z hg6 q cR "last" "J" (.long la)) (hfg6_6 : RA Z hg6 ks .long kf) (hfg6_7 : RA Z hg6 js .int jf) (hfg6_8 : Vec Z hg6 ss .int (65 : Int32) (ints sz)) (hfg6_9 : RwJ Z hg6 kf KF) (hfg6_10 : RwI Z hg6 jf JF) (hpg6_0 : 1 ≤ k12.toInt ∧ k12.toInt ≤ bb.toInt), (bb.toInt - k12.toInt).toNat = kg6 → Go p e below s Q 0 0 (Tg6.setTop (mkF m 12 #[vr q, vi k12, un, un, un, un, un, un] [])) := by
    intro kg6
    induction kg6 using Nat.strongRecOn with
    | ind kg6 ihg6 =>
    intro Tg6 hg6 Lgg6 Xg6 eg6 Ng6 Kg6 k12 hfg6_0 hfg6_1 hfg6_2 hfg6_3 hfg6_4 hfg6_5 hfg6_6 hfg6_7 hfg6_8 hfg6_9 hfg6_10 hpg6_0 hkg6
    have f8 := rng32 k12
    show Go p e below s Q 0 0 (Tg6.setTop (mkF m 12 #[vr q, vi k12, un, un, un, un, un, un] []))
    refine gA Xg6 hx hby rfl d19_12 rfl rfl ?_
    obtain ⟨T9, X9, e9, st9⟩ := getF Xg6 hx hZ hown (host := "") (Or.inl (tb hw 25 rfl)) Via.refl eg6 hfg6_3 (g := (mkF m 13 #[vr q, vi k12, un, un, un, un, un, un] [(.ref q)])) rfl rfl (hb hby d19_13)
    refine Go.st st9 ?_
    refine gC X9 hx hby rfl d19_16 rfl ?_
    have f11 := liI_65
    have r12 : 0 ≤ k12.toInt := by omega
    have r13 : k12.toInt < (65 : Int32).toInt := by omega
    refine Go.st (Vec.ildI X9 hx hZ e9 hfg6_8 (j := k12) r12 r13 (g := (mkF m 17 #[vr q, vi k12, un, un, un, un, un, un] [(.int k12), (.ref ss)])) rfl rfl (hb hby d19_17)) ?_
    show Go p e below s Q 0 0 (T9.setTop (mkF m 18 #[vr q, vi k12, un, un, un, un, un, un] [(.int (sz k12.toInt.toNat))]))
    have hsk : (k12.toInt = bb.toInt ∧ (sz k12.toInt.toNat).toInt = 2) ∨ (¬ k12.toInt = bb.toInt ∧ (sz k12.toInt.toNat).toInt = 0) := by
      by_cases q : k12.toInt = bb.toInt
      · exact Or.inl ⟨q, by rw [q]; exact hone⟩
      · exact Or.inr ⟨q, hrest k12.toInt.toNat (by omega) (by omega)⟩
    have f14 := rng32 (sz k12.toInt.toNat)
    by_cases c15 : (sz k12.toInt.toNat).toInt = 0
    ·
      refine gN X9 hx hby rfl d19_18 rfl ((if0 _ _).trans (teq (eqI rfl liI_0 c15)).2) ?_
      refine gInc X9 hx hby rfl d19_21 rfl (l' := #[vr q, vi (k12 + (1 : Int32)), un, un, un, un, un, un]) rfl ?_
      show Go p e below s Q 0 0 (T9.setTop (mkF m 24 #[vr q, vi (k12 + (1 : Int32)), un, un, un, un, un, un] []))
      have f16 := liI_1
      have f17 := c_iadd k12 (1 : Int32)
      have f18 := rng32 (k12 + (1 : Int32))
      generalize hv_v19 : (k12 + (1 : Int32)) = v19 at f17 f18 ⊢
      refine gG X9 hx hby rfl (pc0 := 24) (pc' := 12) rfl d19_24 (by decide) (by decide) ?_
      show Go p e below s Q 0 0 (T9.setTop (mkF m 12 #[vr q, vi v19, un, un, un, un, un, un] []))
      exact ihg6 _ (by omega) T9 hg6 _ (up X9 (by decide) (by decide)) e9 Ng6 Kg6 v19 hfg6_0 hfg6_1 hfg6_2 hfg6_3 hfg6_4 hfg6_5 hfg6_6 hfg6_7 hfg6_8 hfg6_9 hfg6_10 (by omega) rfl
    ·
      refine gY X9 hx hby rfl (pc0 := 18) (pc' := 27) rfl d19_18 rfl ((if0 _ _).trans (feq (neI rfl liI_0 c15)).2) (by decide) (by decide) ?_
      show Go p e below s Q 0 0 (T9.setTop (mkF m 27 #[vr q, vi k12, un, un, un, un, un, un] []))
      have hkb : bb = k12 := eqI rfl rfl (by omega)
      subst hkb
      clear hsk
      show Go p e below s Q 0 0 (T9.setTop (mkF m 27 #[vr q, vi bb, un, un, un, un, un, un] []))
      refine gA X9 hx hby rfl d19_27 rfl rfl ?_
      obtain ⟨T20, X20, e20, st20⟩ := getF X9 hx hZ hown (host := "") (Or.inl (tb hw 18 rfl)) Via.refl e9 hfg6_1 (g := (mkF m 28 #[vr q, vi bb, un, un, un, un, un, un] [(.ref q)])) rfl rfl (hb hby d19_28)
      refine Go.st st20 ?_
      refine gC X20 hx hby rfl d19_31 rfl ?_
      have r22 : 0 ≤ bb.toInt := by omega
      have r23 : bb.toInt < 65 := by omega
      have hb24 : bb.toInt.toNat < 65 := by omega
      refine Go.st (RA.ild X20 hx hZ e20 hfg6_6 (j := bb) r22 r23 (g := (mkF m 32 #[vr q, vi bb, un, un, un, un, un, un] [(.int bb), (.ref ks)])) rfl rfl (hb hby d19_32)) ?_
      show Go p e below s Q 0 0 (T20.setTop (mkF m 33 #[vr q, vi bb, un, un, un, un, un, un] [(.ref (kf bb.toInt.toNat))]))
      obtain ⟨rw21, hr21⟩ : ∃ z, z = kf bb.toInt.toNat := ⟨_, rfl⟩
      rw [← hr21]
      have Grw21 : n0 ≤ rw21 := by rw [hr21]; exact (GR bb.toInt.toNat hb24).1
      have h25 : Vec Z hg6 rw21 .long (4 : Int32) (longs (KF bb.toInt.toNat)) := by rw [hr21]; exact hfg6_9 bb.toInt.toNat hb24
      show Go p e below s Q 0 0 (T20.setTop (mkF m 33 #[vr q, vi bb, un, un, un, un, un, un] [(.ref rw21)]))
      refine Go.st (fun _ k => XS.astoreN X20.here hx rfl (hb hby d19_33) rfl rfl (l' := #[vr q, vi bb, vr rw21, un, un, un, un, un]) rfl k) ?_
      refine gA X20 hx hby rfl d19_34 rfl rfl ?_
      obtain ⟨T26, X26, e26, st26⟩ := getF X20 hx hZ hown (host := "") (Or.inl (tb hw 22 rfl)) Via.refl e20 hfg6_2 (g := (mkF m 35 #[vr q, vi bb, vr rw21, un, un, un, un, un] [(.ref q)])) rfl rfl (hb hby d19_35)
      refine Go.st st26 ?_
      refine gC X26 hx hby rfl d19_38 rfl ?_
      have r28 : 0 ≤ bb.toInt := by omega
      have r29 : bb.toInt < 65 := by omega
      have hb30 : bb.toInt.toNat < 65 := by omega
      refine Go.st (RA.ild X26 hx hZ e26 hfg6_7 (j := bb) r28 r29 (g := (mkF m 39 #[vr q, vi bb, vr rw21, un, un, un, un, un] [(.int bb), (.ref js)])) rfl rfl (hb hby d19_39)) ?_
      show Go p e below s Q 0 0 (T26.setTop (mkF m 40 #[vr q, vi bb, vr rw21, un, un, un, un, un] [(.ref (jf bb.toInt.toNat))]))
      obtain ⟨rw27, hr27⟩ : ∃ z, z = jf bb.toInt.toNat := ⟨_, rfl⟩
      rw [← hr27]
      have Grw27 : n0 ≤ rw27 := by rw [hr27]; exact (GR bb.toInt.toNat hb30).2
      have h31 : Vec Z hg6 rw27 .int (4 : Int32) (ints (JF bb.toInt.toNat)) := by rw [hr27]; exact hfg6_10 bb.toInt.toNat hb30
      show Go p e below s Q 0 0 (T26.setTop (mkF m 40 #[vr q, vi bb, vr rw21, un, un, un, un, un] [(.ref rw27)]))
      refine Go.st (fun _ k => XS.astoreN X26.here hx rfl (hb hby d19_40) rfl rfl (l' := #[vr q, vi bb, vr rw21, vr rw27, un, un, un, un]) rfl k) ?_
      refine gA X26 hx hby rfl d19_41 rfl rfl ?_
      obtain ⟨T32, X32, e32, st32⟩ := getF X26 hx hZ hown (host := "") (Or.inl (tb hw 25 rfl)) Via.refl e26 hfg6_3 (g := (mkF m 42 #[vr q, vi bb, vr rw21, vr rw27, un, un, un, un] [(.ref q)])) rfl rfl (hb hby d19_42)
      refine Go.st st32 ?_
      refine gC X32 hx hby rfl d19_45 rfl ?_
      have r34 : 0 ≤ bb.toInt := by omega
      have r35 : bb.toInt < (65 : Int32).toInt := by omega
      refine Go.st (Vec.ildI X32 hx hZ e32 hfg6_8 (j := bb) r34 r35 (g := (mkF m 46 #[vr q, vi bb, vr rw21, vr rw27, un, un, un, un] [(.int bb), (.ref ss)])) rfl rfl (hb hby d19_46)) ?_
      refine gS X32 hx hby rfl d19_47 rfl (l' := #[vr q, vi bb, vr rw21, vr rw27, vi (sz bb.toInt.toNat), un, un, un]) rfl ?_
      show Go p e below s Q 0 0 (T32.setTop (mkF m 49 #[vr q, vi bb, vr rw21, vr rw27, vi (sz bb.toInt.toNat), un, un, un] []))
      generalize hv_v36 : (sz bb.toInt.toNat) = v36 at f14 ⊢
      have cs37 : v36.toInt = 2 := by rw [← hv_v36]; exact hone
      ·
        have cs37' : v36 = (2 : Int32) := eqI cs37 liI_2 rfl
        subst cs37'
        have f38 := liI_2
        show Go p e below s Q 0 0 (T32.setTop (mkF m 49 #[vr q, vi bb, vr rw21, vr rw27, vi (2 : Int32), un, un, un] []))
        refine gA X32 hx hby rfl d19_49 rfl rfl ?_
        refine gI X32 hx hby rfl d19_50 ?_
        refine Go.st (Vec.ildJ X32 hx hZ e32 h25 (j := (0 : Int32)) (by decide) (by decide) (g := (mkF m 51 #[vr q, vi bb, vr rw21, vr rw27, vi (2 : Int32), un, un, un] [(.int (0 : Int32)), (.ref rw21)])) rfl rfl (hb hby d19_51)) ?_
        refine gU X32 hx hby rfl d19_52 rfl (l' := #[vr q, vi bb, vr rw21, vr rw27, vi (2 : Int32), vj ((KF bb.toInt.toNat) 0), sd, un]) rfl ?_
        show Go p e below s Q 0 0 (T32.setTop (mkF m 54 #[vr q, vi bb, vr rw21, vr rw27, vi (2 : Int32), vj ((KF bb.toInt.toNat) 0), sd, un] []))
        have f40 := rng64 ((KF bb.toInt.toNat) 0)
        generalize hv_v41 : ((KF bb.toInt.toNat) 0) = v41 at f40 ⊢
        refine gI X32 hx hby rfl d19_54 ?_
        refine gS X32 hx hby rfl d19_55 rfl (l' := #[vr q, vi bb, vr rw21, vr rw27, vi (2 : Int32), vj v41, sd, vi (1 : Int32)]) rfl ?_
        show Go p e below s Q 0 0 (T32.setTop (mkF m 57 #[vr q, vi bb, vr rw21, vr rw27, vi (2 : Int32), vj v41, sd, vi (1 : Int32)] []))
        have hk0 : ((KF bb.toInt.toNat) 0).toInt = v41.toInt := congrArg Int64.toInt hv_v41
        refine gD X32 hx hby rfl d19_57 rfl ?_
        refine gD X32 hx hby rfl d19_59 rfl ?_
        refine gM X32 hx hby rfl d19_61 rfl (tlt (ltI liI_1 liI_2 (by decide))).2.1 ?_
        refine gF X32 hx hby rfl d19_64 rfl ?_
        refine gA X32 hx hby rfl d19_66 rfl rfl ?_
        refine gD X32 hx hby rfl d19_67 rfl ?_
        show Go p e below s Q 0 0 (T32.setTop (mkF m 69 #[vr q, vi bb, vr rw21, vr rw27, vi (2 : Int32), vj v41, sd, vi (1 : Int32)] [(.int (1 : Int32)), (.ref rw21), (.long v41)]))
        refine Go.st (Vec.ildJ X32 hx hZ e32 h25 (j := (1 : Int32)) (by decide) (by decide) (g := (mkF m 69 #[vr q, vi bb, vr rw21, vr rw27, vi (2 : Int32), vj v41, sd, vi (1 : Int32)] [(.int (1 : Int32)), (.ref rw21), (.long v41)])) rfl rfl (hb hby d19_69)) ?_
        have f44 := rng64 ((KF bb.toInt.toNat) 1)
        obtain ⟨_, _, ⟨T43, L43, k43, n43⟩, -, X43, ⟨Lc43, hQ43, l43, y43, z43⟩, st43⟩ := Jvm.LawKit.callS X32 hx (y := (⟨"java/lang/Math", "min", "(JJ)J"⟩ : MethodName)) hown (mvT hZ (tb hw 138 rfl)) (mvT hZ (tb hw 139 rfl)) (mvT hZ (tb hw 140 rfl)) (mvT hZ (tb hw 141 rfl)) (by decide) (backOf (W := 0) (rm20 l Z a0 hw [] v41 ((KF bb.toInt.toNat) 1) hg6 n0 (Nat.le_trans Z0 Kg6.1) ) hZ (tb hw 141 rfl) (tb hw 140 rfl) (by decide) (by decide)) (g := (mkF m 70 #[vr q, vi bb, vr rw21, vr rw27, vi (2 : Int32), vj v41, sd, vi (1 : Int32)] [(.long ((KF bb.toInt.toNat) 1)), (.long v41)])) rfl (by rw [hml]; rfl) (argsL := [(.long v41), (.long ((KF bb.toInt.toNat) 1))]) (rest := []) (lenOf pd_4 rfl) rfl (by show 2 * 0 + _ ≤ _; exact Nat.le_of_eq rfl) (hb hby d19_70) (fun _ _ => ⟨rfl, e32, (by decide : 0 + 0 ≤ _), (by decide : 0 + 0 ≤ _)⟩)
        dsimp only [Pt.U, Pt.locs, Pt.cells, Pt.slots] at X43 l43 y43 z43 st43 hQ43
        subst y43 z43
        obtain ⟨rr_45, rfl, N43q, f46, e43⟩ := hQ43
        have N43 : Fr n0 L43 := by rw [l43]; exact Fr.app Ng6 N43q
        refine Go.st st43 ?_
        show Go p e below s Q 0 0 (T43.setTop (mkF m 73 #[vr q, vi bb, vr rw21, vr rw27, vi (2 : Int32), vj v41, sd, vi (1 : Int32)] [(.long rr_45)]))
        have f47 := rng64 rr_45
        refine gU X43 hx hby rfl d19_73 rfl (l' := #[vr q, vi bb, vr rw21, vr rw27, vi (2 : Int32), vj rr_45, sd, vi (1 : Int32)]) rfl ?_
        refine gInc X43 hx hby rfl d19_75 rfl (l' := #[vr q, vi bb, vr rw21, vr rw27, vi (2 : Int32), vj rr_45, sd, vi (2 : Int32)]) rfl ?_
        refine gG X43 hx hby rfl (pc0 := 78) (pc' := 57) rfl d19_78 (by decide) (by decide) ?_
        show Go p e below s Q 0 0 (T43.setTop (mkF m 57 #[vr q, vi bb, vr rw21, vr rw27, vi (2 : Int32), vj rr_45, sd, vi (2 : Int32)] []))
        refine gD X43 hx hby rfl d19_57 rfl ?_
        refine gD X43 hx hby rfl d19_59 rfl ?_
        refine gZ X43 hx hby rfl (pc0 := 61) (pc' := 81) rfl d19_61 rfl (flt (nltI liI_2 liI_2 (by decide))).2.1 (by decide) (by decide) ?_
        show Go p e below s Q 0 0 (T43.setTop (mkF m 81 #[vr q, vi bb, vr rw21, vr rw27, vi (2 : Int32), vj rr_45, sd, vi (2 : Int32)] []))
        have hmn : rr_45.toInt = ((KF bb.toInt.toNat) 0).toInt := by omega
        clear f46
        refine gA X43 hx hby rfl d19_81 rfl rfl ?_
        refine gF X43 hx hby rfl d19_82 rfl ?_
        obtain ⟨T48, h48, X48, e48, W48, st48⟩ := putF X43 hx hZ hown (host := "") (Or.inl (tb hw 28 rfl)) Via.refl e43 hfg6_5 hfg6_0 (Or.inl (tb hw 29 rfl)) (tb hw 10 rfl) (ty := .long) (by decide) rfl rfl (g := (mkF m 84 #[vr q, vi bb, vr rw21, vr rw27, vi (2 : Int32), vj rr_45, sd, vi (2 : Int32)] [(.long rr_45), (.ref q)])) rfl rfl (hb hby d19_84)
        have h49 : Exa Z h48 q cR := hfg6_0.wr W48
        have h50 : Fld Z h48 q cR "keys" "[[J" (.ref ks) := hfg6_1.other W48 (Or.inr (ndq (sl_0 hw) 0 3 rfl))
        have h51 : Fld Z h48 q cR "ids" "[[I" (.ref js) := hfg6_2.other W48 (Or.inr (ndq (sl_0 hw) 1 3 rfl))
        have h52 : Fld Z h48 q cR "sizes" "[I" (.ref ss) := hfg6_3.other W48 (Or.inr (ndq (sl_0 hw) 2 3 rfl))
        have h53 : Fld Z h48 q cR "size" "I" (.int sn) := hfg6_4.other W48 (Or.inr (ndq (sl_0 hw) 4 3 rfl))
        have h54 : Fld Z h48 q cR "last" "J" (.long rr_45) := hfg6_5.same W48
        have h55 : RA Z h48 ks .long kf := hfg6_6.other W48 n_ks_q
        have h56 : RA Z h48 js .int jf := hfg6_7.other W48 n_js_q
        have h57 : Vec Z h48 ss .int (65 : Int32) (ints sz) := hfg6_8.other W48 (Ne.symm n_q_ss)
        have h58 : RwJ Z h48 kf KF := RwJ.other W48 hfg6_9 (fun b hb => (N_q b hb).1)
        have h59 : RwI Z h48 jf JF := RwI.other W48 hfg6_10 (fun b hb => (N_q b hb).2)
        have h60 : Vec Z h48 rw21 .long (4 : Int32) (longs (KF bb.toInt.toNat)) := h25.other W48 (Ne.symm (nr_k N_q hb24 hr21))
        have h61 : Vec Z h48 rw27 .int (4 : Int32) (ints (JF bb.toInt.toNat)) := h31.other W48 (Ne.symm (nr_j N_q hb30 hr27))
        have K48 : Keep h0 h48 ([q, ss] ++ rowsOf kf jf) := Kg6.wr W48 (Or.inl (List.mem_append_left _ (List.mem_of_getElem? (i := 0) rfl)))
        have N48 := Fr.snoc X48 N43 G_q
        refine Go.st st48 ?_
        show Go p e below s Q 0 0 (T48.setTop (mkF m 87 #[vr q, vi bb, vr rw21, vr rw27, vi (2 : Int32), vj rr_45, sd, vi (2 : Int32)] []))
        refine gA X48 hx hby rfl d19_87 rfl rfl ?_
        obtain ⟨T62, X62, e62, st62⟩ := getF X48 hx hZ hown (host := "") (Or.inl (tb hw 25 rfl)) Via.refl e48 h52 (g := (mkF m 88 #[vr q, vi bb, vr rw21, vr rw27, vi (2 : Int32), vj rr_45, sd, vi (2 : Int32)] [(.ref q)])) rfl rfl (hb hby d19_88)
        refine Go.st st62 ?_
        refine gC X62 hx hby rfl d19_91 rfl ?_
        refine gI X62 hx hby rfl d19_92 ?_
        have r64 : 0 ≤ bb.toInt := by omega
        have r65 : bb.toInt < (65 : Int32).toInt := by omega
        obtain ⟨T63, h63, X63, e63, W63, V63, st63⟩ := Vec.istI X62 hx hZ e62 h57 (j := bb) r64 r65 (g := (mkF m 93 #[vr q, vi bb, vr rw21, vr rw27, vi (2 : Int32), vj rr_45, sd, vi (2 : Int32)] [(.int (0 : Int32)), (.int bb), (.ref ss)])) rfl rfl (hb hby d19_93)
        have h66 : Exa Z h63 q cR := h49.wr W63
        have h67 : Fld Z h63 q cR "keys" "[[J" (.ref ks) := h50.other W63 (Or.inl n_q_ss)
        have h68 : Fld Z h63 q cR "ids" "[[I" (.ref js) := h51.other W63 (Or.inl n_q_ss)
        have h69 : Fld Z h63 q cR "sizes" "[I" (.ref ss) := h52.other W63 (Or.inl n_q_ss)
        have h70 : Fld Z h63 q cR "size" "I" (.int sn) := h53.other W63 (Or.inl n_q_ss)
        have h71 : Fld Z h63 q cR "last" "J" (.long rr_45) := h54.other W63 (Or.inl n_q_ss)
        have h72 : RA Z h63 ks .long kf := h55.other W63 n_ks_ss
        have h73 : RA Z h63 js .int jf := h56.other W63 n_js_ss
        have h74 : Vec Z h63 ss .int (65 : Int32) (ints (updF sz bb.toInt.toNat (0 : Int32))) := V63
        have h75 : RwJ Z h63 kf KF := RwJ.other W63 h58 (fun b hb => (N_ss b hb).1)
        have h76 : RwI Z h63 jf JF := RwI.other W63 h59 (fun b hb => (N_ss b hb).2)
        have h77 : Vec Z h63 rw21 .long (4 : Int32) (longs (KF bb.toInt.toNat)) := h60.other W63 (Ne.symm (nr_k N_ss hb24 hr21))
        have h78 : Vec Z h63 rw27 .int (4 : Int32) (ints (JF bb.toInt.toNat)) := h61.other W63 (Ne.symm (nr_j N_ss hb30 hr27))
        have K63 : Keep h0 h63 ([q, ss] ++ rowsOf kf jf) := K48.wr W63 (Or.inl (List.mem_append_left _ (List.mem_of_getElem? (i := 1) rfl)))
        have N63 := Fr.snoc X63 N48 G_s
        refine Go.st st63 ?_
        show Go p e below s Q 0 0 (T63.setTop (mkF m 94 #[vr q, vi bb, vr rw21, vr rw27, vi (2 : Int32), vj rr_45, sd, vi (2 : Int32)] []))
        refine gI X63 hx hby rfl d19_94 ?_
        refine gS X63 hx hby rfl d19_95 rfl (l' := #[vr q, vi bb, vr rw21, vr rw27, vi (2 : Int32), vj rr_45, sd, vi (0 : Int32)]) rfl ?_
        refine gD X63 hx hby rfl d19_97 rfl ?_
        refine gD X63 hx hby rfl d19_99 rfl ?_
        refine gM X63 hx hby rfl d19_101 rfl (tlt (ltI liI_0 liI_2 (by decide))).2.1 ?_
        show Go p e below s Q 0 0 (T63.setTop (mkF m 104 #[vr q, vi bb, vr rw21, vr rw27, vi (2 : Int32), vj rr_45, sd, vi (0 : Int32)] []))
        refine gA X63 hx hby rfl d19_104 rfl rfl ?_
        refine gA X63 hx hby rfl d19_105 rfl rfl ?_
        refine gA X63 hx hby rfl d19_106 rfl rfl ?_
        refine gD X63 hx hby rfl d19_107 rfl ?_
        refine Go.st (Vec.ildJ X63 hx hZ e63 h77 (j := (0 : Int32)) (by decide) (by decide) (g := (mkF m 109 #[vr q, vi bb, vr rw21, vr rw27, vi (2 : Int32), vj rr_45, sd, vi (0 : Int32)] [(.int (0 : Int32)), (.ref rw21), (.ref q), (.ref q)])) rfl rfl (hb hby d19_109)) ?_
        have f81 := rng64 ((KF bb.toInt.toNat) 0)
        obtain ⟨cq80, q80, q80'⟩ := h66.cell
        have pv80 := Cond.privateMethod_at (mvP hZ (tb hw 105 rfl) (args := #[]))
        obtain ⟨_, _, ⟨T80, L80, k80, n80⟩, -, X80, ⟨Lc80, hQ80, l80, y80, z80⟩, st80⟩ := X63.privateBack hx (y := (⟨cR, "bucketOf", "(J)I"⟩ : MethodName)) hown (mvT hZ (tb hw 103 rfl)) (mvT hZ (tb hw 104 rfl)) (self_sel (mvT hZ (args := #[]) (tb hw 64 rfl)) rfl pv80 (mvT hZ (tb hw 104 rfl)) (by decide)) pv80 (mvT hZ (tb hw 106 rfl)) (by decide) (backOf (W := 1) (rm12 l Z a0 hw [] q ((KF bb.toInt.toNat) 0) rr_45 h63 n0 (Nat.le_trans Z0 K63.1) h66 h71) hZ (tb hw 106 rfl) (tb hw 11 rfl) (by decide) (by decide)) (g := (mkF m 110 #[vr q, vi bb, vr rw21, vr rw27, vi (2 : Int32), vj rr_45, sd, vi (0 : Int32)] [(.long ((KF bb.toInt.toNat) 0)), (.ref q), (.ref q)])) rfl (by rw [hml]; rfl) (Steps.refl _) (a := q) (by rw [e63]; exact q80) q80' (argsL := [(.long ((KF bb.toInt.toNat) 0))]) (rest := [(.ref q)]) (lenOf pd_1 rfl) rfl (by show 2 * 0 + _ ≤ _; exact Nat.le_of_eq rfl) (hb hby d19_110) (fun _ _ => ⟨rfl, e63, (by decide : 0 + 0 ≤ _), (by decide : 0 + 0 ≤ _)⟩)
        dsimp only [Pt.U, Pt.locs, Pt.cells, Pt.slots] at X80 l80 y80 z80 st80 hQ80
        subst y80 z80
        obtain ⟨rr_82, rfl, N80q, f83, f84, f85, e80⟩ := hQ80
        have N80 : Fr n0 L80 := by rw [l80]; exact Fr.app N63 N80q
        refine Go.tr  st80 ?_
        show Go p e below s Q 0 0 (T80.setTop (mkF m 113 #[vr q, vi bb, vr rw21, vr rw27, vi (2 : Int32), vj rr_45, sd, vi (0 : Int32)] [(.int rr_82), (.ref q)]))
        have f86 := rng32 rr_82
        have cs87 : rr_82.toInt = 0 := by omega
        ·
          have cs87' : rr_82 = (0 : Int32) := eqI cs87 liI_0 rfl
          subst cs87'
          show Go p e below s Q 0 0 (T80.setTop (mkF m 113 #[vr q, vi bb, vr rw21, vr rw27, vi (2 : Int32), vj rr_45, sd, vi (0 : Int32)] [(.int (0 : Int32)), (.ref q)]))
          clear f83 f84 f85
          refine gA X80 hx hby rfl d19_113 rfl rfl ?_
          refine gD X80 hx hby rfl d19_114 rfl ?_
          refine Go.st (Vec.ildJ X80 hx hZ e80 h77 (j := (0 : Int32)) (by decide) (by decide) (g := (mkF m 116 #[vr q, vi bb, vr rw21, vr rw27, vi (2 : Int32), vj rr_45, sd, vi (0 : Int32)] [(.int (0 : Int32)), (.ref rw21), (.int (0 : Int32)), (.ref q)])) rfl rfl (hb hby d19_116)) ?_
          refine gA X80 hx hby rfl d19_117 rfl rfl ?_
          refine gD X80 hx hby rfl d19_118 rfl ?_
          refine Go.st (Vec.ildI X80 hx hZ e80 h78 (j := (0 : Int32)) (by decide) (by decide) (g := (mkF m 120 #[vr q, vi bb, vr rw21, vr rw27, vi (2 : Int32), vj rr_45, sd, vi (0 : Int32)] [(.int (0 : Int32)), (.ref rw27), (.long ((KF bb.toInt.toNat) 0)), (.int (0 : Int32)), (.ref q)])) rfl rfl (hb hby d19_120)) ?_
          show Go p e below s Q 0 0 (T80.setTop (mkF m 121 #[vr q, vi bb, vr rw21, vr rw27, vi (2 : Int32), vj rr_45, sd, vi (0 : Int32)] [(.int ((JF bb.toInt.toNat) 0)), (.long ((KF bb.toInt.toNat) 0)), (.int (0 : Int32)), (.ref q)]))
          have f91 := rng32 sn
          have f92 := rng32 ((JF bb.toInt.toNat) 0)
          have p93 : 0 ≤ (0 : Int32).toInt ∧ (0 : Int32).toInt < 65 := by omega
          obtain ⟨cq90, q90, q90'⟩ := h66.cell
          have pv90 := Cond.privateMethod_at (mvP hZ (tb hw 117 rfl) (args := #[]))
          obtain ⟨_, _, ⟨T90, L90, k90, n90⟩, -, X90, ⟨Lc90, hQ90, l90, y90, z90⟩, st90⟩ := X80.privateBack hx (y := (⟨cR, "add", "(IJI)V"⟩ : MethodName)) hown (mvT hZ (tb hw 115 rfl)) (mvT hZ (tb hw 116 rfl)) (self_sel (mvT hZ (args := #[]) (tb hw 64 rfl)) rfl pv90 (mvT hZ (tb hw 116 rfl)) (by decide)) pv90 (mvT hZ (tb hw 118 rfl)) (by decide) (backOf (W := 0) (rm15 l Z a0 hw [] q (0 : Int32) ((KF bb.toInt.toNat) 0) ((JF bb.toInt.toNat) 0) ks js ss kf jf (updF sz bb.toInt.toNat (0 : Int32)) KF JF sn rr_45 h63 n0 (Nat.le_trans Z0 K63.1) h66 h67 h68 h69 h70 h71 h72 h73 h74 h75 h76 Ik Ij GR G_q G_s N_q N_ks N_js N_ss n_q_ss n_ks_ss n_js_ss n_ks_q n_js_q p93 (ct_u hrest (x := 0) (by first | decide | omega))) hZ (tb hw 118 rfl) (tb hw 11 rfl) (by decide) (by decide)) (g := (mkF m 121 #[vr q, vi bb, vr rw21, vr rw27, vi (2 : Int32), vj rr_45, sd, vi (0 : Int32)] [(.int ((JF bb.toInt.toNat) 0)), (.long ((KF bb.toInt.toNat) 0)), (.int (0 : Int32)), (.ref q)])) rfl (by rw [hml]; rfl) (Steps.refl _) (a := q) (by rw [e80]; exact q90) q90' (argsL := [(.int (0 : Int32)), (.long ((KF bb.toInt.toNat) 0)), (.int ((JF bb.toInt.toNat) 0))]) (rest := []) (lenOf pd_3 rfl) rfl (by show 2 * 0 + _ ≤ _; exact Nat.le_of_eq rfl) (hb hby d19_121) (fun _ _ => ⟨rfl, e80, (by decide : 0 + 0 ≤ _), (by decide : 0 + 0 ≤ _)⟩)
          dsimp only [Pt.U, Pt.locs, Pt.cells, Pt.slots] at X90 l90 y90 z90 st90 hQ90
          subst y90 z90
          obtain ⟨rfl, N90q, K90q, h94, h95, h96, h97, h98, h99, h100, h101, h102, h103, h104⟩ := hQ90
          have N90 : Fr n0 L90 := by rw [l90]; exact Fr.app N80 N90q
          have K90 : Keep h0 T90.heap ([q, ss] ++ rowsOf kf jf) := K63.trans K90q (fun x hx => (fun x hx => (List.mem_append.mp hx).elim ((show ∀ x ∈ ([ss] : List Addr), x ∈ (([q, ss] ++ rowsOf kf jf) : List Addr) ∨ h0.size ≤ x from (allS (Or.inl (List.mem_append_left _ (List.mem_of_getElem? (i := 1) rfl))) all0)) x) (fun q => Or.inl (List.mem_append_right _ q))) x hx)
          refine Go.tr  st90 ?_
          show Go p e below s Q 0 0 (T90.setTop (mkF m 124 #[vr q, vi bb, vr rw21, vr rw27, vi (2 : Int32), vj rr_45, sd, vi (0 : Int32)] []))
          refine gInc X90 hx hby rfl d19_124 rfl (l' := #[vr q, vi bb, vr rw21, vr rw27, vi (2 : Int32), vj rr_45, sd, vi (1 : Int32)]) rfl ?_
          refine gG X90 hx hby rfl (pc0 := 127) (pc' := 97) rfl d19_127 (by decide) (by decide) ?_
          refine gD X90 hx hby rfl d19_97 rfl ?_
          refine gD X90 hx hby rfl d19_99 rfl ?_
          refine gM X90 hx hby rfl d19_101 rfl (tlt (ltI liI_1 liI_2 (by decide))).2.1 ?_
          show Go p e below s Q 0 0 (T90.setTop (mkF m 104 #[vr q, vi bb, vr rw21, vr rw27, vi (2 : Int32), vj rr_45, sd, vi (1 : Int32)] []))
          have h105 : Vec Z T90.heap rw21 .long (4 : Int32) (longs (KF bb.toInt.toNat)) := by have q := h103 bb.toInt.toNat hb24; rw [upd_ne _ _ (by first | omega | (show bb.toInt.toNat ≠ 0; omega))] at q; rw [hr21]; exact q
          have h106 : Vec Z T90.heap rw27 .int (4 : Int32) (ints (JF bb.toInt.toNat)) := by have q := h104 bb.toInt.toNat hb30; rw [upd_ne _ _ (by first | omega | (show bb.toInt.toNat ≠ 0; omega))] at q; rw [hr27]; exact q
          refine gA X90 hx hby rfl d19_104 rfl rfl ?_
          refine gA X90 hx hby rfl d19_105 rfl rfl ?_
          refine gA X90 hx hby rfl d19_106 rfl rfl ?_
          refine gD X90 hx hby rfl d19_107 rfl ?_
          refine Go.st (Vec.ildJ X90 hx hZ rfl h105 (j := (1 : Int32)) (by decide) (by decide) (g := (mkF m 109 #[vr q, vi bb, vr rw21, vr rw27, vi (2 : Int32), vj rr_45, sd, vi (1 : Int32)] [(.int (1 : Int32)), (.ref rw21), (.ref q), (.ref q)])) rfl rfl (hb hby d19_109)) ?_
          obtain ⟨cq108, q108, q108'⟩ := h94.cell
          have pv108 := Cond.privateMethod_at (mvP hZ (tb hw 105 rfl) (args := #[]))
          obtain ⟨_, _, ⟨T108, L108, k108, n108⟩, -, X108, ⟨Lc108, hQ108, l108, y108, z108⟩, st108⟩ := X90.privateBack hx (y := (⟨cR, "bucketOf", "(J)I"⟩ : MethodName)) hown (mvT hZ (tb hw 103 rfl)) (mvT hZ (tb hw 104 rfl)) (self_sel (mvT hZ (args := #[]) (tb hw 64 rfl)) rfl pv108 (mvT hZ (tb hw 104 rfl)) (by decide)) pv108 (mvT hZ (tb hw 106 rfl)) (by decide) (backOf (W := 1) (rm12 l Z a0 hw [] q ((KF bb.toInt.toNat) 1) rr_45 T90.heap n0 (Nat.le_trans Z0 K90.1) h94 h99) hZ (tb hw 106 rfl) (tb hw 11 rfl) (by decide) (by decide)) (g := (mkF m 110 #[vr q, vi bb, vr rw21, vr rw27, vi (2 : Int32), vj rr_45, sd, vi (1 : Int32)] [(.long ((KF bb.toInt.toNat) 1)), (.ref q), (.ref q)])) rfl (by rw [hml]; rfl) (Steps.refl _) (a := q) q108 q108' (argsL := [(.long ((KF bb.toInt.toNat) 1))]) (rest := [(.ref q)]) (lenOf pd_1 rfl) rfl (by show 2 * 0 + _ ≤ _; exact Nat.le_of_eq rfl) (hb hby d19_110) (fun _ _ => ⟨rfl, rfl, (by decide : 0 + 0 ≤ _), (by decide : 0 + 0 ≤ _)⟩)
          dsimp only [Pt.U, Pt.locs, Pt.cells, Pt.slots] at X108 l108 y108 z108 st108 hQ108
          subst y108 z108
          obtain ⟨rr_109, rfl, N108q, f110, f111, f112, e108⟩ := hQ108
          have N108 : Fr n0 L108 := by rw [l108]; exact Fr.app N90 N108q
          refine Go.tr  st108 ?_
          show Go p e below s Q 0 0 (T108.setTop (mkF m 113 #[vr q, vi bb, vr rw21, vr rw27, vi (2 : Int32), vj rr_45, sd, vi (1 : Int32)] [(.int rr_109), (.ref q)]))
          have f113 := rng32 rr_109
          have cs114 : rr_109.toInt = 0 := by omega
          ·
            have cs114' : rr_109 = (0 : Int32) := eqI cs114 liI_0 rfl
            subst cs114'
            show Go p e below s Q 0 0 (T108.setTop (mkF m 113 #[vr q, vi bb, vr rw21, vr rw27, vi (2 : Int32), vj rr_45, sd, vi (1 : Int32)] [(.int (0 : Int32)), (.ref q)]))
            clear f110 f111 f112
            refine gA X108 hx hby rfl d19_113 rfl rfl ?_
            refine gD X108 hx hby rfl d19_114 rfl ?_
            refine Go.st (Vec.ildJ X108 hx hZ e108 h105 (j := (1 : Int32)) (by decide) (by decide) (g := (mkF m 116 #[vr q, vi bb, vr rw21, vr rw27, vi (2 : Int32), vj rr_45, sd, vi (1 : Int32)] [(.int (1 : Int32)), (.ref rw21), (.int (0 : Int32)), (.ref q)])) rfl rfl (hb hby d19_116)) ?_
            refine gA X108 hx hby rfl d19_117 rfl rfl ?_
            refine gD X108 hx hby rfl d19_118 rfl ?_
            refine Go.st (Vec.ildI X108 hx hZ e108 h106 (j := (1 : Int32)) (by decide) (by decide) (g := (mkF m 120 #[vr q, vi bb, vr rw21, vr rw27, vi (2 : Int32), vj rr_45, sd, vi (1 : Int32)] [(.int (1 : Int32)), (.ref rw27), (.long ((KF bb.toInt.toNat) 1)), (.int (0 : Int32)), (.ref q)])) rfl rfl (hb hby d19_120)) ?_
            show Go p e below s Q 0 0 (T108.setTop (mkF m 121 #[vr q, vi bb, vr rw21, vr rw27, vi (2 : Int32), vj rr_45, sd, vi (1 : Int32)] [(.int ((JF bb.toInt.toNat) 1)), (.long ((KF bb.toInt.toNat) 1)), (.int (0 : Int32)), (.ref q)]))
            have f118 := rng32 ((JF bb.toInt.toNat) 1)
            have p119 : 0 ≤ (0 : Int32).toInt ∧ (0 : Int32).toInt < 65 := by omega
            obtain ⟨cq117, q117, q117'⟩ := h94.cell
            have pv117 := Cond.privateMethod_at (mvP hZ (tb hw 117 rfl) (args := #[]))
            obtain ⟨_, _, ⟨T117, L117, k117, n117⟩, -, X117, ⟨Lc117, hQ117, l117, y117, z117⟩, st117⟩ := X108.privateBack hx (y := (⟨cR, "add", "(IJI)V"⟩ : MethodName)) hown (mvT hZ (tb hw 115 rfl)) (mvT hZ (tb hw 116 rfl)) (self_sel (mvT hZ (args := #[]) (tb hw 64 rfl)) rfl pv117 (mvT hZ (tb hw 116 rfl)) (by decide)) pv117 (mvT hZ (tb hw 118 rfl)) (by decide) (backOf (W := 0) (rm15 l Z a0 hw [] q (0 : Int32) ((KF bb.toInt.toNat) 1) ((JF bb.toInt.toNat) 1) ks js ss kf jf (updF (updF sz bb.toInt.toNat (0 : Int32)) (0 : Int32).toInt.toNat (((updF sz bb.toInt.toNat (0 : Int32)) (0 : Int32).toInt.toNat) + (1 : Int32))) (updF KF (0 : Int32).toInt.toNat (updF (KF (0 : Int32).toInt.toNat) ((updF sz bb.toInt.toNat (0 : Int32)) (0 : Int32).toInt.toNat).toInt.toNat ((KF bb.toInt.toNat) 0))) (updF JF (0 : Int32).toInt.toNat (updF (JF (0 : Int32).toInt.toNat) ((updF sz bb.toInt.toNat (0 : Int32)) (0 : Int32).toInt.toNat).toInt.toNat ((JF bb.toInt.toNat) 0))) sn rr_45 T90.heap n0 (Nat.le_trans Z0 K90.1) h94 h95 h96 h97 h98 h99 h100 h101 h102 h103 h104 Ik Ij GR G_q G_s N_q N_ks N_js N_ss n_q_ss n_ks_ss n_js_ss n_ks_q n_js_q p119 (ct_o hrest (x := 0) (y := 0) (by first | decide | omega) (by first | decide | omega))) hZ (tb hw 118 rfl) (tb hw 11 rfl) (by decide) (by decide)) (g := (mkF m 121 #[vr q, vi bb, vr rw21, vr rw27, vi (2 : Int32), vj rr_45, sd, vi (1 : Int32)] [(.int ((JF bb.toInt.toNat) 1)), (.long ((KF bb.toInt.toNat) 1)), (.int (0 : Int32)), (.ref q)])) rfl (by rw [hml]; rfl) (Steps.refl _) (a := q) (by rw [e108]; exact q117) q117' (argsL := [(.int (0 : Int32)), (.long ((KF bb.toInt.toNat) 1)), (.int ((JF bb.toInt.toNat) 1))]) (rest := []) (lenOf pd_3 rfl) rfl (by show 2 * 0 + _ ≤ _; exact Nat.le_of_eq rfl) (hb hby d19_121) (fun _ _ => ⟨rfl, e108, (by decide : 0 + 0 ≤ _), (by decide : 0 + 0 ≤ _)⟩)
            dsimp only [Pt.U, Pt.locs, Pt.cells, Pt.slots] at X117 l117 y117 z117 st117 hQ117
            subst y117 z117
            obtain ⟨rfl, N117q, K117q, h120, h121, h122, h123, h124, h125, h126, h127, h128, h129, h130⟩ := hQ117
            have N117 : Fr n0 L117 := by rw [l117]; exact Fr.app N108 N117q
            have K117 : Keep h0 T117.heap ([q, ss] ++ rowsOf kf jf) := K90.trans K117q (fun x hx => (fun x hx => (List.mem_append.mp hx).elim ((show ∀ x ∈ ([ss] : List Addr), x ∈ (([q, ss] ++ rowsOf kf jf) : List Addr) ∨ h0.size ≤ x from (allS (Or.inl (List.mem_append_left _ (List.mem_of_getElem? (i := 1) rfl))) all0)) x) (fun q => Or.inl (List.mem_append_right _ q))) x hx)
            refine Go.tr  st117 ?_
            show Go p e below s Q 0 0 (T117.setTop (mkF m 124 #[vr q, vi bb, vr rw21, vr rw27, vi (2 : Int32), vj rr_45, sd, vi (1 : Int32)] []))
            refine gInc X117 hx hby rfl d19_124 rfl (l' := #[vr q, vi bb, vr rw21, vr rw27, vi (2 : Int32), vj rr_45, sd, vi (2 : Int32)]) rfl ?_
            refine gG X117 hx hby rfl (pc0 := 127) (pc' := 97) rfl d19_127 (by decide) (by decide) ?_
            refine gD X117 hx hby rfl d19_97 rfl ?_
            refine gD X117 hx hby rfl d19_99 rfl ?_
            refine gZ X117 hx hby rfl (pc0 := 101) (pc' := 130) rfl d19_101 rfl (flt (nltI liI_2 liI_2 (by decide))).2.1 (by decide) (by decide) ?_
            show Go p e below s Q 0 0 (T117.setTop (mkF m 130 #[vr q, vi bb, vr rw21, vr rw27, vi (2 : Int32), vj rr_45, sd, vi (2 : Int32)] []))
            exact Go.retV X117 hx hlk Bd.returns (hb hby d19_130) (by rw [← hQ]; exact ⟨(updF (updF (updF sz bb.toInt.toNat (0 : Int32)) (0 : Int32).toInt.toNat (((updF sz bb.toInt.toNat (0 : Int32)) (0 : Int32).toInt.toNat) + (1 : Int32))) (0 : Int32).toInt.toNat (((updF (updF sz bb.toInt.toNat (0 : Int32)) (0 : Int32).toInt.toNat (((updF sz bb.toInt.toNat (0 : Int32)) (0 : Int32).toInt.toNat) + (1 : Int32))) (0 : Int32).toInt.toNat) + (1 : Int32))), (updF (updF KF (0 : Int32).toInt.toNat (updF (KF (0 : Int32).toInt.toNat) ((updF sz bb.toInt.toNat (0 : Int32)) (0 : Int32).toInt.toNat).toInt.toNat ((KF bb.toInt.toNat) 0))) (0 : Int32).toInt.toNat (updF ((updF KF (0 : Int32).toInt.toNat (updF (KF (0 : Int32).toInt.toNat) ((updF sz bb.toInt.toNat (0 : Int32)) (0 : Int32).toInt.toNat).toInt.toNat ((KF bb.toInt.toNat) 0))) (0 : Int32).toInt.toNat) ((updF (updF sz bb.toInt.toNat (0 : Int32)) (0 : Int32).toInt.toNat (((updF sz bb.toInt.toNat (0 : Int32)) (0 : Int32).toInt.toNat) + (1 : Int32))) (0 : Int32).toInt.toNat).toInt.toNat ((KF bb.toInt.toNat) 1))), (updF (updF JF (0 : Int32).toInt.toNat (updF (JF (0 : Int32).toInt.toNat) ((updF sz bb.toInt.toNat (0 : Int32)) (0 : Int32).toInt.toNat).toInt.toNat ((JF bb.toInt.toNat) 0))) (0 : Int32).toInt.toNat (updF ((updF JF (0 : Int32).toInt.toNat (updF (JF (0 : Int32).toInt.toNat) ((updF sz bb.toInt.toNat (0 : Int32)) (0 : Int32).toInt.toNat).toInt.toNat ((JF bb.toInt.toNat) 0))) (0 : Int32).toInt.toNat) ((updF (updF sz bb.toInt.toNat (0 : Int32)) (0 : Int32).toInt.toNat (((updF sz bb.toInt.toNat (0 : Int32)) (0 : Int32).toInt.toNat) + (1 : Int32))) (0 : Int32).toInt.toNat).toInt.toNat ((JF bb.toInt.toNat) 1))), rr_45, rfl, N117, (by exact two_s hrest), (by exact two_o hrest), (by exact two_k hrest), (by exact two_k hrest), (by exact hmn), K117, h120, h121, h122, h123, h124, h125, h126, h127, h128, h129, h130⟩) (by decide) (by decide)
  have f131 := liI_1
  exact lp7 _ T1 h0 _ (up X1 (by decide) (by decide)) e1 N0 K0 (1 : Int32) E_q F_k F_i F_s F_n F_l A_k A_j V_s W_k W_j (by omega) rfl
theorem ef_rmf2l (m : MethodId) (q : Addr) : entryFrame m #[(.ref q)] 8 = mkF m 0 #[vr q, un, un, un, un, un, un, un] [] := by first | (simp [entryFrame, mkF, argsToLocals, Value.category]; done) | rfl
def Qf2l (Z : State) (q ks js ss : Addr) (kf jf : Nat → Addr) (sz : Nat → Int32) (KF : Nat → Nat → Int64) (JF : Nat → Nat → Int32) (sn : Int32) (la : Int64) (bb : Int32) (h0 : Heap) (n0 : Nat) (vv : Option Value) (h : Heap) (LL : List Loc) : Prop := ∃ (s2 : Nat → Int32) (K2 : Nat → Nat → Int64) (J2 : Nat → Nat → Int32) (l2 : Int64) (cb : Int32), vv = none ∧ Fr n0 LL ∧ (1 ≤ cb.toInt ∧ cb.toInt ≤ 63) ∧ (∀ b : Nat, b < 65 → (s2 b).toInt = if b = 0 ∨ b = cb.toInt.toNat then 1 else 0) ∧ (K2 0 0 = KF bb.toInt.toNat 0 ∧ K2 cb.toInt.toNat 0 = KF bb.toInt.toNat 1) ∧ (J2 0 0 = JF bb.toInt.toNat 0 ∧ J2 cb.toInt.toNat 0 = JF bb.toInt.toNat 1) ∧ (l2.toInt = (KF bb.toInt.toNat 0).toInt) ∧ Keep h0 h ([q, ss] ++ rowsOf kf jf) ∧ (Exa Z h q cR) ∧ (Fld Z h q cR "keys" "[[J" (.ref ks)) ∧ (Fld Z h q cR "ids" "[[I" (.ref js)) ∧ (Fld Z h q cR "sizes" "[I" (.ref ss)) ∧ (Fld Z h q cR "size" "I" (.int sn)) ∧ (Fld Z h q cR "last" "J" (.long l2)) ∧ (RA Z h ks .long kf) ∧ (RA Z h js .int jf) ∧ (Vec Z h ss .int (65 : Int32) (ints s2)) ∧ (RwJ Z h kf K2) ∧ (RwI Z h jf J2)
set_option maxRecDepth 65536 in
set_option maxHeartbeats 40000000 in
theorem rmf2l (l : Launch) (Z : State) (a0 : Array Value) (hw : ∀ d ∈ tables_1, d.before a0 Z = true) (ws : List Jvm.Cond) (q ks js ss : Addr) (kf jf : Nat → Addr) (sz : Nat → Int32) (KF : Nat → Nat → Int64) (JF : Nat → Nat → Int32) (sn : Int32) (la : Int64) (bb : Int32) (h0 : Heap) (n0 : Nat) (Z0 : n0 ≤ h0.size) (E_q : Exa Z h0 q cR) (F_k : Fld Z h0 q cR "keys" "[[J" (.ref ks)) (F_i : Fld Z h0 q cR "ids" "[[I" (.ref js)) (F_s : Fld Z h0 q cR "sizes" "[I" (.ref ss)) (F_n : Fld Z h0 q cR "size" "I" (.int sn)) (F_l : Fld Z h0 q cR "last" "J" (.long la)) (A_k : RA Z h0 ks .long kf) (A_j : RA Z h0 js .int jf) (V_s : Vec Z h0 ss .int (65 : Int32) (ints sz)) (W_k : RwJ Z h0 kf KF) (W_j : RwI Z h0 jf JF) (Ik : Inj kf) (Ij : Inj jf) (GR : ∀ b : Nat, b < 65 → n0 ≤ kf b ∧ n0 ≤ jf b) (G_q : n0 ≤ q) (G_s : n0 ≤ ss) (N_q : NR kf jf q) (N_ks : NR kf jf ks) (N_js : NR kf jf js) (N_ss : NR kf jf ss) (n_q_ss : q ≠ ss) (n_ks_ss : ks ≠ ss) (n_js_ss : js ≠ ss) (n_ks_q : ks ≠ q) (n_js_q : js ≠ q) (hbb : 1 ≤ bb.toInt ∧ bb.toInt ≤ 64 ∧ 64 ≤ bb.toInt) (hone : (sz bb.toInt.toNat).toInt = 2) (hrest : ∀ b : Nat, b < 65 → ¬ (b : Int) = bb.toInt → (sz b).toInt = 0) (hpos : 0 ≤ (KF bb.toInt.toNat 0).toInt ∧ 0 ≤ (KF bb.toInt.toNat 1).toInt) (hcmp : (KF bb.toInt.toNat 0).toInt < (KF bb.toInt.toNat 1).toInt) :
    MetFree l (⟨cR, "fillFirstBucket", "()V"⟩ : MethodName) (head1 (Jvm.Cond.code (⟨cR, "fillFirstBucket", "()V"⟩ : MethodName) kc19 8 none :: ws) ({ frames := 3, cells := 0, slots := 0, locals := 44 } : Room)) (fun aa UU => aa = #[(.ref q)] ∧ Z.Warmed39 UU.vm ∧ UU.heap = h0) (fun _ _ _ _ _ => True) (fun _ UU oo UU' => ∃ vv LL, oo = .returned vv ∧ Qf2l Z q ks js ss kf jf sz KF JF sn la bb h0 n0 vv UU'.heap LL ∧ FrameEnd UU oo UU' LL 0 0) := by
  refine MetFree.of_bodySF (plainFor_of_name pn_2) hisR ?_
  intro p e s m args below meth c s₁ Bd hml0 hP hK
  obtain ⟨rfl, hZ, hh⟩ := hP
  have hx := Bd.exec
  have hby := Bd.bytes
  have hlk : meth.locks = false := BodyLoose.notSynchronized Bd
  have hml : c.maxLocals = 8 := hml0
  have hown : s.vm.findClass cR = some m.cls := findClass_of_methodNamed Bd.named
  have hnm := (name_of_methodNamed Bd.named Bd.method).1
  have X0 : Stand p l e ({ frames := 3, cells := 0, slots := 0, locals := 44 } : Room) s m #[(.ref q)] below meth c s₁ [] 0 0 := Stand.of_body Bd
  have e0 : s₁.heap = h0 := by rw [← hh, Bd.state]; rfl
  have N0 := Fr.nil n0
  have K0 : Keep h0 h0 ([q, ss] ++ rowsOf kf jf) := Keep.refl h0 _
  refine (?_ : Go p e below s (Qf2l Z q ks js ss kf jf sz KF JF sn la bb h0 n0) 0 0 (s₁.setTop (entryFrame m #[(.ref q)] 8)))
  rw [ef_rmf2l]
  generalize hQ : Qf2l Z q ks js ss kf jf sz KF JF sn la bb h0 n0 = Q
  show Go p e below s Q 0 0 (s₁.setTop (mkF m 0 #[vr q, un, un, un, un, un, un, un] []))
  refine gA X0 hx hby rfl d19_0 rfl rfl ?_
  obtain ⟨T1, X1, e1, st1⟩ := getF X0 hx hZ hown (host := "") (Or.inl (tb hw 25 rfl)) Via.refl e0 F_s (g := (mkF m 1 #[vr q, un, un, un, un, un, un, un] [(.ref q)])) rfl rfl (hb hby d19_1)
  refine Go.st st1 ?_
  refine gI X1 hx hby rfl d19_4 ?_
  refine Go.st (Vec.ildI X1 hx hZ e1 V_s (j := (0 : Int32)) (by decide) (by decide) (g := (mkF m 5 #[vr q, un, un, un, un, un, un, un] [(.int (0 : Int32)), (.ref ss)])) rfl rfl (hb hby d19_5)) ?_
  show Go p e below s Q 0 0 (T1.setTop (mkF m 6 #[vr q, un, un, un, un, un, un, un] [(.int (sz 0))]))
  have hz0 : (sz 0).toInt = 0 := hrest 0 (by decide) (by omega)
  have f3 := liI_0
  have f4 := rng32 (sz 0)
  have c5 : ¬ (0 < (sz 0).toInt) := by omega
  refine gY X1 hx hby rfl (pc0 := 6) (pc' := 10) rfl d19_6 rfl ((if0 _ _).trans (flt (nltI liI_0 rfl c5)).2.2.2) (by decide) (by decide) ?_
  refine gI X1 hx hby rfl d19_10 ?_
  refine gT X1 hx hby rfl d19_11 rfl (l' := #[vr q, vi (1 : Int32), un, un, un, un, un, un]) rfl ?_
  show Go p e below s Q 0 0 (T1.setTop (mkF m 12 #[vr q, vi (1 : Int32), un, un, un, un, un, un] []))
  have lp7 : ∀ (kg6 : Nat) (Tg6 : State) (hg6 : Heap) (Lgg6 : List Loc) (Xg6 : Stand p l e ({ frames := 3, cells := 0, slots := 0, locals := 44 } : Room) s m #[(.ref q)] below meth c Tg6 Lgg6 0 0) (eg6 : Tg6.heap = hg6) (Ng6 : Fr n0 Lgg6) (Kg6 : Keep h0 hg6 ([q, ss] ++ rowsOf kf jf)) (k12 : Int32) (hfg6_0 : Exa Z hg6 q cR) (hfg6_1 : Fld Z hg6 q cR "keys" "[[J" (.ref ks)) (hfg6_2 : Fld Z hg6 q cR "ids" "[[I" (.ref js)) (hfg6_3 : Fld Z hg6 q cR "sizes" "[I" (.ref ss)) (hfg6_4 : Fld Z hg6 q cR "size" "I" (.int sn)) (hfg6_5 : Fld Z hg6 q cR "last" "J" (.long la)) (hfg6_6 : RA Z hg6 ks .long kf) (hfg6_7 : RA Z hg6 js .int jf) (hfg6_8 : Vec Z hg6 ss .int (65 : Int32) (ints sz)) (hfg6_9 : RwJ Z hg6 kf KF) (hfg6_10 : RwI Z hg6 jf JF) (hpg6_0 : 1 ≤ k12.toInt ∧ k12.toInt ≤ bb.toInt), (bb.toInt - k12.toInt).toNat = kg6 → Go p e below s Q 0 0 (Tg6.setTop (mkF m 12 #[vr q, vi k12, un, un, un, un, un, un] [])) := by
    intro kg6
    induction kg6 using Nat.strongRecOn with
    | ind kg6 ihg6 =>
    intro Tg6 hg6 Lgg6 Xg6 eg6 Ng6 Kg6 k12 hfg6_0 hfg6_1 hfg6_2 hfg6_3 hfg6_4 hfg6_5 hfg6_6 hfg6_7 hfg6_8 hfg6_9 hfg6_10 hpg6_0 hkg6
    have f8 := rng32 k12
    show Go p e below s Q 0 0 (Tg6.setTop (mkF m 12 #[vr q, vi k12, un, un, un, un, un, un] []))
    refine gA Xg6 hx hby rfl d19_12 rfl rfl ?_
    obtain ⟨T9, X9, e9, st9⟩ := getF Xg6 hx hZ hown (host := "") (Or.inl (tb hw 25 rfl)) Via.refl eg6 hfg6_3 (g := (mkF m 13 #[vr q, vi k12, un, un, un, un, un, un] [(.ref q)])) rfl rfl (hb hby d19_13)
    refine Go.st st9 ?_
    refine gC X9 hx hby rfl d19_16 rfl ?_
    have f11 := liI_65
    have r12 : 0 ≤ k12.toInt := by omega
    have r13 : k12.toInt < (65 : Int32).toInt := by omega
    refine Go.st (Vec.ildI X9 hx hZ e9 hfg6_8 (j := k12) r12 r13 (g := (mkF m 17 #[vr q, vi k12, un, un, un, un, un, un] [(.int k12), (.ref ss)])) rfl rfl (hb hby d19_17)) ?_
    show Go p e below s Q 0 0 (T9.setTop (mkF m 18 #[vr q, vi k12, un, un, un, un, un, un] [(.int (sz k12.toInt.toNat))]))
    have hsk : (k12.toInt = bb.toInt ∧ (sz k12.toInt.toNat).toInt = 2) ∨ (¬ k12.toInt = bb.toInt ∧ (sz k12.toInt.toNat).toInt = 0) := by
      by_cases q : k12.toInt = bb.toInt
      · exact Or.inl ⟨q, by rw [q]; exact hone⟩
      · exact Or.inr ⟨q, hrest k12.toInt.toNat (by omega) (by omega)⟩
    have f14 := rng32 (sz k12.toInt.toNat)
    by_cases c15 : (sz k12.toInt.toNat).toInt = 0
    ·
      refine gN X9 hx hby rfl d19_18 rfl ((if0 _ _).trans (teq (eqI rfl liI_0 c15)).2) ?_
      refine gInc X9 hx hby rfl d19_21 rfl (l' := #[vr q, vi (k12 + (1 : Int32)), un, un, un, un, un, un]) rfl ?_
      show Go p e below s Q 0 0 (T9.setTop (mkF m 24 #[vr q, vi (k12 + (1 : Int32)), un, un, un, un, un, un] []))
      have f16 := liI_1
      have f17 := c_iadd k12 (1 : Int32)
      have f18 := rng32 (k12 + (1 : Int32))
      generalize hv_v19 : (k12 + (1 : Int32)) = v19 at f17 f18 ⊢
      refine gG X9 hx hby rfl (pc0 := 24) (pc' := 12) rfl d19_24 (by decide) (by decide) ?_
      show Go p e below s Q 0 0 (T9.setTop (mkF m 12 #[vr q, vi v19, un, un, un, un, un, un] []))
      exact ihg6 _ (by omega) T9 hg6 _ (up X9 (by decide) (by decide)) e9 Ng6 Kg6 v19 hfg6_0 hfg6_1 hfg6_2 hfg6_3 hfg6_4 hfg6_5 hfg6_6 hfg6_7 hfg6_8 hfg6_9 hfg6_10 (by omega) rfl
    ·
      refine gY X9 hx hby rfl (pc0 := 18) (pc' := 27) rfl d19_18 rfl ((if0 _ _).trans (feq (neI rfl liI_0 c15)).2) (by decide) (by decide) ?_
      show Go p e below s Q 0 0 (T9.setTop (mkF m 27 #[vr q, vi k12, un, un, un, un, un, un] []))
      have hkb : bb = k12 := eqI rfl rfl (by omega)
      subst hkb
      clear hsk
      show Go p e below s Q 0 0 (T9.setTop (mkF m 27 #[vr q, vi bb, un, un, un, un, un, un] []))
      refine gA X9 hx hby rfl d19_27 rfl rfl ?_
      obtain ⟨T20, X20, e20, st20⟩ := getF X9 hx hZ hown (host := "") (Or.inl (tb hw 18 rfl)) Via.refl e9 hfg6_1 (g := (mkF m 28 #[vr q, vi bb, un, un, un, un, un, un] [(.ref q)])) rfl rfl (hb hby d19_28)
      refine Go.st st20 ?_
      refine gC X20 hx hby rfl d19_31 rfl ?_
      have r22 : 0 ≤ bb.toInt := by omega
      have r23 : bb.toInt < 65 := by omega
      have hb24 : bb.toInt.toNat < 65 := by omega
      refine Go.st (RA.ild X20 hx hZ e20 hfg6_6 (j := bb) r22 r23 (g := (mkF m 32 #[vr q, vi bb, un, un, un, un, un, un] [(.int bb), (.ref ks)])) rfl rfl (hb hby d19_32)) ?_
      show Go p e below s Q 0 0 (T20.setTop (mkF m 33 #[vr q, vi bb, un, un, un, un, un, un] [(.ref (kf bb.toInt.toNat))]))
      obtain ⟨rw21, hr21⟩ : ∃ z, z = kf bb.toInt.toNat := ⟨_, rfl⟩
      rw [← hr21]
      have Grw21 : n0 ≤ rw21 := by rw [hr21]; exact (GR bb.toInt.toNat hb24).1
      have h25 : Vec Z hg6 rw21 .long (4 : Int32) (longs (KF bb.toInt.toNat)) := by rw [hr21]; exact hfg6_9 bb.toInt.toNat hb24
      show Go p e below s Q 0 0 (T20.setTop (mkF m 33 #[vr q, vi bb, un, un, un, un, un, un] [(.ref rw21)]))
      refine Go.st (fun _ k => XS.astoreN X20.here hx rfl (hb hby d19_33) rfl rfl (l' := #[vr q, vi bb, vr rw21, un, un, un, un, un]) rfl k) ?_
      refine gA X20 hx hby rfl d19_34 rfl rfl ?_
      obtain ⟨T26, X26, e26, st26⟩ := getF X20 hx hZ hown (host := "") (Or.inl (tb hw 22 rfl)) Via.refl e20 hfg6_2 (g := (mkF m 35 #[vr q, vi bb, vr rw21, un, un, un, un, un] [(.ref q)])) rfl rfl (hb hby d19_35)
      refine Go.st st26 ?_
      refine gC X26 hx hby rfl d19_38 rfl ?_
      have r28 : 0 ≤ bb.toInt := by omega
      have r29 : bb.toInt < 65 := by omega
      have hb30 : bb.toInt.toNat < 65 := by omega
      refine Go.st (RA.ild X26 hx hZ e26 hfg6_7 (j := bb) r28 r29 (g := (mkF m 39 #[vr q, vi bb, vr rw21, un, un, un, un, un] [(.int bb), (.ref js)])) rfl rfl (hb hby d19_39)) ?_
      show Go p e below s Q 0 0 (T26.setTop (mkF m 40 #[vr q, vi bb, vr rw21, un, un, un, un, un] [(.ref (jf bb.toInt.toNat))]))
      obtain ⟨rw27, hr27⟩ : ∃ z, z = jf bb.toInt.toNat := ⟨_, rfl⟩
      rw [← hr27]
      have Grw27 : n0 ≤ rw27 := by rw [hr27]; exact (GR bb.toInt.toNat hb30).2
      have h31 : Vec Z hg6 rw27 .int (4 : Int32) (ints (JF bb.toInt.toNat)) := by rw [hr27]; exact hfg6_10 bb.toInt.toNat hb30
      show Go p e below s Q 0 0 (T26.setTop (mkF m 40 #[vr q, vi bb, vr rw21, un, un, un, un, un] [(.ref rw27)]))
      refine Go.st (fun _ k => XS.astoreN X26.here hx rfl (hb hby d19_40) rfl rfl (l' := #[vr q, vi bb, vr rw21, vr rw27, un, un, un, un]) rfl k) ?_
      refine gA X26 hx hby rfl d19_41 rfl rfl ?_
      obtain ⟨T32, X32, e32, st32⟩ := getF X26 hx hZ hown (host := "") (Or.inl (tb hw 25 rfl)) Via.refl e26 hfg6_3 (g := (mkF m 42 #[vr q, vi bb, vr rw21, vr rw27, un, un, un, un] [(.ref q)])) rfl rfl (hb hby d19_42)
      refine Go.st st32 ?_
      refine gC X32 hx hby rfl d19_45 rfl ?_
      have r34 : 0 ≤ bb.toInt := by omega
      have r35 : bb.toInt < (65 : Int32).toInt := by omega
      refine Go.st (Vec.ildI X32 hx hZ e32 hfg6_8 (j := bb) r34 r35 (g := (mkF m 46 #[vr q, vi bb, vr rw21, vr rw27, un, un, un, un] [(.int bb), (.ref ss)])) rfl rfl (hb hby d19_46)) ?_
      refine gS X32 hx hby rfl d19_47 rfl (l' := #[vr q, vi bb, vr rw21, vr rw27, vi (sz bb.toInt.toNat), un, un, un]) rfl ?_
      show Go p e below s Q 0 0 (T32.setTop (mkF m 49 #[vr q, vi bb, vr rw21, vr rw27, vi (sz bb.toInt.toNat), un, un, un] []))
      generalize hv_v36 : (sz bb.toInt.toNat) = v36 at f14 ⊢
      have cs37 : v36.toInt = 2 := by rw [← hv_v36]; exact hone
      ·
        have cs37' : v36 = (2 : Int32) := eqI cs37 liI_2 rfl
        subst cs37'
        have f38 := liI_2
        show Go p e below s Q 0 0 (T32.setTop (mkF m 49 #[vr q, vi bb, vr rw21, vr rw27, vi (2 : Int32), un, un, un] []))
        refine gA X32 hx hby rfl d19_49 rfl rfl ?_
        refine gI X32 hx hby rfl d19_50 ?_
        refine Go.st (Vec.ildJ X32 hx hZ e32 h25 (j := (0 : Int32)) (by decide) (by decide) (g := (mkF m 51 #[vr q, vi bb, vr rw21, vr rw27, vi (2 : Int32), un, un, un] [(.int (0 : Int32)), (.ref rw21)])) rfl rfl (hb hby d19_51)) ?_
        refine gU X32 hx hby rfl d19_52 rfl (l' := #[vr q, vi bb, vr rw21, vr rw27, vi (2 : Int32), vj ((KF bb.toInt.toNat) 0), sd, un]) rfl ?_
        show Go p e below s Q 0 0 (T32.setTop (mkF m 54 #[vr q, vi bb, vr rw21, vr rw27, vi (2 : Int32), vj ((KF bb.toInt.toNat) 0), sd, un] []))
        have f40 := rng64 ((KF bb.toInt.toNat) 0)
        generalize hv_v41 : ((KF bb.toInt.toNat) 0) = v41 at f40 ⊢
        refine gI X32 hx hby rfl d19_54 ?_
        refine gS X32 hx hby rfl d19_55 rfl (l' := #[vr q, vi bb, vr rw21, vr rw27, vi (2 : Int32), vj v41, sd, vi (1 : Int32)]) rfl ?_
        show Go p e below s Q 0 0 (T32.setTop (mkF m 57 #[vr q, vi bb, vr rw21, vr rw27, vi (2 : Int32), vj v41, sd, vi (1 : Int32)] []))
        have hk0 : ((KF bb.toInt.toNat) 0).toInt = v41.toInt := congrArg Int64.toInt hv_v41
        refine gD X32 hx hby rfl d19_57 rfl ?_
        refine gD X32 hx hby rfl d19_59 rfl ?_
        refine gM X32 hx hby rfl d19_61 rfl (tlt (ltI liI_1 liI_2 (by decide))).2.1 ?_
        refine gF X32 hx hby rfl d19_64 rfl ?_
        refine gA X32 hx hby rfl d19_66 rfl rfl ?_
        refine gD X32 hx hby rfl d19_67 rfl ?_
        show Go p e below s Q 0 0 (T32.setTop (mkF m 69 #[vr q, vi bb, vr rw21, vr rw27, vi (2 : Int32), vj v41, sd, vi (1 : Int32)] [(.int (1 : Int32)), (.ref rw21), (.long v41)]))
        refine Go.st (Vec.ildJ X32 hx hZ e32 h25 (j := (1 : Int32)) (by decide) (by decide) (g := (mkF m 69 #[vr q, vi bb, vr rw21, vr rw27, vi (2 : Int32), vj v41, sd, vi (1 : Int32)] [(.int (1 : Int32)), (.ref rw21), (.long v41)])) rfl rfl (hb hby d19_69)) ?_
        have f44 := rng64 ((KF bb.toInt.toNat) 1)
        obtain ⟨_, _, ⟨T43, L43, k43, n43⟩, -, X43, ⟨Lc43, hQ43, l43, y43, z43⟩, st43⟩ := Jvm.LawKit.callS X32 hx (y := (⟨"java/lang/Math", "min", "(JJ)J"⟩ : MethodName)) hown (mvT hZ (tb hw 138 rfl)) (mvT hZ (tb hw 139 rfl)) (mvT hZ (tb hw 140 rfl)) (mvT hZ (tb hw 141 rfl)) (by decide) (backOf (W := 0) (rm20 l Z a0 hw [] v41 ((KF bb.toInt.toNat) 1) hg6 n0 (Nat.le_trans Z0 Kg6.1) ) hZ (tb hw 141 rfl) (tb hw 140 rfl) (by decide) (by decide)) (g := (mkF m 70 #[vr q, vi bb, vr rw21, vr rw27, vi (2 : Int32), vj v41, sd, vi (1 : Int32)] [(.long ((KF bb.toInt.toNat) 1)), (.long v41)])) rfl (by rw [hml]; rfl) (argsL := [(.long v41), (.long ((KF bb.toInt.toNat) 1))]) (rest := []) (lenOf pd_4 rfl) rfl (by show 2 * 0 + _ ≤ _; exact Nat.le_of_eq rfl) (hb hby d19_70) (fun _ _ => ⟨rfl, e32, (by decide : 0 + 0 ≤ _), (by decide : 0 + 0 ≤ _)⟩)
        dsimp only [Pt.U, Pt.locs, Pt.cells, Pt.slots] at X43 l43 y43 z43 st43 hQ43
        subst y43 z43
        obtain ⟨rr_45, rfl, N43q, f46, e43⟩ := hQ43
        have N43 : Fr n0 L43 := by rw [l43]; exact Fr.app Ng6 N43q
        refine Go.st st43 ?_
        show Go p e below s Q 0 0 (T43.setTop (mkF m 73 #[vr q, vi bb, vr rw21, vr rw27, vi (2 : Int32), vj v41, sd, vi (1 : Int32)] [(.long rr_45)]))
        have f47 := rng64 rr_45
        refine gU X43 hx hby rfl d19_73 rfl (l' := #[vr q, vi bb, vr rw21, vr rw27, vi (2 : Int32), vj rr_45, sd, vi (1 : Int32)]) rfl ?_
        refine gInc X43 hx hby rfl d19_75 rfl (l' := #[vr q, vi bb, vr rw21, vr rw27, vi (2 : Int32), vj rr_45, sd, vi (2 : Int32)]) rfl ?_
        refine gG X43 hx hby rfl (pc0 := 78) (pc' := 57) rfl d19_78 (by decide) (by decide) ?_
        show Go p e below s Q 0 0 (T43.setTop (mkF m 57 #[vr q, vi bb, vr rw21, vr rw27, vi (2 : Int32), vj rr_45, sd, vi (2 : Int32)] []))
        refine gD X43 hx hby rfl d19_57 rfl ?_
        refine gD X43 hx hby rfl d19_59 rfl ?_
        refine gZ X43 hx hby rfl (pc0 := 61) (pc' := 81) rfl d19_61 rfl (flt (nltI liI_2 liI_2 (by decide))).2.1 (by decide) (by decide) ?_
        show Go p e below s Q 0 0 (T43.setTop (mkF m 81 #[vr q, vi bb, vr rw21, vr rw27, vi (2 : Int32), vj rr_45, sd, vi (2 : Int32)] []))
        have hmn : rr_45.toInt = ((KF bb.toInt.toNat) 0).toInt := by omega
        clear f46
        refine gA X43 hx hby rfl d19_81 rfl rfl ?_
        refine gF X43 hx hby rfl d19_82 rfl ?_
        obtain ⟨T48, h48, X48, e48, W48, st48⟩ := putF X43 hx hZ hown (host := "") (Or.inl (tb hw 28 rfl)) Via.refl e43 hfg6_5 hfg6_0 (Or.inl (tb hw 29 rfl)) (tb hw 10 rfl) (ty := .long) (by decide) rfl rfl (g := (mkF m 84 #[vr q, vi bb, vr rw21, vr rw27, vi (2 : Int32), vj rr_45, sd, vi (2 : Int32)] [(.long rr_45), (.ref q)])) rfl rfl (hb hby d19_84)
        have h49 : Exa Z h48 q cR := hfg6_0.wr W48
        have h50 : Fld Z h48 q cR "keys" "[[J" (.ref ks) := hfg6_1.other W48 (Or.inr (ndq (sl_0 hw) 0 3 rfl))
        have h51 : Fld Z h48 q cR "ids" "[[I" (.ref js) := hfg6_2.other W48 (Or.inr (ndq (sl_0 hw) 1 3 rfl))
        have h52 : Fld Z h48 q cR "sizes" "[I" (.ref ss) := hfg6_3.other W48 (Or.inr (ndq (sl_0 hw) 2 3 rfl))
        have h53 : Fld Z h48 q cR "size" "I" (.int sn) := hfg6_4.other W48 (Or.inr (ndq (sl_0 hw) 4 3 rfl))
        have h54 : Fld Z h48 q cR "last" "J" (.long rr_45) := hfg6_5.same W48
        have h55 : RA Z h48 ks .long kf := hfg6_6.other W48 n_ks_q
        have h56 : RA Z h48 js .int jf := hfg6_7.other W48 n_js_q
        have h57 : Vec Z h48 ss .int (65 : Int32) (ints sz) := hfg6_8.other W48 (Ne.symm n_q_ss)
        have h58 : RwJ Z h48 kf KF := RwJ.other W48 hfg6_9 (fun b hb => (N_q b hb).1)
        have h59 : RwI Z h48 jf JF := RwI.other W48 hfg6_10 (fun b hb => (N_q b hb).2)
        have h60 : Vec Z h48 rw21 .long (4 : Int32) (longs (KF bb.toInt.toNat)) := h25.other W48 (Ne.symm (nr_k N_q hb24 hr21))
        have h61 : Vec Z h48 rw27 .int (4 : Int32) (ints (JF bb.toInt.toNat)) := h31.other W48 (Ne.symm (nr_j N_q hb30 hr27))
        have K48 : Keep h0 h48 ([q, ss] ++ rowsOf kf jf) := Kg6.wr W48 (Or.inl (List.mem_append_left _ (List.mem_of_getElem? (i := 0) rfl)))
        have N48 := Fr.snoc X48 N43 G_q
        refine Go.st st48 ?_
        show Go p e below s Q 0 0 (T48.setTop (mkF m 87 #[vr q, vi bb, vr rw21, vr rw27, vi (2 : Int32), vj rr_45, sd, vi (2 : Int32)] []))
        refine gA X48 hx hby rfl d19_87 rfl rfl ?_
        obtain ⟨T62, X62, e62, st62⟩ := getF X48 hx hZ hown (host := "") (Or.inl (tb hw 25 rfl)) Via.refl e48 h52 (g := (mkF m 88 #[vr q, vi bb, vr rw21, vr rw27, vi (2 : Int32), vj rr_45, sd, vi (2 : Int32)] [(.ref q)])) rfl rfl (hb hby d19_88)
        refine Go.st st62 ?_
        refine gC X62 hx hby rfl d19_91 rfl ?_
        refine gI X62 hx hby rfl d19_92 ?_
        have r64 : 0 ≤ bb.toInt := by omega
        have r65 : bb.toInt < (65 : Int32).toInt := by omega
        obtain ⟨T63, h63, X63, e63, W63, V63, st63⟩ := Vec.istI X62 hx hZ e62 h57 (j := bb) r64 r65 (g := (mkF m 93 #[vr q, vi bb, vr rw21, vr rw27, vi (2 : Int32), vj rr_45, sd, vi (2 : Int32)] [(.int (0 : Int32)), (.int bb), (.ref ss)])) rfl rfl (hb hby d19_93)
        have h66 : Exa Z h63 q cR := h49.wr W63
        have h67 : Fld Z h63 q cR "keys" "[[J" (.ref ks) := h50.other W63 (Or.inl n_q_ss)
        have h68 : Fld Z h63 q cR "ids" "[[I" (.ref js) := h51.other W63 (Or.inl n_q_ss)
        have h69 : Fld Z h63 q cR "sizes" "[I" (.ref ss) := h52.other W63 (Or.inl n_q_ss)
        have h70 : Fld Z h63 q cR "size" "I" (.int sn) := h53.other W63 (Or.inl n_q_ss)
        have h71 : Fld Z h63 q cR "last" "J" (.long rr_45) := h54.other W63 (Or.inl n_q_ss)
        have h72 : RA Z h63 ks .long kf := h55.other W63 n_ks_ss
        have h73 : RA Z h63 js .int jf := h56.other W63 n_js_ss
        have h74 : Vec Z h63 ss .int (65 : Int32) (ints (updF sz bb.toInt.toNat (0 : Int32))) := V63
        have h75 : RwJ Z h63 kf KF := RwJ.other W63 h58 (fun b hb => (N_ss b hb).1)
        have h76 : RwI Z h63 jf JF := RwI.other W63 h59 (fun b hb => (N_ss b hb).2)
        have h77 : Vec Z h63 rw21 .long (4 : Int32) (longs (KF bb.toInt.toNat)) := h60.other W63 (Ne.symm (nr_k N_ss hb24 hr21))
        have h78 : Vec Z h63 rw27 .int (4 : Int32) (ints (JF bb.toInt.toNat)) := h61.other W63 (Ne.symm (nr_j N_ss hb30 hr27))
        have K63 : Keep h0 h63 ([q, ss] ++ rowsOf kf jf) := K48.wr W63 (Or.inl (List.mem_append_left _ (List.mem_of_getElem? (i := 1) rfl)))
        have N63 := Fr.snoc X63 N48 G_s
        refine Go.st st63 ?_
        show Go p e below s Q 0 0 (T63.setTop (mkF m 94 #[vr q, vi bb, vr rw21, vr rw27, vi (2 : Int32), vj rr_45, sd, vi (2 : Int32)] []))
        refine gI X63 hx hby rfl d19_94 ?_
        refine gS X63 hx hby rfl d19_95 rfl (l' := #[vr q, vi bb, vr rw21, vr rw27, vi (2 : Int32), vj rr_45, sd, vi (0 : Int32)]) rfl ?_
        refine gD X63 hx hby rfl d19_97 rfl ?_
        refine gD X63 hx hby rfl d19_99 rfl ?_
        refine gM X63 hx hby rfl d19_101 rfl (tlt (ltI liI_0 liI_2 (by decide))).2.1 ?_
        show Go p e below s Q 0 0 (T63.setTop (mkF m 104 #[vr q, vi bb, vr rw21, vr rw27, vi (2 : Int32), vj rr_45, sd, vi (0 : Int32)] []))
        refine gA X63 hx hby rfl d19_104 rfl rfl ?_
        refine gA X63 hx hby rfl d19_105 rfl rfl ?_
        refine gA X63 hx hby rfl d19_106 rfl rfl ?_
        refine gD X63 hx hby rfl d19_107 rfl ?_
        refine Go.st (Vec.ildJ X63 hx hZ e63 h77 (j := (0 : Int32)) (by decide) (by decide) (g := (mkF m 109 #[vr q, vi bb, vr rw21, vr rw27, vi (2 : Int32), vj rr_45, sd, vi (0 : Int32)] [(.int (0 : Int32)), (.ref rw21), (.ref q), (.ref q)])) rfl rfl (hb hby d19_109)) ?_
        have f81 := rng64 ((KF bb.toInt.toNat) 0)
        obtain ⟨cq80, q80, q80'⟩ := h66.cell
        have pv80 := Cond.privateMethod_at (mvP hZ (tb hw 105 rfl) (args := #[]))
        obtain ⟨_, _, ⟨T80, L80, k80, n80⟩, -, X80, ⟨Lc80, hQ80, l80, y80, z80⟩, st80⟩ := X63.privateBack hx (y := (⟨cR, "bucketOf", "(J)I"⟩ : MethodName)) hown (mvT hZ (tb hw 103 rfl)) (mvT hZ (tb hw 104 rfl)) (self_sel (mvT hZ (args := #[]) (tb hw 64 rfl)) rfl pv80 (mvT hZ (tb hw 104 rfl)) (by decide)) pv80 (mvT hZ (tb hw 106 rfl)) (by decide) (backOf (W := 1) (rm12 l Z a0 hw [] q ((KF bb.toInt.toNat) 0) rr_45 h63 n0 (Nat.le_trans Z0 K63.1) h66 h71) hZ (tb hw 106 rfl) (tb hw 11 rfl) (by decide) (by decide)) (g := (mkF m 110 #[vr q, vi bb, vr rw21, vr rw27, vi (2 : Int32), vj rr_45, sd, vi (0 : Int32)] [(.long ((KF bb.toInt.toNat) 0)), (.ref q), (.ref q)])) rfl (by rw [hml]; rfl) (Steps.refl _) (a := q) (by rw [e63]; exact q80) q80' (argsL := [(.long ((KF bb.toInt.toNat) 0))]) (rest := [(.ref q)]) (lenOf pd_1 rfl) rfl (by show 2 * 0 + _ ≤ _; exact Nat.le_of_eq rfl) (hb hby d19_110) (fun _ _ => ⟨rfl, e63, (by decide : 0 + 0 ≤ _), (by decide : 0 + 0 ≤ _)⟩)
        dsimp only [Pt.U, Pt.locs, Pt.cells, Pt.slots] at X80 l80 y80 z80 st80 hQ80
        subst y80 z80
        obtain ⟨rr_82, rfl, N80q, f83, f84, f85, e80⟩ := hQ80
        have N80 : Fr n0 L80 := by rw [l80]; exact Fr.app N63 N80q
        refine Go.tr  st80 ?_
        show Go p e below s Q 0 0 (T80.setTop (mkF m 113 #[vr q, vi bb, vr rw21, vr rw27, vi (2 : Int32), vj rr_45, sd, vi (0 : Int32)] [(.int rr_82), (.ref q)]))
        have f86 := rng32 rr_82
        have cs87 : rr_82.toInt = 0 := by omega
        ·
          have cs87' : rr_82 = (0 : Int32) := eqI cs87 liI_0 rfl
          subst cs87'
          show Go p e below s Q 0 0 (T80.setTop (mkF m 113 #[vr q, vi bb, vr rw21, vr rw27, vi (2 : Int32), vj rr_45, sd, vi (0 : Int32)] [(.int (0 : Int32)), (.ref q)]))
          clear f83 f84 f85
          refine gA X80 hx hby rfl d19_113 rfl rfl ?_
          refine gD X80 hx hby rfl d19_114 rfl ?_
          refine Go.st (Vec.ildJ X80 hx hZ e80 h77 (j := (0 : Int32)) (by decide) (by decide) (g := (mkF m 116 #[vr q, vi bb, vr rw21, vr rw27, vi (2 : Int32), vj rr_45, sd, vi (0 : Int32)] [(.int (0 : Int32)), (.ref rw21), (.int (0 : Int32)), (.ref q)])) rfl rfl (hb hby d19_116)) ?_
          refine gA X80 hx hby rfl d19_117 rfl rfl ?_
          refine gD X80 hx hby rfl d19_118 rfl ?_
          refine Go.st (Vec.ildI X80 hx hZ e80 h78 (j := (0 : Int32)) (by decide) (by decide) (g := (mkF m 120 #[vr q, vi bb, vr rw21, vr rw27, vi (2 : Int32), vj rr_45, sd, vi (0 : Int32)] [(.int (0 : Int32)), (.ref rw27), (.long ((KF bb.toInt.toNat) 0)), (.int (0 : Int32)), (.ref q)])) rfl rfl (hb hby d19_120)) ?_
          show Go p e below s Q 0 0 (T80.setTop (mkF m 121 #[vr q, vi bb, vr rw21, vr rw27, vi (2 : Int32), vj rr_45, sd, vi (0 : Int32)] [(.int ((JF bb.toInt.toNat) 0)), (.long ((KF bb.toInt.toNat) 0)), (.int (0 : Int32)), (.ref q)]))
          have f91 := rng32 sn
          have f92 := rng32 ((JF bb.toInt.toNat) 0)
          have p93 : 0 ≤ (0 : Int32).toInt ∧ (0 : Int32).toInt < 65 := by omega
          obtain ⟨cq90, q90, q90'⟩ := h66.cell
          have pv90 := Cond.privateMethod_at (mvP hZ (tb hw 117 rfl) (args := #[]))
          obtain ⟨_, _, ⟨T90, L90, k90, n90⟩, -, X90, ⟨Lc90, hQ90, l90, y90, z90⟩, st90⟩ := X80.privateBack hx (y := (⟨cR, "add", "(IJI)V"⟩ : MethodName)) hown (mvT hZ (tb hw 115 rfl)) (mvT hZ (tb hw 116 rfl)) (self_sel (mvT hZ (args := #[]) (tb hw 64 rfl)) rfl pv90 (mvT hZ (tb hw 116 rfl)) (by decide)) pv90 (mvT hZ (tb hw 118 rfl)) (by decide) (backOf (W := 0) (rm15 l Z a0 hw [] q (0 : Int32) ((KF bb.toInt.toNat) 0) ((JF bb.toInt.toNat) 0) ks js ss kf jf (updF sz bb.toInt.toNat (0 : Int32)) KF JF sn rr_45 h63 n0 (Nat.le_trans Z0 K63.1) h66 h67 h68 h69 h70 h71 h72 h73 h74 h75 h76 Ik Ij GR G_q G_s N_q N_ks N_js N_ss n_q_ss n_ks_ss n_js_ss n_ks_q n_js_q p93 (ct_u hrest (x := 0) (by first | decide | omega))) hZ (tb hw 118 rfl) (tb hw 11 rfl) (by decide) (by decide)) (g := (mkF m 121 #[vr q, vi bb, vr rw21, vr rw27, vi (2 : Int32), vj rr_45, sd, vi (0 : Int32)] [(.int ((JF bb.toInt.toNat) 0)), (.long ((KF bb.toInt.toNat) 0)), (.int (0 : Int32)), (.ref q)])) rfl (by rw [hml]; rfl) (Steps.refl _) (a := q) (by rw [e80]; exact q90) q90' (argsL := [(.int (0 : Int32)), (.long ((KF bb.toInt.toNat) 0)), (.int ((JF bb.toInt.toNat) 0))]) (rest := []) (lenOf pd_3 rfl) rfl (by show 2 * 0 + _ ≤ _; exact Nat.le_of_eq rfl) (hb hby d19_121) (fun _ _ => ⟨rfl, e80, (by decide : 0 + 0 ≤ _), (by decide : 0 + 0 ≤ _)⟩)
          dsimp only [Pt.U, Pt.locs, Pt.cells, Pt.slots] at X90 l90 y90 z90 st90 hQ90
          subst y90 z90
          obtain ⟨rfl, N90q, K90q, h94, h95, h96, h97, h98, h99, h100, h101, h102, h103, h104⟩ := hQ90
          have N90 : Fr n0 L90 := by rw [l90]; exact Fr.app N80 N90q
          have K90 : Keep h0 T90.heap ([q, ss] ++ rowsOf kf jf) := K63.trans K90q (fun x hx => (fun x hx => (List.mem_append.mp hx).elim ((show ∀ x ∈ ([ss] : List Addr), x ∈ (([q, ss] ++ rowsOf kf jf) : List Addr) ∨ h0.size ≤ x from (allS (Or.inl (List.mem_append_left _ (List.mem_of_getElem? (i := 1) rfl))) all0)) x) (fun q => Or.inl (List.mem_append_right _ q))) x hx)
          refine Go.tr  st90 ?_
          show Go p e below s Q 0 0 (T90.setTop (mkF m 124 #[vr q, vi bb, vr rw21, vr rw27, vi (2 : Int32), vj rr_45, sd, vi (0 : Int32)] []))
          refine gInc X90 hx hby rfl d19_124 rfl (l' := #[vr q, vi bb, vr rw21, vr rw27, vi (2 : Int32), vj rr_45, sd, vi (1 : Int32)]) rfl ?_
          refine gG X90 hx hby rfl (pc0 := 127) (pc' := 97) rfl d19_127 (by decide) (by decide) ?_
          refine gD X90 hx hby rfl d19_97 rfl ?_
          refine gD X90 hx hby rfl d19_99 rfl ?_
          refine gM X90 hx hby rfl d19_101 rfl (tlt (ltI liI_1 liI_2 (by decide))).2.1 ?_
          show Go p e below s Q 0 0 (T90.setTop (mkF m 104 #[vr q, vi bb, vr rw21, vr rw27, vi (2 : Int32), vj rr_45, sd, vi (1 : Int32)] []))
          have h105 : Vec Z T90.heap rw21 .long (4 : Int32) (longs (KF bb.toInt.toNat)) := by have q := h103 bb.toInt.toNat hb24; rw [upd_ne _ _ (by first | omega | (show bb.toInt.toNat ≠ 0; omega))] at q; rw [hr21]; exact q
          have h106 : Vec Z T90.heap rw27 .int (4 : Int32) (ints (JF bb.toInt.toNat)) := by have q := h104 bb.toInt.toNat hb30; rw [upd_ne _ _ (by first | omega | (show bb.toInt.toNat ≠ 0; omega))] at q; rw [hr27]; exact q
          refine gA X90 hx hby rfl d19_104 rfl rfl ?_
          refine gA X90 hx hby rfl d19_105 rfl rfl ?_
          refine gA X90 hx hby rfl d19_106 rfl rfl ?_
          refine gD X90 hx hby rfl d19_107 rfl ?_
          refine Go.st (Vec.ildJ X90 hx hZ rfl h105 (j := (1 : Int32)) (by decide) (by decide) (g := (mkF m 109 #[vr q, vi bb, vr rw21, vr rw27, vi (2 : Int32), vj rr_45, sd, vi (1 : Int32)] [(.int (1 : Int32)), (.ref rw21), (.ref q), (.ref q)])) rfl rfl (hb hby d19_109)) ?_
          obtain ⟨cq108, q108, q108'⟩ := h94.cell
          have pv108 := Cond.privateMethod_at (mvP hZ (tb hw 105 rfl) (args := #[]))
          obtain ⟨_, _, ⟨T108, L108, k108, n108⟩, -, X108, ⟨Lc108, hQ108, l108, y108, z108⟩, st108⟩ := X90.privateBack hx (y := (⟨cR, "bucketOf", "(J)I"⟩ : MethodName)) hown (mvT hZ (tb hw 103 rfl)) (mvT hZ (tb hw 104 rfl)) (self_sel (mvT hZ (args := #[]) (tb hw 64 rfl)) rfl pv108 (mvT hZ (tb hw 104 rfl)) (by decide)) pv108 (mvT hZ (tb hw 106 rfl)) (by decide) (backOf (W := 1) (rm12 l Z a0 hw [] q ((KF bb.toInt.toNat) 1) rr_45 T90.heap n0 (Nat.le_trans Z0 K90.1) h94 h99) hZ (tb hw 106 rfl) (tb hw 11 rfl) (by decide) (by decide)) (g := (mkF m 110 #[vr q, vi bb, vr rw21, vr rw27, vi (2 : Int32), vj rr_45, sd, vi (1 : Int32)] [(.long ((KF bb.toInt.toNat) 1)), (.ref q), (.ref q)])) rfl (by rw [hml]; rfl) (Steps.refl _) (a := q) q108 q108' (argsL := [(.long ((KF bb.toInt.toNat) 1))]) (rest := [(.ref q)]) (lenOf pd_1 rfl) rfl (by show 2 * 0 + _ ≤ _; exact Nat.le_of_eq rfl) (hb hby d19_110) (fun _ _ => ⟨rfl, rfl, (by decide : 0 + 0 ≤ _), (by decide : 0 + 0 ≤ _)⟩)
          dsimp only [Pt.U, Pt.locs, Pt.cells, Pt.slots] at X108 l108 y108 z108 st108 hQ108
          subst y108 z108
          obtain ⟨rr_109, rfl, N108q, f110, f111, f112, e108⟩ := hQ108
          have N108 : Fr n0 L108 := by rw [l108]; exact Fr.app N90 N108q
          refine Go.tr  st108 ?_
          show Go p e below s Q 0 0 (T108.setTop (mkF m 113 #[vr q, vi bb, vr rw21, vr rw27, vi (2 : Int32), vj rr_45, sd, vi (1 : Int32)] [(.int rr_109), (.ref q)]))
          have f113 := rng32 rr_109
          have hrr : 1 ≤ rr_109.toInt ∧ rr_109.toInt ≤ 63 := by omega
          clear f110 f111 f112
          refine gA X108 hx hby rfl d19_113 rfl rfl ?_
          refine gD X108 hx hby rfl d19_114 rfl ?_
          refine Go.st (Vec.ildJ X108 hx hZ e108 h105 (j := (1 : Int32)) (by decide) (by decide) (g := (mkF m 116 #[vr q, vi bb, vr rw21, vr rw27, vi (2 : Int32), vj rr_45, sd, vi (1 : Int32)] [(.int (1 : Int32)), (.ref rw21), (.int rr_109), (.ref q)])) rfl rfl (hb hby d19_116)) ?_
          refine gA X108 hx hby rfl d19_117 rfl rfl ?_
          refine gD X108 hx hby rfl d19_118 rfl ?_
          refine Go.st (Vec.ildI X108 hx hZ e108 h106 (j := (1 : Int32)) (by decide) (by decide) (g := (mkF m 120 #[vr q, vi bb, vr rw21, vr rw27, vi (2 : Int32), vj rr_45, sd, vi (1 : Int32)] [(.int (1 : Int32)), (.ref rw27), (.long ((KF bb.toInt.toNat) 1)), (.int rr_109), (.ref q)])) rfl rfl (hb hby d19_120)) ?_
          show Go p e below s Q 0 0 (T108.setTop (mkF m 121 #[vr q, vi bb, vr rw21, vr rw27, vi (2 : Int32), vj rr_45, sd, vi (1 : Int32)] [(.int ((JF bb.toInt.toNat) 1)), (.long ((KF bb.toInt.toNat) 1)), (.int rr_109), (.ref q)]))
          have f117 := rng32 ((JF bb.toInt.toNat) 1)
          have p118 : 0 ≤ rr_109.toInt ∧ rr_109.toInt < 65 := by omega
          obtain ⟨cq116, q116, q116'⟩ := h94.cell
          have pv116 := Cond.privateMethod_at (mvP hZ (tb hw 117 rfl) (args := #[]))
          obtain ⟨_, _, ⟨T116, L116, k116, n116⟩, -, X116, ⟨Lc116, hQ116, l116, y116, z116⟩, st116⟩ := X108.privateBack hx (y := (⟨cR, "add", "(IJI)V"⟩ : MethodName)) hown (mvT hZ (tb hw 115 rfl)) (mvT hZ (tb hw 116 rfl)) (self_sel (mvT hZ (args := #[]) (tb hw 64 rfl)) rfl pv116 (mvT hZ (tb hw 116 rfl)) (by decide)) pv116 (mvT hZ (tb hw 118 rfl)) (by decide) (backOf (W := 0) (rm15 l Z a0 hw [] q rr_109 ((KF bb.toInt.toNat) 1) ((JF bb.toInt.toNat) 1) ks js ss kf jf (updF (updF sz bb.toInt.toNat (0 : Int32)) (0 : Int32).toInt.toNat (((updF sz bb.toInt.toNat (0 : Int32)) (0 : Int32).toInt.toNat) + (1 : Int32))) (updF KF (0 : Int32).toInt.toNat (updF (KF (0 : Int32).toInt.toNat) ((updF sz bb.toInt.toNat (0 : Int32)) (0 : Int32).toInt.toNat).toInt.toNat ((KF bb.toInt.toNat) 0))) (updF JF (0 : Int32).toInt.toNat (updF (JF (0 : Int32).toInt.toNat) ((updF sz bb.toInt.toNat (0 : Int32)) (0 : Int32).toInt.toNat).toInt.toNat ((JF bb.toInt.toNat) 0))) sn rr_45 T90.heap n0 (Nat.le_trans Z0 K90.1) h94 h95 h96 h97 h98 h99 h100 h101 h102 h103 h104 Ik Ij GR G_q G_s N_q N_ks N_js N_ss n_q_ss n_ks_ss n_js_ss n_ks_q n_js_q p118 (ct_o hrest (x := 0) (y := rr_109.toInt.toNat) (by first | decide | omega) (by first | decide | omega))) hZ (tb hw 118 rfl) (tb hw 11 rfl) (by decide) (by decide)) (g := (mkF m 121 #[vr q, vi bb, vr rw21, vr rw27, vi (2 : Int32), vj rr_45, sd, vi (1 : Int32)] [(.int ((JF bb.toInt.toNat) 1)), (.long ((KF bb.toInt.toNat) 1)), (.int rr_109), (.ref q)])) rfl (by rw [hml]; rfl) (Steps.refl _) (a := q) (by rw [e108]; exact q116) q116' (argsL := [(.int rr_109), (.long ((KF bb.toInt.toNat) 1)), (.int ((JF bb.toInt.toNat) 1))]) (rest := []) (lenOf pd_3 rfl) rfl (by show 2 * 0 + _ ≤ _; exact Nat.le_of_eq rfl) (hb hby d19_121) (fun _ _ => ⟨rfl, e108, (by decide : 0 + 0 ≤ _), (by decide : 0 + 0 ≤ _)⟩)
          dsimp only [Pt.U, Pt.locs, Pt.cells, Pt.slots] at X116 l116 y116 z116 st116 hQ116
          subst y116 z116
          obtain ⟨rfl, N116q, K116q, h119, h120, h121, h122, h123, h124, h125, h126, h127, h128, h129⟩ := hQ116
          have N116 : Fr n0 L116 := by rw [l116]; exact Fr.app N108 N116q
          have K116 : Keep h0 T116.heap ([q, ss] ++ rowsOf kf jf) := K90.trans K116q (fun x hx => (fun x hx => (List.mem_append.mp hx).elim ((show ∀ x ∈ ([ss] : List Addr), x ∈ (([q, ss] ++ rowsOf kf jf) : List Addr) ∨ h0.size ≤ x from (allS (Or.inl (List.mem_append_left _ (List.mem_of_getElem? (i := 1) rfl))) all0)) x) (fun q => Or.inl (List.mem_append_right _ q))) x hx)
          refine Go.tr  st116 ?_
          show Go p e below s Q 0 0 (T116.setTop (mkF m 124 #[vr q, vi bb, vr rw21, vr rw27, vi (2 : Int32), vj rr_45, sd, vi (1 : Int32)] []))
          refine gInc X116 hx hby rfl d19_124 rfl (l' := #[vr q, vi bb, vr rw21, vr rw27, vi (2 : Int32), vj rr_45, sd, vi (2 : Int32)]) rfl ?_
          refine gG X116 hx hby rfl (pc0 := 127) (pc' := 97) rfl d19_127 (by decide) (by decide) ?_
          refine gD X116 hx hby rfl d19_97 rfl ?_
          refine gD X116 hx hby rfl d19_99 rfl ?_
          refine gZ X116 hx hby rfl (pc0 := 101) (pc' := 130) rfl d19_101 rfl (flt (nltI liI_2 liI_2 (by decide))).2.1 (by decide) (by decide) ?_
          show Go p e below s Q 0 0 (T116.setTop (mkF m 130 #[vr q, vi bb, vr rw21, vr rw27, vi (2 : Int32), vj rr_45, sd, vi (2 : Int32)] []))
          exact Go.retV X116 hx hlk Bd.returns (hb hby d19_130) (by rw [← hQ]; exact ⟨(updF (updF (updF sz bb.toInt.toNat (0 : Int32)) (0 : Int32).toInt.toNat (((updF sz bb.toInt.toNat (0 : Int32)) (0 : Int32).toInt.toNat) + (1 : Int32))) rr_109.toInt.toNat (((updF (updF sz bb.toInt.toNat (0 : Int32)) (0 : Int32).toInt.toNat (((updF sz bb.toInt.toNat (0 : Int32)) (0 : Int32).toInt.toNat) + (1 : Int32))) rr_109.toInt.toNat) + (1 : Int32))), (updF (updF KF (0 : Int32).toInt.toNat (updF (KF (0 : Int32).toInt.toNat) ((updF sz bb.toInt.toNat (0 : Int32)) (0 : Int32).toInt.toNat).toInt.toNat ((KF bb.toInt.toNat) 0))) rr_109.toInt.toNat (updF ((updF KF (0 : Int32).toInt.toNat (updF (KF (0 : Int32).toInt.toNat) ((updF sz bb.toInt.toNat (0 : Int32)) (0 : Int32).toInt.toNat).toInt.toNat ((KF bb.toInt.toNat) 0))) rr_109.toInt.toNat) ((updF (updF sz bb.toInt.toNat (0 : Int32)) (0 : Int32).toInt.toNat (((updF sz bb.toInt.toNat (0 : Int32)) (0 : Int32).toInt.toNat) + (1 : Int32))) rr_109.toInt.toNat).toInt.toNat ((KF bb.toInt.toNat) 1))), (updF (updF JF (0 : Int32).toInt.toNat (updF (JF (0 : Int32).toInt.toNat) ((updF sz bb.toInt.toNat (0 : Int32)) (0 : Int32).toInt.toNat).toInt.toNat ((JF bb.toInt.toNat) 0))) rr_109.toInt.toNat (updF ((updF JF (0 : Int32).toInt.toNat (updF (JF (0 : Int32).toInt.toNat) ((updF sz bb.toInt.toNat (0 : Int32)) (0 : Int32).toInt.toNat).toInt.toNat ((JF bb.toInt.toNat) 0))) rr_109.toInt.toNat) ((updF (updF sz bb.toInt.toNat (0 : Int32)) (0 : Int32).toInt.toNat (((updF sz bb.toInt.toNat (0 : Int32)) (0 : Int32).toInt.toNat) + (1 : Int32))) rr_109.toInt.toNat).toInt.toNat ((JF bb.toInt.toNat) 1))), rr_45, rr_109, rfl, N116, (by exact hrr), (by exact par_s hrest (x := 0) (y := rr_109.toInt.toNat) (by first | decide | omega) (by first | decide | omega) (by omega)), (by exact par_k hrest (x := 0) (y := rr_109.toInt.toNat) (by first | decide | omega) (by first | decide | omega) (by omega)), (by exact par_k hrest (x := 0) (y := rr_109.toInt.toNat) (by first | decide | omega) (by first | decide | omega) (by omega)), (by exact hmn), K116, h119, h120, h121, h122, h123, h124, h125, h126, h127, h128, h129⟩) (by decide) (by decide)
  have f130 := liI_1
  exact lp7 _ T1 h0 _ (up X1 (by decide) (by decide)) e1 N0 K0 (1 : Int32) E_q F_k F_i F_s F_n F_l A_k A_j V_s W_k W_j (by omega) rfl
theorem ef_rmf2g (m : MethodId) (q : Addr) : entryFrame m #[(.ref q)] 8 = mkF m 0 #[vr q, un, un, un, un, un, un, un] [] := by first | (simp [entryFrame, mkF, argsToLocals, Value.category]; done) | rfl
def Qf2g (Z : State) (q ks js ss : Addr) (kf jf : Nat → Addr) (sz : Nat → Int32) (KF : Nat → Nat → Int64) (JF : Nat → Nat → Int32) (sn : Int32) (la : Int64) (bb : Int32) (h0 : Heap) (n0 : Nat) (vv : Option Value) (h : Heap) (LL : List Loc) : Prop := ∃ (s2 : Nat → Int32) (K2 : Nat → Nat → Int64) (J2 : Nat → Nat → Int32) (l2 : Int64) (cb : Int32), vv = none ∧ Fr n0 LL ∧ (1 ≤ cb.toInt ∧ cb.toInt ≤ 63) ∧ (∀ b : Nat, b < 65 → (s2 b).toInt = if b = cb.toInt.toNat ∨ b = 0 then 1 else 0) ∧ (K2 cb.toInt.toNat 0 = KF bb.toInt.toNat 0 ∧ K2 0 0 = KF bb.toInt.toNat 1) ∧ (J2 cb.toInt.toNat 0 = JF bb.toInt.toNat 0 ∧ J2 0 0 = JF bb.toInt.toNat 1) ∧ (l2.toInt = (KF bb.toInt.toNat 1).toInt) ∧ Keep h0 h ([q, ss] ++ rowsOf kf jf) ∧ (Exa Z h q cR) ∧ (Fld Z h q cR "keys" "[[J" (.ref ks)) ∧ (Fld Z h q cR "ids" "[[I" (.ref js)) ∧ (Fld Z h q cR "sizes" "[I" (.ref ss)) ∧ (Fld Z h q cR "size" "I" (.int sn)) ∧ (Fld Z h q cR "last" "J" (.long l2)) ∧ (RA Z h ks .long kf) ∧ (RA Z h js .int jf) ∧ (Vec Z h ss .int (65 : Int32) (ints s2)) ∧ (RwJ Z h kf K2) ∧ (RwI Z h jf J2)
set_option maxRecDepth 65536 in
set_option maxHeartbeats 40000000 in
theorem rmf2g (l : Launch) (Z : State) (a0 : Array Value) (hw : ∀ d ∈ tables_1, d.before a0 Z = true) (ws : List Jvm.Cond) (q ks js ss : Addr) (kf jf : Nat → Addr) (sz : Nat → Int32) (KF : Nat → Nat → Int64) (JF : Nat → Nat → Int32) (sn : Int32) (la : Int64) (bb : Int32) (h0 : Heap) (n0 : Nat) (Z0 : n0 ≤ h0.size) (E_q : Exa Z h0 q cR) (F_k : Fld Z h0 q cR "keys" "[[J" (.ref ks)) (F_i : Fld Z h0 q cR "ids" "[[I" (.ref js)) (F_s : Fld Z h0 q cR "sizes" "[I" (.ref ss)) (F_n : Fld Z h0 q cR "size" "I" (.int sn)) (F_l : Fld Z h0 q cR "last" "J" (.long la)) (A_k : RA Z h0 ks .long kf) (A_j : RA Z h0 js .int jf) (V_s : Vec Z h0 ss .int (65 : Int32) (ints sz)) (W_k : RwJ Z h0 kf KF) (W_j : RwI Z h0 jf JF) (Ik : Inj kf) (Ij : Inj jf) (GR : ∀ b : Nat, b < 65 → n0 ≤ kf b ∧ n0 ≤ jf b) (G_q : n0 ≤ q) (G_s : n0 ≤ ss) (N_q : NR kf jf q) (N_ks : NR kf jf ks) (N_js : NR kf jf js) (N_ss : NR kf jf ss) (n_q_ss : q ≠ ss) (n_ks_ss : ks ≠ ss) (n_js_ss : js ≠ ss) (n_ks_q : ks ≠ q) (n_js_q : js ≠ q) (hbb : 1 ≤ bb.toInt ∧ bb.toInt ≤ 64 ∧ 64 ≤ bb.toInt) (hone : (sz bb.toInt.toNat).toInt = 2) (hrest : ∀ b : Nat, b < 65 → ¬ (b : Int) = bb.toInt → (sz b).toInt = 0) (hpos : 0 ≤ (KF bb.toInt.toNat 0).toInt ∧ 0 ≤ (KF bb.toInt.toNat 1).toInt) (hcmp : (KF bb.toInt.toNat 1).toInt < (KF bb.toInt.toNat 0).toInt) :
    MetFree l (⟨cR, "fillFirstBucket", "()V"⟩ : MethodName) (head1 (Jvm.Cond.code (⟨cR, "fillFirstBucket", "()V"⟩ : MethodName) kc19 8 none :: ws) ({ frames := 3, cells := 0, slots := 0, locals := 44 } : Room)) (fun aa UU => aa = #[(.ref q)] ∧ Z.Warmed39 UU.vm ∧ UU.heap = h0) (fun _ _ _ _ _ => True) (fun _ UU oo UU' => ∃ vv LL, oo = .returned vv ∧ Qf2g Z q ks js ss kf jf sz KF JF sn la bb h0 n0 vv UU'.heap LL ∧ FrameEnd UU oo UU' LL 0 0) := by
  refine MetFree.of_bodySF (plainFor_of_name pn_2) hisR ?_
  intro p e s m args below meth c s₁ Bd hml0 hP hK
  obtain ⟨rfl, hZ, hh⟩ := hP
  have hx := Bd.exec
  have hby := Bd.bytes
  have hlk : meth.locks = false := BodyLoose.notSynchronized Bd
  have hml : c.maxLocals = 8 := hml0
  have hown : s.vm.findClass cR = some m.cls := findClass_of_methodNamed Bd.named
  have hnm := (name_of_methodNamed Bd.named Bd.method).1
  have X0 : Stand p l e ({ frames := 3, cells := 0, slots := 0, locals := 44 } : Room) s m #[(.ref q)] below meth c s₁ [] 0 0 := Stand.of_body Bd
  have e0 : s₁.heap = h0 := by rw [← hh, Bd.state]; rfl
  have N0 := Fr.nil n0
  have K0 : Keep h0 h0 ([q, ss] ++ rowsOf kf jf) := Keep.refl h0 _
  refine (?_ : Go p e below s (Qf2g Z q ks js ss kf jf sz KF JF sn la bb h0 n0) 0 0 (s₁.setTop (entryFrame m #[(.ref q)] 8)))
  rw [ef_rmf2g]
  generalize hQ : Qf2g Z q ks js ss kf jf sz KF JF sn la bb h0 n0 = Q
  show Go p e below s Q 0 0 (s₁.setTop (mkF m 0 #[vr q, un, un, un, un, un, un, un] []))
  refine gA X0 hx hby rfl d19_0 rfl rfl ?_
  obtain ⟨T1, X1, e1, st1⟩ := getF X0 hx hZ hown (host := "") (Or.inl (tb hw 25 rfl)) Via.refl e0 F_s (g := (mkF m 1 #[vr q, un, un, un, un, un, un, un] [(.ref q)])) rfl rfl (hb hby d19_1)
  refine Go.st st1 ?_
  refine gI X1 hx hby rfl d19_4 ?_
  refine Go.st (Vec.ildI X1 hx hZ e1 V_s (j := (0 : Int32)) (by decide) (by decide) (g := (mkF m 5 #[vr q, un, un, un, un, un, un, un] [(.int (0 : Int32)), (.ref ss)])) rfl rfl (hb hby d19_5)) ?_
  show Go p e below s Q 0 0 (T1.setTop (mkF m 6 #[vr q, un, un, un, un, un, un, un] [(.int (sz 0))]))
  have hz0 : (sz 0).toInt = 0 := hrest 0 (by decide) (by omega)
  have f3 := liI_0
  have f4 := rng32 (sz 0)
  have c5 : ¬ (0 < (sz 0).toInt) := by omega
  refine gY X1 hx hby rfl (pc0 := 6) (pc' := 10) rfl d19_6 rfl ((if0 _ _).trans (flt (nltI liI_0 rfl c5)).2.2.2) (by decide) (by decide) ?_
  refine gI X1 hx hby rfl d19_10 ?_
  refine gT X1 hx hby rfl d19_11 rfl (l' := #[vr q, vi (1 : Int32), un, un, un, un, un, un]) rfl ?_
  show Go p e below s Q 0 0 (T1.setTop (mkF m 12 #[vr q, vi (1 : Int32), un, un, un, un, un, un] []))
  have lp7 : ∀ (kg6 : Nat) (Tg6 : State) (hg6 : Heap) (Lgg6 : List Loc) (Xg6 : Stand p l e ({ frames := 3, cells := 0, slots := 0, locals := 44 } : Room) s m #[(.ref q)] below meth c Tg6 Lgg6 0 0) (eg6 : Tg6.heap = hg6) (Ng6 : Fr n0 Lgg6) (Kg6 : Keep h0 hg6 ([q, ss] ++ rowsOf kf jf)) (k12 : Int32) (hfg6_0 : Exa Z hg6 q cR) (hfg6_1 : Fld Z hg6 q cR "keys" "[[J" (.ref ks)) (hfg6_2 : Fld Z hg6 q cR "ids" "[[I" (.ref js)) (hfg6_3 : Fld Z hg6 q cR "sizes" "[I" (.ref ss)) (hfg6_4 : Fld Z hg6 q cR "size" "I" (.int sn)) (hfg6_5 : Fld Z hg6 q cR "last" "J" (.long la)) (hfg6_6 : RA Z hg6 ks .long kf) (hfg6_7 : RA Z hg6 js .int jf) (hfg6_8 : Vec Z hg6 ss .int (65 : Int32) (ints sz)) (hfg6_9 : RwJ Z hg6 kf KF) (hfg6_10 : RwI Z hg6 jf JF) (hpg6_0 : 1 ≤ k12.toInt ∧ k12.toInt ≤ bb.toInt), (bb.toInt - k12.toInt).toNat = kg6 → Go p e below s Q 0 0 (Tg6.setTop (mkF m 12 #[vr q, vi k12, un, un, un, un, un, un] [])) := by
    intro kg6
    induction kg6 using Nat.strongRecOn with
    | ind kg6 ihg6 =>
    intro Tg6 hg6 Lgg6 Xg6 eg6 Ng6 Kg6 k12 hfg6_0 hfg6_1 hfg6_2 hfg6_3 hfg6_4 hfg6_5 hfg6_6 hfg6_7 hfg6_8 hfg6_9 hfg6_10 hpg6_0 hkg6
    have f8 := rng32 k12
    show Go p e below s Q 0 0 (Tg6.setTop (mkF m 12 #[vr q, vi k12, un, un, un, un, un, un] []))
    refine gA Xg6 hx hby rfl d19_12 rfl rfl ?_
    obtain ⟨T9, X9, e9, st9⟩ := getF Xg6 hx hZ hown (host := "") (Or.inl (tb hw 25 rfl)) Via.refl eg6 hfg6_3 (g := (mkF m 13 #[vr q, vi k12, un, un, un, un, un, un] [(.ref q)])) rfl rfl (hb hby d19_13)
    refine Go.st st9 ?_
    refine gC X9 hx hby rfl d19_16 rfl ?_
    have f11 := liI_65
    have r12 : 0 ≤ k12.toInt := by omega
    have r13 : k12.toInt < (65 : Int32).toInt := by omega
    refine Go.st (Vec.ildI X9 hx hZ e9 hfg6_8 (j := k12) r12 r13 (g := (mkF m 17 #[vr q, vi k12, un, un, un, un, un, un] [(.int k12), (.ref ss)])) rfl rfl (hb hby d19_17)) ?_
    show Go p e below s Q 0 0 (T9.setTop (mkF m 18 #[vr q, vi k12, un, un, un, un, un, un] [(.int (sz k12.toInt.toNat))]))
    have hsk : (k12.toInt = bb.toInt ∧ (sz k12.toInt.toNat).toInt = 2) ∨ (¬ k12.toInt = bb.toInt ∧ (sz k12.toInt.toNat).toInt = 0) := by
      by_cases q : k12.toInt = bb.toInt
      · exact Or.inl ⟨q, by rw [q]; exact hone⟩
      · exact Or.inr ⟨q, hrest k12.toInt.toNat (by omega) (by omega)⟩
    have f14 := rng32 (sz k12.toInt.toNat)
    by_cases c15 : (sz k12.toInt.toNat).toInt = 0
    ·
      refine gN X9 hx hby rfl d19_18 rfl ((if0 _ _).trans (teq (eqI rfl liI_0 c15)).2) ?_
      refine gInc X9 hx hby rfl d19_21 rfl (l' := #[vr q, vi (k12 + (1 : Int32)), un, un, un, un, un, un]) rfl ?_
      show Go p e below s Q 0 0 (T9.setTop (mkF m 24 #[vr q, vi (k12 + (1 : Int32)), un, un, un, un, un, un] []))
      have f16 := liI_1
      have f17 := c_iadd k12 (1 : Int32)
      have f18 := rng32 (k12 + (1 : Int32))
      generalize hv_v19 : (k12 + (1 : Int32)) = v19 at f17 f18 ⊢
      refine gG X9 hx hby rfl (pc0 := 24) (pc' := 12) rfl d19_24 (by decide) (by decide) ?_
      show Go p e below s Q 0 0 (T9.setTop (mkF m 12 #[vr q, vi v19, un, un, un, un, un, un] []))
      exact ihg6 _ (by omega) T9 hg6 _ (up X9 (by decide) (by decide)) e9 Ng6 Kg6 v19 hfg6_0 hfg6_1 hfg6_2 hfg6_3 hfg6_4 hfg6_5 hfg6_6 hfg6_7 hfg6_8 hfg6_9 hfg6_10 (by omega) rfl
    ·
      refine gY X9 hx hby rfl (pc0 := 18) (pc' := 27) rfl d19_18 rfl ((if0 _ _).trans (feq (neI rfl liI_0 c15)).2) (by decide) (by decide) ?_
      show Go p e below s Q 0 0 (T9.setTop (mkF m 27 #[vr q, vi k12, un, un, un, un, un, un] []))
      have hkb : bb = k12 := eqI rfl rfl (by omega)
      subst hkb
      clear hsk
      show Go p e below s Q 0 0 (T9.setTop (mkF m 27 #[vr q, vi bb, un, un, un, un, un, un] []))
      refine gA X9 hx hby rfl d19_27 rfl rfl ?_
      obtain ⟨T20, X20, e20, st20⟩ := getF X9 hx hZ hown (host := "") (Or.inl (tb hw 18 rfl)) Via.refl e9 hfg6_1 (g := (mkF m 28 #[vr q, vi bb, un, un, un, un, un, un] [(.ref q)])) rfl rfl (hb hby d19_28)
      refine Go.st st20 ?_
      refine gC X20 hx hby rfl d19_31 rfl ?_
      have r22 : 0 ≤ bb.toInt := by omega
      have r23 : bb.toInt < 65 := by omega
      have hb24 : bb.toInt.toNat < 65 := by omega
      refine Go.st (RA.ild X20 hx hZ e20 hfg6_6 (j := bb) r22 r23 (g := (mkF m 32 #[vr q, vi bb, un, un, un, un, un, un] [(.int bb), (.ref ks)])) rfl rfl (hb hby d19_32)) ?_
      show Go p e below s Q 0 0 (T20.setTop (mkF m 33 #[vr q, vi bb, un, un, un, un, un, un] [(.ref (kf bb.toInt.toNat))]))
      obtain ⟨rw21, hr21⟩ : ∃ z, z = kf bb.toInt.toNat := ⟨_, rfl⟩
      rw [← hr21]
      have Grw21 : n0 ≤ rw21 := by rw [hr21]; exact (GR bb.toInt.toNat hb24).1
      have h25 : Vec Z hg6 rw21 .long (4 : Int32) (longs (KF bb.toInt.toNat)) := by rw [hr21]; exact hfg6_9 bb.toInt.toNat hb24
      show Go p e below s Q 0 0 (T20.setTop (mkF m 33 #[vr q, vi bb, un, un, un, un, un, un] [(.ref rw21)]))
      refine Go.st (fun _ k => XS.astoreN X20.here hx rfl (hb hby d19_33) rfl rfl (l' := #[vr q, vi bb, vr rw21, un, un, un, un, un]) rfl k) ?_
      refine gA X20 hx hby rfl d19_34 rfl rfl ?_
      obtain ⟨T26, X26, e26, st26⟩ := getF X20 hx hZ hown (host := "") (Or.inl (tb hw 22 rfl)) Via.refl e20 hfg6_2 (g := (mkF m 35 #[vr q, vi bb, vr rw21, un, un, un, un, un] [(.ref q)])) rfl rfl (hb hby d19_35)
      refine Go.st st26 ?_
      refine gC X26 hx hby rfl d19_38 rfl ?_
      have r28 : 0 ≤ bb.toInt := by omega
      have r29 : bb.toInt < 65 := by omega
      have hb30 : bb.toInt.toNat < 65 := by omega
      refine Go.st (RA.ild X26 hx hZ e26 hfg6_7 (j := bb) r28 r29 (g := (mkF m 39 #[vr q, vi bb, vr rw21, un, un, un, un, un] [(.int bb), (.ref js)])) rfl rfl (hb hby d19_39)) ?_
      show Go p e below s Q 0 0 (T26.setTop (mkF m 40 #[vr q, vi bb, vr rw21, un, un, un, un, un] [(.ref (jf bb.toInt.toNat))]))
      obtain ⟨rw27, hr27⟩ : ∃ z, z = jf bb.toInt.toNat := ⟨_, rfl⟩
      rw [← hr27]
      have Grw27 : n0 ≤ rw27 := by rw [hr27]; exact (GR bb.toInt.toNat hb30).2
      have h31 : Vec Z hg6 rw27 .int (4 : Int32) (ints (JF bb.toInt.toNat)) := by rw [hr27]; exact hfg6_10 bb.toInt.toNat hb30
      show Go p e below s Q 0 0 (T26.setTop (mkF m 40 #[vr q, vi bb, vr rw21, un, un, un, un, un] [(.ref rw27)]))
      refine Go.st (fun _ k => XS.astoreN X26.here hx rfl (hb hby d19_40) rfl rfl (l' := #[vr q, vi bb, vr rw21, vr rw27, un, un, un, un]) rfl k) ?_
      refine gA X26 hx hby rfl d19_41 rfl rfl ?_
      obtain ⟨T32, X32, e32, st32⟩ := getF X26 hx hZ hown (host := "") (Or.inl (tb hw 25 rfl)) Via.refl e26 hfg6_3 (g := (mkF m 42 #[vr q, vi bb, vr rw21, vr rw27, un, un, un, un] [(.ref q)])) rfl rfl (hb hby d19_42)
      refine Go.st st32 ?_
      refine gC X32 hx hby rfl d19_45 rfl ?_
      have r34 : 0 ≤ bb.toInt := by omega
      have r35 : bb.toInt < (65 : Int32).toInt := by omega
      refine Go.st (Vec.ildI X32 hx hZ e32 hfg6_8 (j := bb) r34 r35 (g := (mkF m 46 #[vr q, vi bb, vr rw21, vr rw27, un, un, un, un] [(.int bb), (.ref ss)])) rfl rfl (hb hby d19_46)) ?_
      refine gS X32 hx hby rfl d19_47 rfl (l' := #[vr q, vi bb, vr rw21, vr rw27, vi (sz bb.toInt.toNat), un, un, un]) rfl ?_
      show Go p e below s Q 0 0 (T32.setTop (mkF m 49 #[vr q, vi bb, vr rw21, vr rw27, vi (sz bb.toInt.toNat), un, un, un] []))
      generalize hv_v36 : (sz bb.toInt.toNat) = v36 at f14 ⊢
      have cs37 : v36.toInt = 2 := by rw [← hv_v36]; exact hone
      ·
        have cs37' : v36 = (2 : Int32) := eqI cs37 liI_2 rfl
        subst cs37'
        have f38 := liI_2
        show Go p e below s Q 0 0 (T32.setTop (mkF m 49 #[vr q, vi bb, vr rw21, vr rw27, vi (2 : Int32), un, un, un] []))
        refine gA X32 hx hby rfl d19_49 rfl rfl ?_
        refine gI X32 hx hby rfl d19_50 ?_
        refine Go.st (Vec.ildJ X32 hx hZ e32 h25 (j := (0 : Int32)) (by decide) (by decide) (g := (mkF m 51 #[vr q, vi bb, vr rw21, vr rw27, vi (2 : Int32), un, un, un] [(.int (0 : Int32)), (.ref rw21)])) rfl rfl (hb hby d19_51)) ?_
        refine gU X32 hx hby rfl d19_52 rfl (l' := #[vr q, vi bb, vr rw21, vr rw27, vi (2 : Int32), vj ((KF bb.toInt.toNat) 0), sd, un]) rfl ?_
        show Go p e below s Q 0 0 (T32.setTop (mkF m 54 #[vr q, vi bb, vr rw21, vr rw27, vi (2 : Int32), vj ((KF bb.toInt.toNat) 0), sd, un] []))
        have f40 := rng64 ((KF bb.toInt.toNat) 0)
        generalize hv_v41 : ((KF bb.toInt.toNat) 0) = v41 at f40 ⊢
        refine gI X32 hx hby rfl d19_54 ?_
        refine gS X32 hx hby rfl d19_55 rfl (l' := #[vr q, vi bb, vr rw21, vr rw27, vi (2 : Int32), vj v41, sd, vi (1 : Int32)]) rfl ?_
        show Go p e below s Q 0 0 (T32.setTop (mkF m 57 #[vr q, vi bb, vr rw21, vr rw27, vi (2 : Int32), vj v41, sd, vi (1 : Int32)] []))
        have hk0 : ((KF bb.toInt.toNat) 0).toInt = v41.toInt := congrArg Int64.toInt hv_v41
        refine gD X32 hx hby rfl d19_57 rfl ?_
        refine gD X32 hx hby rfl d19_59 rfl ?_
        refine gM X32 hx hby rfl d19_61 rfl (tlt (ltI liI_1 liI_2 (by decide))).2.1 ?_
        refine gF X32 hx hby rfl d19_64 rfl ?_
        refine gA X32 hx hby rfl d19_66 rfl rfl ?_
        refine gD X32 hx hby rfl d19_67 rfl ?_
        show Go p e below s Q 0 0 (T32.setTop (mkF m 69 #[vr q, vi bb, vr rw21, vr rw27, vi (2 : Int32), vj v41, sd, vi (1 : Int32)] [(.int (1 : Int32)), (.ref rw21), (.long v41)]))
        refine Go.st (Vec.ildJ X32 hx hZ e32 h25 (j := (1 : Int32)) (by decide) (by decide) (g := (mkF m 69 #[vr q, vi bb, vr rw21, vr rw27, vi (2 : Int32), vj v41, sd, vi (1 : Int32)] [(.int (1 : Int32)), (.ref rw21), (.long v41)])) rfl rfl (hb hby d19_69)) ?_
        have f44 := rng64 ((KF bb.toInt.toNat) 1)
        obtain ⟨_, _, ⟨T43, L43, k43, n43⟩, -, X43, ⟨Lc43, hQ43, l43, y43, z43⟩, st43⟩ := Jvm.LawKit.callS X32 hx (y := (⟨"java/lang/Math", "min", "(JJ)J"⟩ : MethodName)) hown (mvT hZ (tb hw 138 rfl)) (mvT hZ (tb hw 139 rfl)) (mvT hZ (tb hw 140 rfl)) (mvT hZ (tb hw 141 rfl)) (by decide) (backOf (W := 0) (rm20 l Z a0 hw [] v41 ((KF bb.toInt.toNat) 1) hg6 n0 (Nat.le_trans Z0 Kg6.1) ) hZ (tb hw 141 rfl) (tb hw 140 rfl) (by decide) (by decide)) (g := (mkF m 70 #[vr q, vi bb, vr rw21, vr rw27, vi (2 : Int32), vj v41, sd, vi (1 : Int32)] [(.long ((KF bb.toInt.toNat) 1)), (.long v41)])) rfl (by rw [hml]; rfl) (argsL := [(.long v41), (.long ((KF bb.toInt.toNat) 1))]) (rest := []) (lenOf pd_4 rfl) rfl (by show 2 * 0 + _ ≤ _; exact Nat.le_of_eq rfl) (hb hby d19_70) (fun _ _ => ⟨rfl, e32, (by decide : 0 + 0 ≤ _), (by decide : 0 + 0 ≤ _)⟩)
        dsimp only [Pt.U, Pt.locs, Pt.cells, Pt.slots] at X43 l43 y43 z43 st43 hQ43
        subst y43 z43
        obtain ⟨rr_45, rfl, N43q, f46, e43⟩ := hQ43
        have N43 : Fr n0 L43 := by rw [l43]; exact Fr.app Ng6 N43q
        refine Go.st st43 ?_
        show Go p e below s Q 0 0 (T43.setTop (mkF m 73 #[vr q, vi bb, vr rw21, vr rw27, vi (2 : Int32), vj v41, sd, vi (1 : Int32)] [(.long rr_45)]))
        have f47 := rng64 rr_45
        refine gU X43 hx hby rfl d19_73 rfl (l' := #[vr q, vi bb, vr rw21, vr rw27, vi (2 : Int32), vj rr_45, sd, vi (1 : Int32)]) rfl ?_
        refine gInc X43 hx hby rfl d19_75 rfl (l' := #[vr q, vi bb, vr rw21, vr rw27, vi (2 : Int32), vj rr_45, sd, vi (2 : Int32)]) rfl ?_
        refine gG X43 hx hby rfl (pc0 := 78) (pc' := 57) rfl d19_78 (by decide) (by decide) ?_
        show Go p e below s Q 0 0 (T43.setTop (mkF m 57 #[vr q, vi bb, vr rw21, vr rw27, vi (2 : Int32), vj rr_45, sd, vi (2 : Int32)] []))
        refine gD X43 hx hby rfl d19_57 rfl ?_
        refine gD X43 hx hby rfl d19_59 rfl ?_
        refine gZ X43 hx hby rfl (pc0 := 61) (pc' := 81) rfl d19_61 rfl (flt (nltI liI_2 liI_2 (by decide))).2.1 (by decide) (by decide) ?_
        show Go p e below s Q 0 0 (T43.setTop (mkF m 81 #[vr q, vi bb, vr rw21, vr rw27, vi (2 : Int32), vj rr_45, sd, vi (2 : Int32)] []))
        have hmn : rr_45.toInt = ((KF bb.toInt.toNat) 1).toInt := by omega
        clear f46
        refine gA X43 hx hby rfl d19_81 rfl rfl ?_
        refine gF X43 hx hby rfl d19_82 rfl ?_
        obtain ⟨T48, h48, X48, e48, W48, st48⟩ := putF X43 hx hZ hown (host := "") (Or.inl (tb hw 28 rfl)) Via.refl e43 hfg6_5 hfg6_0 (Or.inl (tb hw 29 rfl)) (tb hw 10 rfl) (ty := .long) (by decide) rfl rfl (g := (mkF m 84 #[vr q, vi bb, vr rw21, vr rw27, vi (2 : Int32), vj rr_45, sd, vi (2 : Int32)] [(.long rr_45), (.ref q)])) rfl rfl (hb hby d19_84)
        have h49 : Exa Z h48 q cR := hfg6_0.wr W48
        have h50 : Fld Z h48 q cR "keys" "[[J" (.ref ks) := hfg6_1.other W48 (Or.inr (ndq (sl_0 hw) 0 3 rfl))
        have h51 : Fld Z h48 q cR "ids" "[[I" (.ref js) := hfg6_2.other W48 (Or.inr (ndq (sl_0 hw) 1 3 rfl))
        have h52 : Fld Z h48 q cR "sizes" "[I" (.ref ss) := hfg6_3.other W48 (Or.inr (ndq (sl_0 hw) 2 3 rfl))
        have h53 : Fld Z h48 q cR "size" "I" (.int sn) := hfg6_4.other W48 (Or.inr (ndq (sl_0 hw) 4 3 rfl))
        have h54 : Fld Z h48 q cR "last" "J" (.long rr_45) := hfg6_5.same W48
        have h55 : RA Z h48 ks .long kf := hfg6_6.other W48 n_ks_q
        have h56 : RA Z h48 js .int jf := hfg6_7.other W48 n_js_q
        have h57 : Vec Z h48 ss .int (65 : Int32) (ints sz) := hfg6_8.other W48 (Ne.symm n_q_ss)
        have h58 : RwJ Z h48 kf KF := RwJ.other W48 hfg6_9 (fun b hb => (N_q b hb).1)
        have h59 : RwI Z h48 jf JF := RwI.other W48 hfg6_10 (fun b hb => (N_q b hb).2)
        have h60 : Vec Z h48 rw21 .long (4 : Int32) (longs (KF bb.toInt.toNat)) := h25.other W48 (Ne.symm (nr_k N_q hb24 hr21))
        have h61 : Vec Z h48 rw27 .int (4 : Int32) (ints (JF bb.toInt.toNat)) := h31.other W48 (Ne.symm (nr_j N_q hb30 hr27))
        have K48 : Keep h0 h48 ([q, ss] ++ rowsOf kf jf) := Kg6.wr W48 (Or.inl (List.mem_append_left _ (List.mem_of_getElem? (i := 0) rfl)))
        have N48 := Fr.snoc X48 N43 G_q
        refine Go.st st48 ?_
        show Go p e below s Q 0 0 (T48.setTop (mkF m 87 #[vr q, vi bb, vr rw21, vr rw27, vi (2 : Int32), vj rr_45, sd, vi (2 : Int32)] []))
        refine gA X48 hx hby rfl d19_87 rfl rfl ?_
        obtain ⟨T62, X62, e62, st62⟩ := getF X48 hx hZ hown (host := "") (Or.inl (tb hw 25 rfl)) Via.refl e48 h52 (g := (mkF m 88 #[vr q, vi bb, vr rw21, vr rw27, vi (2 : Int32), vj rr_45, sd, vi (2 : Int32)] [(.ref q)])) rfl rfl (hb hby d19_88)
        refine Go.st st62 ?_
        refine gC X62 hx hby rfl d19_91 rfl ?_
        refine gI X62 hx hby rfl d19_92 ?_
        have r64 : 0 ≤ bb.toInt := by omega
        have r65 : bb.toInt < (65 : Int32).toInt := by omega
        obtain ⟨T63, h63, X63, e63, W63, V63, st63⟩ := Vec.istI X62 hx hZ e62 h57 (j := bb) r64 r65 (g := (mkF m 93 #[vr q, vi bb, vr rw21, vr rw27, vi (2 : Int32), vj rr_45, sd, vi (2 : Int32)] [(.int (0 : Int32)), (.int bb), (.ref ss)])) rfl rfl (hb hby d19_93)
        have h66 : Exa Z h63 q cR := h49.wr W63
        have h67 : Fld Z h63 q cR "keys" "[[J" (.ref ks) := h50.other W63 (Or.inl n_q_ss)
        have h68 : Fld Z h63 q cR "ids" "[[I" (.ref js) := h51.other W63 (Or.inl n_q_ss)
        have h69 : Fld Z h63 q cR "sizes" "[I" (.ref ss) := h52.other W63 (Or.inl n_q_ss)
        have h70 : Fld Z h63 q cR "size" "I" (.int sn) := h53.other W63 (Or.inl n_q_ss)
        have h71 : Fld Z h63 q cR "last" "J" (.long rr_45) := h54.other W63 (Or.inl n_q_ss)
        have h72 : RA Z h63 ks .long kf := h55.other W63 n_ks_ss
        have h73 : RA Z h63 js .int jf := h56.other W63 n_js_ss
        have h74 : Vec Z h63 ss .int (65 : Int32) (ints (updF sz bb.toInt.toNat (0 : Int32))) := V63
        have h75 : RwJ Z h63 kf KF := RwJ.other W63 h58 (fun b hb => (N_ss b hb).1)
        have h76 : RwI Z h63 jf JF := RwI.other W63 h59 (fun b hb => (N_ss b hb).2)
        have h77 : Vec Z h63 rw21 .long (4 : Int32) (longs (KF bb.toInt.toNat)) := h60.other W63 (Ne.symm (nr_k N_ss hb24 hr21))
        have h78 : Vec Z h63 rw27 .int (4 : Int32) (ints (JF bb.toInt.toNat)) := h61.other W63 (Ne.symm (nr_j N_ss hb30 hr27))
        have K63 : Keep h0 h63 ([q, ss] ++ rowsOf kf jf) := K48.wr W63 (Or.inl (List.mem_append_left _ (List.mem_of_getElem? (i := 1) rfl)))
        have N63 := Fr.snoc X63 N48 G_s
        refine Go.st st63 ?_
        show Go p e below s Q 0 0 (T63.setTop (mkF m 94 #[vr q, vi bb, vr rw21, vr rw27, vi (2 : Int32), vj rr_45, sd, vi (2 : Int32)] []))
        refine gI X63 hx hby rfl d19_94 ?_
        refine gS X63 hx hby rfl d19_95 rfl (l' := #[vr q, vi bb, vr rw21, vr rw27, vi (2 : Int32), vj rr_45, sd, vi (0 : Int32)]) rfl ?_
        refine gD X63 hx hby rfl d19_97 rfl ?_
        refine gD X63 hx hby rfl d19_99 rfl ?_
        refine gM X63 hx hby rfl d19_101 rfl (tlt (ltI liI_0 liI_2 (by decide))).2.1 ?_
        show Go p e below s Q 0 0 (T63.setTop (mkF m 104 #[vr q, vi bb, vr rw21, vr rw27, vi (2 : Int32), vj rr_45, sd, vi (0 : Int32)] []))
        refine gA X63 hx hby rfl d19_104 rfl rfl ?_
        refine gA X63 hx hby rfl d19_105 rfl rfl ?_
        refine gA X63 hx hby rfl d19_106 rfl rfl ?_
        refine gD X63 hx hby rfl d19_107 rfl ?_
        refine Go.st (Vec.ildJ X63 hx hZ e63 h77 (j := (0 : Int32)) (by decide) (by decide) (g := (mkF m 109 #[vr q, vi bb, vr rw21, vr rw27, vi (2 : Int32), vj rr_45, sd, vi (0 : Int32)] [(.int (0 : Int32)), (.ref rw21), (.ref q), (.ref q)])) rfl rfl (hb hby d19_109)) ?_
        have f81 := rng64 ((KF bb.toInt.toNat) 0)
        obtain ⟨cq80, q80, q80'⟩ := h66.cell
        have pv80 := Cond.privateMethod_at (mvP hZ (tb hw 105 rfl) (args := #[]))
        obtain ⟨_, _, ⟨T80, L80, k80, n80⟩, -, X80, ⟨Lc80, hQ80, l80, y80, z80⟩, st80⟩ := X63.privateBack hx (y := (⟨cR, "bucketOf", "(J)I"⟩ : MethodName)) hown (mvT hZ (tb hw 103 rfl)) (mvT hZ (tb hw 104 rfl)) (self_sel (mvT hZ (args := #[]) (tb hw 64 rfl)) rfl pv80 (mvT hZ (tb hw 104 rfl)) (by decide)) pv80 (mvT hZ (tb hw 106 rfl)) (by decide) (backOf (W := 1) (rm12 l Z a0 hw [] q ((KF bb.toInt.toNat) 0) rr_45 h63 n0 (Nat.le_trans Z0 K63.1) h66 h71) hZ (tb hw 106 rfl) (tb hw 11 rfl) (by decide) (by decide)) (g := (mkF m 110 #[vr q, vi bb, vr rw21, vr rw27, vi (2 : Int32), vj rr_45, sd, vi (0 : Int32)] [(.long ((KF bb.toInt.toNat) 0)), (.ref q), (.ref q)])) rfl (by rw [hml]; rfl) (Steps.refl _) (a := q) (by rw [e63]; exact q80) q80' (argsL := [(.long ((KF bb.toInt.toNat) 0))]) (rest := [(.ref q)]) (lenOf pd_1 rfl) rfl (by show 2 * 0 + _ ≤ _; exact Nat.le_of_eq rfl) (hb hby d19_110) (fun _ _ => ⟨rfl, e63, (by decide : 0 + 0 ≤ _), (by decide : 0 + 0 ≤ _)⟩)
        dsimp only [Pt.U, Pt.locs, Pt.cells, Pt.slots] at X80 l80 y80 z80 st80 hQ80
        subst y80 z80
        obtain ⟨rr_82, rfl, N80q, f83, f84, f85, e80⟩ := hQ80
        have N80 : Fr n0 L80 := by rw [l80]; exact Fr.app N63 N80q
        refine Go.tr  st80 ?_
        show Go p e below s Q 0 0 (T80.setTop (mkF m 113 #[vr q, vi bb, vr rw21, vr rw27, vi (2 : Int32), vj rr_45, sd, vi (0 : Int32)] [(.int rr_82), (.ref q)]))
        have f86 := rng32 rr_82
        have hrr : 1 ≤ rr_82.toInt ∧ rr_82.toInt ≤ 63 := by omega
        clear f83 f84 f85
        refine gA X80 hx hby rfl d19_113 rfl rfl ?_
        refine gD X80 hx hby rfl d19_114 rfl ?_
        refine Go.st (Vec.ildJ X80 hx hZ e80 h77 (j := (0 : Int32)) (by decide) (by decide) (g := (mkF m 116 #[vr q, vi bb, vr rw21, vr rw27, vi (2 : Int32), vj rr_45, sd, vi (0 : Int32)] [(.int (0 : Int32)), (.ref rw21), (.int rr_82), (.ref q)])) rfl rfl (hb hby d19_116)) ?_
        refine gA X80 hx hby rfl d19_117 rfl rfl ?_
        refine gD X80 hx hby rfl d19_118 rfl ?_
        refine Go.st (Vec.ildI X80 hx hZ e80 h78 (j := (0 : Int32)) (by decide) (by decide) (g := (mkF m 120 #[vr q, vi bb, vr rw21, vr rw27, vi (2 : Int32), vj rr_45, sd, vi (0 : Int32)] [(.int (0 : Int32)), (.ref rw27), (.long ((KF bb.toInt.toNat) 0)), (.int rr_82), (.ref q)])) rfl rfl (hb hby d19_120)) ?_
        show Go p e below s Q 0 0 (T80.setTop (mkF m 121 #[vr q, vi bb, vr rw21, vr rw27, vi (2 : Int32), vj rr_45, sd, vi (0 : Int32)] [(.int ((JF bb.toInt.toNat) 0)), (.long ((KF bb.toInt.toNat) 0)), (.int rr_82), (.ref q)]))
        have f90 := rng32 sn
        have f91 := rng32 ((JF bb.toInt.toNat) 0)
        have p92 : 0 ≤ rr_82.toInt ∧ rr_82.toInt < 65 := by omega
        obtain ⟨cq89, q89, q89'⟩ := h66.cell
        have pv89 := Cond.privateMethod_at (mvP hZ (tb hw 117 rfl) (args := #[]))
        obtain ⟨_, _, ⟨T89, L89, k89, n89⟩, -, X89, ⟨Lc89, hQ89, l89, y89, z89⟩, st89⟩ := X80.privateBack hx (y := (⟨cR, "add", "(IJI)V"⟩ : MethodName)) hown (mvT hZ (tb hw 115 rfl)) (mvT hZ (tb hw 116 rfl)) (self_sel (mvT hZ (args := #[]) (tb hw 64 rfl)) rfl pv89 (mvT hZ (tb hw 116 rfl)) (by decide)) pv89 (mvT hZ (tb hw 118 rfl)) (by decide) (backOf (W := 0) (rm15 l Z a0 hw [] q rr_82 ((KF bb.toInt.toNat) 0) ((JF bb.toInt.toNat) 0) ks js ss kf jf (updF sz bb.toInt.toNat (0 : Int32)) KF JF sn rr_45 h63 n0 (Nat.le_trans Z0 K63.1) h66 h67 h68 h69 h70 h71 h72 h73 h74 h75 h76 Ik Ij GR G_q G_s N_q N_ks N_js N_ss n_q_ss n_ks_ss n_js_ss n_ks_q n_js_q p92 (ct_u hrest (x := rr_82.toInt.toNat) (by first | decide | omega))) hZ (tb hw 118 rfl) (tb hw 11 rfl) (by decide) (by decide)) (g := (mkF m 121 #[vr q, vi bb, vr rw21, vr rw27, vi (2 : Int32), vj rr_45, sd, vi (0 : Int32)] [(.int ((JF bb.toInt.toNat) 0)), (.long ((KF bb.toInt.toNat) 0)), (.int rr_82), (.ref q)])) rfl (by rw [hml]; rfl) (Steps.refl _) (a := q) (by rw [e80]; exact q89) q89' (argsL := [(.int rr_82), (.long ((KF bb.toInt.toNat) 0)), (.int ((JF bb.toInt.toNat) 0))]) (rest := []) (lenOf pd_3 rfl) rfl (by show 2 * 0 + _ ≤ _; exact Nat.le_of_eq rfl) (hb hby d19_121) (fun _ _ => ⟨rfl, e80, (by decide : 0 + 0 ≤ _), (by decide : 0 + 0 ≤ _)⟩)
        dsimp only [Pt.U, Pt.locs, Pt.cells, Pt.slots] at X89 l89 y89 z89 st89 hQ89
        subst y89 z89
        obtain ⟨rfl, N89q, K89q, h93, h94, h95, h96, h97, h98, h99, h100, h101, h102, h103⟩ := hQ89
        have N89 : Fr n0 L89 := by rw [l89]; exact Fr.app N80 N89q
        have K89 : Keep h0 T89.heap ([q, ss] ++ rowsOf kf jf) := K63.trans K89q (fun x hx => (fun x hx => (List.mem_append.mp hx).elim ((show ∀ x ∈ ([ss] : List Addr), x ∈ (([q, ss] ++ rowsOf kf jf) : List Addr) ∨ h0.size ≤ x from (allS (Or.inl (List.mem_append_left _ (List.mem_of_getElem? (i := 1) rfl))) all0)) x) (fun q => Or.inl (List.mem_append_right _ q))) x hx)
        refine Go.tr  st89 ?_
        show Go p e below s Q 0 0 (T89.setTop (mkF m 124 #[vr q, vi bb, vr rw21, vr rw27, vi (2 : Int32), vj rr_45, sd, vi (0 : Int32)] []))
        refine gInc X89 hx hby rfl d19_124 rfl (l' := #[vr q, vi bb, vr rw21, vr rw27, vi (2 : Int32), vj rr_45, sd, vi (1 : Int32)]) rfl ?_
        refine gG X89 hx hby rfl (pc0 := 127) (pc' := 97) rfl d19_127 (by decide) (by decide) ?_
        refine gD X89 hx hby rfl d19_97 rfl ?_
        refine gD X89 hx hby rfl d19_99 rfl ?_
        refine gM X89 hx hby rfl d19_101 rfl (tlt (ltI liI_1 liI_2 (by decide))).2.1 ?_
        show Go p e below s Q 0 0 (T89.setTop (mkF m 104 #[vr q, vi bb, vr rw21, vr rw27, vi (2 : Int32), vj rr_45, sd, vi (1 : Int32)] []))
        have h104 : Vec Z T89.heap rw21 .long (4 : Int32) (longs (KF bb.toInt.toNat)) := by have q := h102 bb.toInt.toNat hb24; rw [upd_ne _ _ (by first | omega | (show bb.toInt.toNat ≠ 0; omega))] at q; rw [hr21]; exact q
        have h105 : Vec Z T89.heap rw27 .int (4 : Int32) (ints (JF bb.toInt.toNat)) := by have q := h103 bb.toInt.toNat hb30; rw [upd_ne _ _ (by first | omega | (show bb.toInt.toNat ≠ 0; omega))] at q; rw [hr27]; exact q
        refine gA X89 hx hby rfl d19_104 rfl rfl ?_
        refine gA X89 hx hby rfl d19_105 rfl rfl ?_
        refine gA X89 hx hby rfl d19_106 rfl rfl ?_
        refine gD X89 hx hby rfl d19_107 rfl ?_
        refine Go.st (Vec.ildJ X89 hx hZ rfl h104 (j := (1 : Int32)) (by decide) (by decide) (g := (mkF m 109 #[vr q, vi bb, vr rw21, vr rw27, vi (2 : Int32), vj rr_45, sd, vi (1 : Int32)] [(.int (1 : Int32)), (.ref rw21), (.ref q), (.ref q)])) rfl rfl (hb hby d19_109)) ?_
        obtain ⟨cq107, q107, q107'⟩ := h93.cell
        have pv107 := Cond.privateMethod_at (mvP hZ (tb hw 105 rfl) (args := #[]))
        obtain ⟨_, _, ⟨T107, L107, k107, n107⟩, -, X107, ⟨Lc107, hQ107, l107, y107, z107⟩, st107⟩ := X89.privateBack hx (y := (⟨cR, "bucketOf", "(J)I"⟩ : MethodName)) hown (mvT hZ (tb hw 103 rfl)) (mvT hZ (tb hw 104 rfl)) (self_sel (mvT hZ (args := #[]) (tb hw 64 rfl)) rfl pv107 (mvT hZ (tb hw 104 rfl)) (by decide)) pv107 (mvT hZ (tb hw 106 rfl)) (by decide) (backOf (W := 1) (rm12 l Z a0 hw [] q ((KF bb.toInt.toNat) 1) rr_45 T89.heap n0 (Nat.le_trans Z0 K89.1) h93 h98) hZ (tb hw 106 rfl) (tb hw 11 rfl) (by decide) (by decide)) (g := (mkF m 110 #[vr q, vi bb, vr rw21, vr rw27, vi (2 : Int32), vj rr_45, sd, vi (1 : Int32)] [(.long ((KF bb.toInt.toNat) 1)), (.ref q), (.ref q)])) rfl (by rw [hml]; rfl) (Steps.refl _) (a := q) q107 q107' (argsL := [(.long ((KF bb.toInt.toNat) 1))]) (rest := [(.ref q)]) (lenOf pd_1 rfl) rfl (by show 2 * 0 + _ ≤ _; exact Nat.le_of_eq rfl) (hb hby d19_110) (fun _ _ => ⟨rfl, rfl, (by decide : 0 + 0 ≤ _), (by decide : 0 + 0 ≤ _)⟩)
        dsimp only [Pt.U, Pt.locs, Pt.cells, Pt.slots] at X107 l107 y107 z107 st107 hQ107
        subst y107 z107
        obtain ⟨rr_108, rfl, N107q, f109, f110, f111, e107⟩ := hQ107
        have N107 : Fr n0 L107 := by rw [l107]; exact Fr.app N89 N107q
        refine Go.tr  st107 ?_
        show Go p e below s Q 0 0 (T107.setTop (mkF m 113 #[vr q, vi bb, vr rw21, vr rw27, vi (2 : Int32), vj rr_45, sd, vi (1 : Int32)] [(.int rr_108), (.ref q)]))
        have f112 := rng32 rr_108
        have cs113 : rr_108.toInt = 0 := by omega
        ·
          have cs113' : rr_108 = (0 : Int32) := eqI cs113 liI_0 rfl
          subst cs113'
          show Go p e below s Q 0 0 (T107.setTop (mkF m 113 #[vr q, vi bb, vr rw21, vr rw27, vi (2 : Int32), vj rr_45, sd, vi (1 : Int32)] [(.int (0 : Int32)), (.ref q)]))
          clear f109 f110 f111
          refine gA X107 hx hby rfl d19_113 rfl rfl ?_
          refine gD X107 hx hby rfl d19_114 rfl ?_
          refine Go.st (Vec.ildJ X107 hx hZ e107 h104 (j := (1 : Int32)) (by decide) (by decide) (g := (mkF m 116 #[vr q, vi bb, vr rw21, vr rw27, vi (2 : Int32), vj rr_45, sd, vi (1 : Int32)] [(.int (1 : Int32)), (.ref rw21), (.int (0 : Int32)), (.ref q)])) rfl rfl (hb hby d19_116)) ?_
          refine gA X107 hx hby rfl d19_117 rfl rfl ?_
          refine gD X107 hx hby rfl d19_118 rfl ?_
          refine Go.st (Vec.ildI X107 hx hZ e107 h105 (j := (1 : Int32)) (by decide) (by decide) (g := (mkF m 120 #[vr q, vi bb, vr rw21, vr rw27, vi (2 : Int32), vj rr_45, sd, vi (1 : Int32)] [(.int (1 : Int32)), (.ref rw27), (.long ((KF bb.toInt.toNat) 1)), (.int (0 : Int32)), (.ref q)])) rfl rfl (hb hby d19_120)) ?_
          show Go p e below s Q 0 0 (T107.setTop (mkF m 121 #[vr q, vi bb, vr rw21, vr rw27, vi (2 : Int32), vj rr_45, sd, vi (1 : Int32)] [(.int ((JF bb.toInt.toNat) 1)), (.long ((KF bb.toInt.toNat) 1)), (.int (0 : Int32)), (.ref q)]))
          have f117 := rng32 ((JF bb.toInt.toNat) 1)
          have p118 : 0 ≤ (0 : Int32).toInt ∧ (0 : Int32).toInt < 65 := by omega
          obtain ⟨cq116, q116, q116'⟩ := h93.cell
          have pv116 := Cond.privateMethod_at (mvP hZ (tb hw 117 rfl) (args := #[]))
          obtain ⟨_, _, ⟨T116, L116, k116, n116⟩, -, X116, ⟨Lc116, hQ116, l116, y116, z116⟩, st116⟩ := X107.privateBack hx (y := (⟨cR, "add", "(IJI)V"⟩ : MethodName)) hown (mvT hZ (tb hw 115 rfl)) (mvT hZ (tb hw 116 rfl)) (self_sel (mvT hZ (args := #[]) (tb hw 64 rfl)) rfl pv116 (mvT hZ (tb hw 116 rfl)) (by decide)) pv116 (mvT hZ (tb hw 118 rfl)) (by decide) (backOf (W := 0) (rm15 l Z a0 hw [] q (0 : Int32) ((KF bb.toInt.toNat) 1) ((JF bb.toInt.toNat) 1) ks js ss kf jf (updF (updF sz bb.toInt.toNat (0 : Int32)) rr_82.toInt.toNat (((updF sz bb.toInt.toNat (0 : Int32)) rr_82.toInt.toNat) + (1 : Int32))) (updF KF rr_82.toInt.toNat (updF (KF rr_82.toInt.toNat) ((updF sz bb.toInt.toNat (0 : Int32)) rr_82.toInt.toNat).toInt.toNat ((KF bb.toInt.toNat) 0))) (updF JF rr_82.toInt.toNat (updF (JF rr_82.toInt.toNat) ((updF sz bb.toInt.toNat (0 : Int32)) rr_82.toInt.toNat).toInt.toNat ((JF bb.toInt.toNat) 0))) sn rr_45 T89.heap n0 (Nat.le_trans Z0 K89.1) h93 h94 h95 h96 h97 h98 h99 h100 h101 h102 h103 Ik Ij GR G_q G_s N_q N_ks N_js N_ss n_q_ss n_ks_ss n_js_ss n_ks_q n_js_q p118 (ct_o hrest (x := rr_82.toInt.toNat) (y := 0) (by first | decide | omega) (by first | decide | omega))) hZ (tb hw 118 rfl) (tb hw 11 rfl) (by decide) (by decide)) (g := (mkF m 121 #[vr q, vi bb, vr rw21, vr rw27, vi (2 : Int32), vj rr_45, sd, vi (1 : Int32)] [(.int ((JF bb.toInt.toNat) 1)), (.long ((KF bb.toInt.toNat) 1)), (.int (0 : Int32)), (.ref q)])) rfl (by rw [hml]; rfl) (Steps.refl _) (a := q) (by rw [e107]; exact q116) q116' (argsL := [(.int (0 : Int32)), (.long ((KF bb.toInt.toNat) 1)), (.int ((JF bb.toInt.toNat) 1))]) (rest := []) (lenOf pd_3 rfl) rfl (by show 2 * 0 + _ ≤ _; exact Nat.le_of_eq rfl) (hb hby d19_121) (fun _ _ => ⟨rfl, e107, (by decide : 0 + 0 ≤ _), (by decide : 0 + 0 ≤ _)⟩)
          dsimp only [Pt.U, Pt.locs, Pt.cells, Pt.slots] at X116 l116 y116 z116 st116 hQ116
          subst y116 z116
          obtain ⟨rfl, N116q, K116q, h119, h120, h121, h122, h123, h124, h125, h126, h127, h128, h129⟩ := hQ116
          have N116 : Fr n0 L116 := by rw [l116]; exact Fr.app N107 N116q
          have K116 : Keep h0 T116.heap ([q, ss] ++ rowsOf kf jf) := K89.trans K116q (fun x hx => (fun x hx => (List.mem_append.mp hx).elim ((show ∀ x ∈ ([ss] : List Addr), x ∈ (([q, ss] ++ rowsOf kf jf) : List Addr) ∨ h0.size ≤ x from (allS (Or.inl (List.mem_append_left _ (List.mem_of_getElem? (i := 1) rfl))) all0)) x) (fun q => Or.inl (List.mem_append_right _ q))) x hx)
          refine Go.tr  st116 ?_
          show Go p e below s Q 0 0 (T116.setTop (mkF m 124 #[vr q, vi bb, vr rw21, vr rw27, vi (2 : Int32), vj rr_45, sd, vi (1 : Int32)] []))
          refine gInc X116 hx hby rfl d19_124 rfl (l' := #[vr q, vi bb, vr rw21, vr rw27, vi (2 : Int32), vj rr_45, sd, vi (2 : Int32)]) rfl ?_
          refine gG X116 hx hby rfl (pc0 := 127) (pc' := 97) rfl d19_127 (by decide) (by decide) ?_
          refine gD X116 hx hby rfl d19_97 rfl ?_
          refine gD X116 hx hby rfl d19_99 rfl ?_
          refine gZ X116 hx hby rfl (pc0 := 101) (pc' := 130) rfl d19_101 rfl (flt (nltI liI_2 liI_2 (by decide))).2.1 (by decide) (by decide) ?_
          show Go p e below s Q 0 0 (T116.setTop (mkF m 130 #[vr q, vi bb, vr rw21, vr rw27, vi (2 : Int32), vj rr_45, sd, vi (2 : Int32)] []))
          exact Go.retV X116 hx hlk Bd.returns (hb hby d19_130) (by rw [← hQ]; exact ⟨(updF (updF (updF sz bb.toInt.toNat (0 : Int32)) rr_82.toInt.toNat (((updF sz bb.toInt.toNat (0 : Int32)) rr_82.toInt.toNat) + (1 : Int32))) (0 : Int32).toInt.toNat (((updF (updF sz bb.toInt.toNat (0 : Int32)) rr_82.toInt.toNat (((updF sz bb.toInt.toNat (0 : Int32)) rr_82.toInt.toNat) + (1 : Int32))) (0 : Int32).toInt.toNat) + (1 : Int32))), (updF (updF KF rr_82.toInt.toNat (updF (KF rr_82.toInt.toNat) ((updF sz bb.toInt.toNat (0 : Int32)) rr_82.toInt.toNat).toInt.toNat ((KF bb.toInt.toNat) 0))) (0 : Int32).toInt.toNat (updF ((updF KF rr_82.toInt.toNat (updF (KF rr_82.toInt.toNat) ((updF sz bb.toInt.toNat (0 : Int32)) rr_82.toInt.toNat).toInt.toNat ((KF bb.toInt.toNat) 0))) (0 : Int32).toInt.toNat) ((updF (updF sz bb.toInt.toNat (0 : Int32)) rr_82.toInt.toNat (((updF sz bb.toInt.toNat (0 : Int32)) rr_82.toInt.toNat) + (1 : Int32))) (0 : Int32).toInt.toNat).toInt.toNat ((KF bb.toInt.toNat) 1))), (updF (updF JF rr_82.toInt.toNat (updF (JF rr_82.toInt.toNat) ((updF sz bb.toInt.toNat (0 : Int32)) rr_82.toInt.toNat).toInt.toNat ((JF bb.toInt.toNat) 0))) (0 : Int32).toInt.toNat (updF ((updF JF rr_82.toInt.toNat (updF (JF rr_82.toInt.toNat) ((updF sz bb.toInt.toNat (0 : Int32)) rr_82.toInt.toNat).toInt.toNat ((JF bb.toInt.toNat) 0))) (0 : Int32).toInt.toNat) ((updF (updF sz bb.toInt.toNat (0 : Int32)) rr_82.toInt.toNat (((updF sz bb.toInt.toNat (0 : Int32)) rr_82.toInt.toNat) + (1 : Int32))) (0 : Int32).toInt.toNat).toInt.toNat ((JF bb.toInt.toNat) 1))), rr_45, rr_82, rfl, N116, (by exact hrr), (by exact par_s hrest (x := rr_82.toInt.toNat) (y := 0) (by first | decide | omega) (by first | decide | omega) (by omega)), (by exact par_k hrest (x := rr_82.toInt.toNat) (y := 0) (by first | decide | omega) (by first | decide | omega) (by omega)), (by exact par_k hrest (x := rr_82.toInt.toNat) (y := 0) (by first | decide | omega) (by first | decide | omega) (by omega)), (by exact hmn), K116, h119, h120, h121, h122, h123, h124, h125, h126, h127, h128, h129⟩) (by decide) (by decide)
  have f130 := liI_1
  exact lp7 _ T1 h0 _ (up X1 (by decide) (by decide)) e1 N0 K0 (1 : Int32) E_q F_k F_i F_s F_n F_l A_k A_j V_s W_k W_j (by omega) rfl
theorem d18_0 : decode kc18 0 = .ok (.aload_n 0, 1) := by decide +kernel
theorem pd_5 : parseMethodDescriptor "()V" = some ⟨[], none⟩ := by decide +kernel
theorem d18_1 : decode kc18 1 = .ok (.invokevirtual 50, 3) := by decide +kernel
theorem d18_4 : decode kc18 4 = .ok (.aload_n 0, 1) := by decide +kernel
theorem d18_5 : decode kc18 5 = .ok (.getfield 11, 3) := by decide +kernel
theorem d18_8 : decode kc18 8 = .ok (.iconst 0, 1) := by decide +kernel
theorem d18_9 : decode kc18 9 = .ok (.aaload, 1) := by decide +kernel
theorem d18_10 : decode kc18 10 = .ok (.aload_n 0, 1) := by decide +kernel
theorem d18_11 : decode kc18 11 = .ok (.getfield 21, 3) := by decide +kernel
theorem d18_14 : decode kc18 14 = .ok (.iconst 0, 1) := by decide +kernel
theorem d18_15 : decode kc18 15 = .ok (.iaload, 1) := by decide +kernel
theorem d18_16 : decode kc18 16 = .ok (.iconst 1, 1) := by decide +kernel
theorem d18_17 : decode kc18 17 = .ok (.isub, 1) := by decide +kernel
theorem d18_18 : decode kc18 18 = .ok (.laload, 1) := by decide +kernel
theorem d18_19 : decode kc18 19 = .ok (.lreturn, 1) := by decide +kernel
theorem ef_rmk0 (m : MethodId) (q : Addr) : entryFrame m #[(.ref q)] 1 = mkF m 0 #[vr q] [] := by first | (simp [entryFrame, mkF, argsToLocals, Value.category]; done) | rfl
def Qk0 (Z : State) (q ks ss : Addr) (kf : Nat → Addr) (sz : Nat → Int32) (KF : Nat → Nat → Int64) (h0 : Heap) (n0 : Nat) (vv : Option Value) (h : Heap) (LL : List Loc) : Prop := ∃ (rr : Int64), vv = some (.long rr) ∧ Fr n0 LL ∧ (rr = KF 0 ((sz 0).toInt.toNat - 1)) ∧ h = h0
set_option maxRecDepth 65536 in
set_option maxHeartbeats 40000000 in
theorem rmk0 (l : Launch) (Z : State) (a0 : Array Value) (hw : ∀ d ∈ tables_1, d.before a0 Z = true) (ws : List Jvm.Cond) (q ks ss : Addr) (kf : Nat → Addr) (sz : Nat → Int32) (KF : Nat → Nat → Int64) (h0 : Heap) (n0 : Nat) (Z0 : n0 ≤ h0.size) (E_q : Exa Z h0 q cR) (F_k : Fld Z h0 q cR "keys" "[[J" (.ref ks)) (F_s : Fld Z h0 q cR "sizes" "[I" (.ref ss)) (A_k : RA Z h0 ks .long kf) (V_s : Vec Z h0 ss .int (65 : Int32) (ints sz)) (W_k : RwJ Z h0 kf KF) (hz0 : 0 < (sz 0).toInt ∧ (sz 0).toInt ≤ 4) :
    MetFree l (⟨cR, "topKey", "()J"⟩ : MethodName) (head1 (Jvm.Cond.code (⟨cR, "topKey", "()J"⟩ : MethodName) kc18 1 (some .long) :: ws) ({ frames := 1, cells := 0, slots := 0, locals := 19 } : Room)) (fun aa UU => aa = #[(.ref q)] ∧ Z.Warmed39 UU.vm ∧ UU.heap = h0) (fun _ _ _ _ _ => True) (fun _ UU oo UU' => ∃ vv LL, oo = .returned vv ∧ Qk0 Z q ks ss kf sz KF h0 n0 vv UU'.heap LL ∧ FrameEnd UU oo UU' LL 0 0) := by
  refine MetFree.of_bodySF (plainFor_of_name pn_2) hisR ?_
  intro p e s m args below meth c s₁ Bd hml0 hP hK
  obtain ⟨rfl, hZ, hh⟩ := hP
  have hx := Bd.exec
  have hby := Bd.bytes
  have hlk : meth.locks = false := BodyLoose.notSynchronized Bd
  have hml : c.maxLocals = 1 := hml0
  have hown : s.vm.findClass cR = some m.cls := findClass_of_methodNamed Bd.named
  have hnm := (name_of_methodNamed Bd.named Bd.method).1
  have X0 : Stand p l e ({ frames := 1, cells := 0, slots := 0, locals := 19 } : Room) s m #[(.ref q)] below meth c s₁ [] 0 0 := Stand.of_body Bd
  have e0 : s₁.heap = h0 := by rw [← hh, Bd.state]; rfl
  have N0 := Fr.nil n0
  have K0 : Keep h0 h0 [] := Keep.refl h0 _
  refine (?_ : Go p e below s (Qk0 Z q ks ss kf sz KF h0 n0) 0 0 (s₁.setTop (entryFrame m #[(.ref q)] 1)))
  rw [ef_rmk0]
  generalize hQ : Qk0 Z q ks ss kf sz KF h0 n0 = Q
  show Go p e below s Q 0 0 (s₁.setTop (mkF m 0 #[vr q] []))
  refine gA X0 hx hby rfl d18_0 rfl rfl ?_
  have p2 : 0 < (sz 0).toInt := by omega
  obtain ⟨cq1, q1, q1'⟩ := E_q.cell
  have pv1 := Cond.privateMethod_at (mvP hZ (tb hw 136 rfl) (args := #[]))
  obtain ⟨_, _, ⟨T1, L1, k1, n1⟩, -, X1, ⟨Lc1, hQ1, l1, y1, z1⟩, st1⟩ := X0.privateBack hx (y := (⟨cR, "fillFirstBucket", "()V"⟩ : MethodName)) hown (mvT hZ (tb hw 134 rfl)) (mvT hZ (tb hw 135 rfl)) (self_sel (mvT hZ (args := #[]) (tb hw 64 rfl)) rfl pv1 (mvT hZ (tb hw 135 rfl)) (by decide)) pv1 (mvT hZ (tb hw 137 rfl)) (by decide) (backOf (W := 0) (rmf0 l Z a0 hw [] q ss sz h0 n0 (Nat.le_trans Z0 K0.1) F_s V_s p2) hZ (tb hw 137 rfl) (tb hw 11 rfl) (by decide) (by decide)) (g := (mkF m 1 #[vr q] [(.ref q)])) rfl (by rw [hml]; rfl) (Steps.refl _) (a := q) (by rw [e0]; exact q1) q1' (argsL := []) (rest := []) (lenOf pd_5 rfl) rfl (by show 2 * 0 + _ ≤ _; exact Nat.le_of_eq rfl) (hb hby d18_1) (fun _ _ => ⟨rfl, e0, (by decide : 0 + 0 ≤ _), (by decide : 0 + 0 ≤ _)⟩)
  dsimp only [Pt.U, Pt.locs, Pt.cells, Pt.slots] at X1 l1 y1 z1 st1 hQ1
  subst y1 z1
  obtain ⟨rfl, N1q, e1⟩ := hQ1
  have N1 : Fr n0 L1 := by rw [l1]; exact Fr.app N0 N1q
  refine Go.tr  st1 ?_
  show Go p e below s Q 0 0 (T1.setTop (mkF m 4 #[vr q] []))
  refine gA X1 hx hby rfl d18_4 rfl rfl ?_
  obtain ⟨T3, X3, e3, st3⟩ := getF X1 hx hZ hown (host := "") (Or.inl (tb hw 18 rfl)) Via.refl e1 F_k (g := (mkF m 5 #[vr q] [(.ref q)])) rfl rfl (hb hby d18_5)
  refine Go.st st3 ?_
  refine gI X3 hx hby rfl d18_8 ?_
  refine Go.st (RA.ild X3 hx hZ e3 A_k (j := (0 : Int32)) (by decide) (by decide) (g := (mkF m 9 #[vr q] [(.int (0 : Int32)), (.ref ks)])) rfl rfl (hb hby d18_9)) ?_
  show Go p e below s Q 0 0 (T3.setTop (mkF m 10 #[vr q] [(.ref (kf 0))]))
  obtain ⟨rw4, hr4⟩ : ∃ z, z = kf 0 := ⟨_, rfl⟩
  rw [← hr4]
  have h5 : Vec Z h0 rw4 .long (4 : Int32) (longs (KF 0)) := by rw [hr4]; exact W_k 0 (by decide)
  show Go p e below s Q 0 0 (T3.setTop (mkF m 10 #[vr q] [(.ref rw4)]))
  refine gA X3 hx hby rfl d18_10 rfl rfl ?_
  obtain ⟨T6, X6, e6, st6⟩ := getF X3 hx hZ hown (host := "") (Or.inl (tb hw 25 rfl)) Via.refl e3 F_s (g := (mkF m 11 #[vr q] [(.ref q), (.ref rw4)])) rfl rfl (hb hby d18_11)
  refine Go.st st6 ?_
  refine gI X6 hx hby rfl d18_14 ?_
  refine Go.st (Vec.ildI X6 hx hZ e6 V_s (j := (0 : Int32)) (by decide) (by decide) (g := (mkF m 15 #[vr q] [(.int (0 : Int32)), (.ref ss), (.ref rw4)])) rfl rfl (hb hby d18_15)) ?_
  refine gI X6 hx hby rfl d18_16 ?_
  refine Go.st (fun _ k => XS.isub X6.here hx rfl (hb hby d18_17) rfl k) ?_
  show Go p e below s Q 0 0 (T6.setTop (mkF m 18 #[vr q] [(.int ((sz 0) - (1 : Int32))), (.ref rw4)]))
  have f8 := rng32 (sz 0)
  have f9 := liI_1
  have f10 := c_isub (sz 0) (1 : Int32)
  have f11 := rng32 ((sz 0) - (1 : Int32))
  have hix : ((sz 0) - (1 : Int32)).toInt.toNat = (sz 0).toInt.toNat - 1 := by omega
  have f13 := liI_4
  have r14 : 0 ≤ ((sz 0) - (1 : Int32)).toInt := by omega
  have r15 : ((sz 0) - (1 : Int32)).toInt < (4 : Int32).toInt := by omega
  refine Go.st (Vec.ildJ X6 hx hZ e6 h5 (j := ((sz 0) - (1 : Int32))) r14 r15 (g := (mkF m 18 #[vr q] [(.int ((sz 0) - (1 : Int32))), (.ref rw4)])) rfl rfl (hb hby d18_18)) ?_
  show Go p e below s Q 0 0 (T6.setTop (mkF m 19 #[vr q] [(.long ((KF 0) ((sz 0) - (1 : Int32)).toInt.toNat))]))
  have f16 := rng64 ((KF 0) ((sz 0) - (1 : Int32)).toInt.toNat)
  exact Go.retJ X6 hx hlk Bd.returns (hb hby d18_19) (by rw [← hQ, e6]; exact ⟨((KF 0) ((sz 0) - (1 : Int32)).toInt.toNat), rfl, N1, (by exact congrArg (KF 0) hix), rfl⟩) (by decide) (by decide)
theorem d21_0 : decode kc21 0 = .ok (.aload_n 0, 1) := by decide +kernel
theorem d21_1 : decode kc21 1 = .ok (.invokevirtual 50, 3) := by decide +kernel
theorem d21_4 : decode kc21 4 = .ok (.aload_n 0, 1) := by decide +kernel
theorem d21_5 : decode kc21 5 = .ok (.getfield 17, 3) := by decide +kernel
theorem d21_8 : decode kc21 8 = .ok (.iconst 0, 1) := by decide +kernel
theorem d21_9 : decode kc21 9 = .ok (.aaload, 1) := by decide +kernel
theorem d21_10 : decode kc21 10 = .ok (.aload_n 0, 1) := by decide +kernel
theorem d21_11 : decode kc21 11 = .ok (.getfield 21, 3) := by decide +kernel
theorem d21_14 : decode kc21 14 = .ok (.iconst 0, 1) := by decide +kernel
theorem d21_15 : decode kc21 15 = .ok (.iaload, 1) := by decide +kernel
theorem d21_16 : decode kc21 16 = .ok (.iconst 1, 1) := by decide +kernel
theorem d21_17 : decode kc21 17 = .ok (.isub, 1) := by decide +kernel
theorem d21_18 : decode kc21 18 = .ok (.iaload, 1) := by decide +kernel
theorem d21_19 : decode kc21 19 = .ok (.ireturn, 1) := by decide +kernel
theorem ef_rmi0 (m : MethodId) (q : Addr) : entryFrame m #[(.ref q)] 1 = mkF m 0 #[vr q] [] := by first | (simp [entryFrame, mkF, argsToLocals, Value.category]; done) | rfl
def Qi0 (Z : State) (q js ss : Addr) (jf : Nat → Addr) (sz : Nat → Int32) (JF : Nat → Nat → Int32) (h0 : Heap) (n0 : Nat) (vv : Option Value) (h : Heap) (LL : List Loc) : Prop := ∃ (rr : Int32), vv = some (.int rr) ∧ Fr n0 LL ∧ (rr = JF 0 ((sz 0).toInt.toNat - 1)) ∧ h = h0
set_option maxRecDepth 65536 in
set_option maxHeartbeats 40000000 in
theorem rmi0 (l : Launch) (Z : State) (a0 : Array Value) (hw : ∀ d ∈ tables_1, d.before a0 Z = true) (ws : List Jvm.Cond) (q js ss : Addr) (jf : Nat → Addr) (sz : Nat → Int32) (JF : Nat → Nat → Int32) (h0 : Heap) (n0 : Nat) (Z0 : n0 ≤ h0.size) (E_q : Exa Z h0 q cR) (F_i : Fld Z h0 q cR "ids" "[[I" (.ref js)) (F_s : Fld Z h0 q cR "sizes" "[I" (.ref ss)) (A_j : RA Z h0 js .int jf) (V_s : Vec Z h0 ss .int (65 : Int32) (ints sz)) (W_j : RwI Z h0 jf JF) (hz0 : 0 < (sz 0).toInt ∧ (sz 0).toInt ≤ 4) :
    MetFree l (⟨cR, "topId", "()I"⟩ : MethodName) (head1 (Jvm.Cond.code (⟨cR, "topId", "()I"⟩ : MethodName) kc21 1 (some .int) :: ws) ({ frames := 1, cells := 0, slots := 0, locals := 19 } : Room)) (fun aa UU => aa = #[(.ref q)] ∧ Z.Warmed39 UU.vm ∧ UU.heap = h0) (fun _ _ _ _ _ => True) (fun _ UU oo UU' => ∃ vv LL, oo = .returned vv ∧ Qi0 Z q js ss jf sz JF h0 n0 vv UU'.heap LL ∧ FrameEnd UU oo UU' LL 0 0) := by
  refine MetFree.of_bodySF (plainFor_of_name pn_2) hisR ?_
  intro p e s m args below meth c s₁ Bd hml0 hP hK
  obtain ⟨rfl, hZ, hh⟩ := hP
  have hx := Bd.exec
  have hby := Bd.bytes
  have hlk : meth.locks = false := BodyLoose.notSynchronized Bd
  have hml : c.maxLocals = 1 := hml0
  have hown : s.vm.findClass cR = some m.cls := findClass_of_methodNamed Bd.named
  have hnm := (name_of_methodNamed Bd.named Bd.method).1
  have X0 : Stand p l e ({ frames := 1, cells := 0, slots := 0, locals := 19 } : Room) s m #[(.ref q)] below meth c s₁ [] 0 0 := Stand.of_body Bd
  have e0 : s₁.heap = h0 := by rw [← hh, Bd.state]; rfl
  have N0 := Fr.nil n0
  have K0 : Keep h0 h0 [] := Keep.refl h0 _
  refine (?_ : Go p e below s (Qi0 Z q js ss jf sz JF h0 n0) 0 0 (s₁.setTop (entryFrame m #[(.ref q)] 1)))
  rw [ef_rmi0]
  generalize hQ : Qi0 Z q js ss jf sz JF h0 n0 = Q
  show Go p e below s Q 0 0 (s₁.setTop (mkF m 0 #[vr q] []))
  refine gA X0 hx hby rfl d21_0 rfl rfl ?_
  have p2 : 0 < (sz 0).toInt := by omega
  obtain ⟨cq1, q1, q1'⟩ := E_q.cell
  have pv1 := Cond.privateMethod_at (mvP hZ (tb hw 136 rfl) (args := #[]))
  obtain ⟨_, _, ⟨T1, L1, k1, n1⟩, -, X1, ⟨Lc1, hQ1, l1, y1, z1⟩, st1⟩ := X0.privateBack hx (y := (⟨cR, "fillFirstBucket", "()V"⟩ : MethodName)) hown (mvT hZ (tb hw 134 rfl)) (mvT hZ (tb hw 135 rfl)) (self_sel (mvT hZ (args := #[]) (tb hw 64 rfl)) rfl pv1 (mvT hZ (tb hw 135 rfl)) (by decide)) pv1 (mvT hZ (tb hw 137 rfl)) (by decide) (backOf (W := 0) (rmf0 l Z a0 hw [] q ss sz h0 n0 (Nat.le_trans Z0 K0.1) F_s V_s p2) hZ (tb hw 137 rfl) (tb hw 11 rfl) (by decide) (by decide)) (g := (mkF m 1 #[vr q] [(.ref q)])) rfl (by rw [hml]; rfl) (Steps.refl _) (a := q) (by rw [e0]; exact q1) q1' (argsL := []) (rest := []) (lenOf pd_5 rfl) rfl (by show 2 * 0 + _ ≤ _; exact Nat.le_of_eq rfl) (hb hby d21_1) (fun _ _ => ⟨rfl, e0, (by decide : 0 + 0 ≤ _), (by decide : 0 + 0 ≤ _)⟩)
  dsimp only [Pt.U, Pt.locs, Pt.cells, Pt.slots] at X1 l1 y1 z1 st1 hQ1
  subst y1 z1
  obtain ⟨rfl, N1q, e1⟩ := hQ1
  have N1 : Fr n0 L1 := by rw [l1]; exact Fr.app N0 N1q
  refine Go.tr  st1 ?_
  show Go p e below s Q 0 0 (T1.setTop (mkF m 4 #[vr q] []))
  refine gA X1 hx hby rfl d21_4 rfl rfl ?_
  obtain ⟨T3, X3, e3, st3⟩ := getF X1 hx hZ hown (host := "") (Or.inl (tb hw 22 rfl)) Via.refl e1 F_i (g := (mkF m 5 #[vr q] [(.ref q)])) rfl rfl (hb hby d21_5)
  refine Go.st st3 ?_
  refine gI X3 hx hby rfl d21_8 ?_
  refine Go.st (RA.ild X3 hx hZ e3 A_j (j := (0 : Int32)) (by decide) (by decide) (g := (mkF m 9 #[vr q] [(.int (0 : Int32)), (.ref js)])) rfl rfl (hb hby d21_9)) ?_
  show Go p e below s Q 0 0 (T3.setTop (mkF m 10 #[vr q] [(.ref (jf 0))]))
  obtain ⟨rw4, hr4⟩ : ∃ z, z = jf 0 := ⟨_, rfl⟩
  rw [← hr4]
  have h5 : Vec Z h0 rw4 .int (4 : Int32) (ints (JF 0)) := by rw [hr4]; exact W_j 0 (by decide)
  show Go p e below s Q 0 0 (T3.setTop (mkF m 10 #[vr q] [(.ref rw4)]))
  refine gA X3 hx hby rfl d21_10 rfl rfl ?_
  obtain ⟨T6, X6, e6, st6⟩ := getF X3 hx hZ hown (host := "") (Or.inl (tb hw 25 rfl)) Via.refl e3 F_s (g := (mkF m 11 #[vr q] [(.ref q), (.ref rw4)])) rfl rfl (hb hby d21_11)
  refine Go.st st6 ?_
  refine gI X6 hx hby rfl d21_14 ?_
  refine Go.st (Vec.ildI X6 hx hZ e6 V_s (j := (0 : Int32)) (by decide) (by decide) (g := (mkF m 15 #[vr q] [(.int (0 : Int32)), (.ref ss), (.ref rw4)])) rfl rfl (hb hby d21_15)) ?_
  refine gI X6 hx hby rfl d21_16 ?_
  refine Go.st (fun _ k => XS.isub X6.here hx rfl (hb hby d21_17) rfl k) ?_
  show Go p e below s Q 0 0 (T6.setTop (mkF m 18 #[vr q] [(.int ((sz 0) - (1 : Int32))), (.ref rw4)]))
  have f8 := rng32 (sz 0)
  have f9 := liI_1
  have f10 := c_isub (sz 0) (1 : Int32)
  have f11 := rng32 ((sz 0) - (1 : Int32))
  have hix : ((sz 0) - (1 : Int32)).toInt.toNat = (sz 0).toInt.toNat - 1 := by omega
  have f13 := liI_4
  have r14 : 0 ≤ ((sz 0) - (1 : Int32)).toInt := by omega
  have r15 : ((sz 0) - (1 : Int32)).toInt < (4 : Int32).toInt := by omega
  refine Go.st (Vec.ildI X6 hx hZ e6 h5 (j := ((sz 0) - (1 : Int32))) r14 r15 (g := (mkF m 18 #[vr q] [(.int ((sz 0) - (1 : Int32))), (.ref rw4)])) rfl rfl (hb hby d21_18)) ?_
  show Go p e below s Q 0 0 (T6.setTop (mkF m 19 #[vr q] [(.int ((JF 0) ((sz 0) - (1 : Int32)).toInt.toNat))]))
  have f16 := rng32 ((JF 0) ((sz 0) - (1 : Int32)).toInt.toNat)
  exact Go.retI X6 hx hlk Bd.returns (hb hby d21_19) (by rw [← hQ, e6]; exact ⟨((JF 0) ((sz 0) - (1 : Int32)).toInt.toNat), rfl, N1, (by exact congrArg (JF 0) hix), rfl⟩) (by decide) (by decide)
theorem d22_0 : decode kc22 0 = .ok (.aload_n 0, 1) := by decide +kernel
theorem d22_1 : decode kc22 1 = .ok (.invokevirtual 50, 3) := by decide +kernel
theorem d22_4 : decode kc22 4 = .ok (.aload_n 0, 1) := by decide +kernel
theorem d22_5 : decode kc22 5 = .ok (.getfield 21, 3) := by decide +kernel
theorem d22_8 : decode kc22 8 = .ok (.iconst 0, 1) := by decide +kernel
theorem d22_9 : decode kc22 9 = .ok (.dup2, 1) := by decide +kernel
theorem d22_10 : decode kc22 10 = .ok (.iaload, 1) := by decide +kernel
theorem d22_11 : decode kc22 11 = .ok (.iconst 1, 1) := by decide +kernel
theorem d22_12 : decode kc22 12 = .ok (.isub, 1) := by decide +kernel
theorem d22_13 : decode kc22 13 = .ok (.iastore, 1) := by decide +kernel
theorem d22_14 : decode kc22 14 = .ok (.aload_n 0, 1) := by decide +kernel
theorem d22_15 : decode kc22 15 = .ok (.dup, 1) := by decide +kernel
theorem d22_16 : decode kc22 16 = .ok (.getfield 38, 3) := by decide +kernel
theorem d22_19 : decode kc22 19 = .ok (.iconst 1, 1) := by decide +kernel
theorem d22_20 : decode kc22 20 = .ok (.isub, 1) := by decide +kernel
theorem d22_21 : decode kc22 21 = .ok (.putfield 38, 3) := by decide +kernel
theorem d22_24 : decode kc22 24 = .ok (.return_, 1) := by decide +kernel
theorem ef_rm22 (m : MethodId) (q : Addr) : entryFrame m #[(.ref q)] 1 = mkF m 0 #[vr q] [] := by first | (simp [entryFrame, mkF, argsToLocals, Value.category]; done) | rfl
def Q22 (Z : State) (q ks js ss : Addr) (kf jf : Nat → Addr) (sz : Nat → Int32) (KF : Nat → Nat → Int64) (JF : Nat → Nat → Int32) (sn : Int32) (la : Int64) (h0 : Heap) (n0 : Nat) (vv : Option Value) (h : Heap) (LL : List Loc) : Prop := vv = none ∧ Fr n0 LL ∧ Keep h0 h [q, ss] ∧ (Exa Z h q cR) ∧ (Fld Z h q cR "keys" "[[J" (.ref ks)) ∧ (Fld Z h q cR "ids" "[[I" (.ref js)) ∧ (Fld Z h q cR "sizes" "[I" (.ref ss)) ∧ (Fld Z h q cR "size" "I" (.int (sn - (1 : Int32)))) ∧ (Fld Z h q cR "last" "J" (.long la)) ∧ (RA Z h ks .long kf) ∧ (RA Z h js .int jf) ∧ (Vec Z h ss .int (65 : Int32) (ints (updF sz 0 ((sz 0) - (1 : Int32))))) ∧ (RwJ Z h kf KF) ∧ (RwI Z h jf JF)
set_option maxRecDepth 65536 in
set_option maxHeartbeats 40000000 in
theorem rm22 (l : Launch) (Z : State) (a0 : Array Value) (hw : ∀ d ∈ tables_1, d.before a0 Z = true) (ws : List Jvm.Cond) (q ks js ss : Addr) (kf jf : Nat → Addr) (sz : Nat → Int32) (KF : Nat → Nat → Int64) (JF : Nat → Nat → Int32) (sn : Int32) (la : Int64) (h0 : Heap) (n0 : Nat) (Z0 : n0 ≤ h0.size) (E_q : Exa Z h0 q cR) (F_k : Fld Z h0 q cR "keys" "[[J" (.ref ks)) (F_i : Fld Z h0 q cR "ids" "[[I" (.ref js)) (F_s : Fld Z h0 q cR "sizes" "[I" (.ref ss)) (F_n : Fld Z h0 q cR "size" "I" (.int sn)) (F_l : Fld Z h0 q cR "last" "J" (.long la)) (A_k : RA Z h0 ks .long kf) (A_j : RA Z h0 js .int jf) (V_s : Vec Z h0 ss .int (65 : Int32) (ints sz)) (W_k : RwJ Z h0 kf KF) (W_j : RwI Z h0 jf JF) (Ik : Inj kf) (Ij : Inj jf) (GR : ∀ b : Nat, b < 65 → n0 ≤ kf b ∧ n0 ≤ jf b) (G_q : n0 ≤ q) (G_s : n0 ≤ ss) (N_q : NR kf jf q) (N_ks : NR kf jf ks) (N_js : NR kf jf js) (N_ss : NR kf jf ss) (n_q_ss : q ≠ ss) (n_ks_ss : ks ≠ ss) (n_js_ss : js ≠ ss) (n_ks_q : ks ≠ q) (n_js_q : js ≠ q) (hz0 : 0 < (sz 0).toInt ∧ (sz 0).toInt ≤ 4) :
    MetFree l (⟨cR, "pop", "()V"⟩ : MethodName) (head1 (Jvm.Cond.code (⟨cR, "pop", "()V"⟩ : MethodName) kc22 1 none :: ws) ({ frames := 1, cells := 0, slots := 0, locals := 19 } : Room)) (fun aa UU => aa = #[(.ref q)] ∧ Z.Warmed39 UU.vm ∧ UU.heap = h0) (fun _ _ _ _ _ => True) (fun _ UU oo UU' => ∃ vv LL, oo = .returned vv ∧ Q22 Z q ks js ss kf jf sz KF JF sn la h0 n0 vv UU'.heap LL ∧ FrameEnd UU oo UU' LL 0 0) := by
  refine MetFree.of_bodySF (plainFor_of_name pn_2) hisR ?_
  intro p e s m args below meth c s₁ Bd hml0 hP hK
  obtain ⟨rfl, hZ, hh⟩ := hP
  have hx := Bd.exec
  have hby := Bd.bytes
  have hlk : meth.locks = false := BodyLoose.notSynchronized Bd
  have hml : c.maxLocals = 1 := hml0
  have hown : s.vm.findClass cR = some m.cls := findClass_of_methodNamed Bd.named
  have hnm := (name_of_methodNamed Bd.named Bd.method).1
  have X0 : Stand p l e ({ frames := 1, cells := 0, slots := 0, locals := 19 } : Room) s m #[(.ref q)] below meth c s₁ [] 0 0 := Stand.of_body Bd
  have e0 : s₁.heap = h0 := by rw [← hh, Bd.state]; rfl
  have N0 := Fr.nil n0
  have K0 : Keep h0 h0 [q, ss] := Keep.refl h0 _
  refine (?_ : Go p e below s (Q22 Z q ks js ss kf jf sz KF JF sn la h0 n0) 0 0 (s₁.setTop (entryFrame m #[(.ref q)] 1)))
  rw [ef_rm22]
  generalize hQ : Q22 Z q ks js ss kf jf sz KF JF sn la h0 n0 = Q
  show Go p e below s Q 0 0 (s₁.setTop (mkF m 0 #[vr q] []))
  refine gA X0 hx hby rfl d22_0 rfl rfl ?_
  have p2 : 0 < (sz 0).toInt := by omega
  obtain ⟨cq1, q1, q1'⟩ := E_q.cell
  have pv1 := Cond.privateMethod_at (mvP hZ (tb hw 136 rfl) (args := #[]))
  obtain ⟨_, _, ⟨T1, L1, k1, n1⟩, -, X1, ⟨Lc1, hQ1, l1, y1, z1⟩, st1⟩ := X0.privateBack hx (y := (⟨cR, "fillFirstBucket", "()V"⟩ : MethodName)) hown (mvT hZ (tb hw 134 rfl)) (mvT hZ (tb hw 135 rfl)) (self_sel (mvT hZ (args := #[]) (tb hw 64 rfl)) rfl pv1 (mvT hZ (tb hw 135 rfl)) (by decide)) pv1 (mvT hZ (tb hw 137 rfl)) (by decide) (backOf (W := 0) (rmf0 l Z a0 hw [] q ss sz h0 n0 (Nat.le_trans Z0 K0.1) F_s V_s p2) hZ (tb hw 137 rfl) (tb hw 11 rfl) (by decide) (by decide)) (g := (mkF m 1 #[vr q] [(.ref q)])) rfl (by rw [hml]; rfl) (Steps.refl _) (a := q) (by rw [e0]; exact q1) q1' (argsL := []) (rest := []) (lenOf pd_5 rfl) rfl (by show 2 * 0 + _ ≤ _; exact Nat.le_of_eq rfl) (hb hby d22_1) (fun _ _ => ⟨rfl, e0, (by decide : 0 + 0 ≤ _), (by decide : 0 + 0 ≤ _)⟩)
  dsimp only [Pt.U, Pt.locs, Pt.cells, Pt.slots] at X1 l1 y1 z1 st1 hQ1
  subst y1 z1
  obtain ⟨rfl, N1q, e1⟩ := hQ1
  have N1 : Fr n0 L1 := by rw [l1]; exact Fr.app N0 N1q
  refine Go.tr  st1 ?_
  show Go p e below s Q 0 0 (T1.setTop (mkF m 4 #[vr q] []))
  refine gA X1 hx hby rfl d22_4 rfl rfl ?_
  obtain ⟨T3, X3, e3, st3⟩ := getF X1 hx hZ hown (host := "") (Or.inl (tb hw 25 rfl)) Via.refl e1 F_s (g := (mkF m 5 #[vr q] [(.ref q)])) rfl rfl (hb hby d22_5)
  refine Go.st st3 ?_
  refine gI X3 hx hby rfl d22_8 ?_
  refine Go.st (fun _ k => XT.dup2 X3.here hx rfl (hb hby d22_9) rfl rfl rfl k) ?_
  refine Go.st (Vec.ildI X3 hx hZ e3 V_s (j := (0 : Int32)) (by decide) (by decide) (g := (mkF m 10 #[vr q] [(.int (0 : Int32)), (.ref ss), (.int (0 : Int32)), (.ref ss)])) rfl rfl (hb hby d22_10)) ?_
  refine gI X3 hx hby rfl d22_11 ?_
  show Go p e below s Q 0 0 (T3.setTop (mkF m 12 #[vr q] [(.int (1 : Int32)), (.int (sz 0)), (.int (0 : Int32)), (.ref ss)]))
  refine Go.st (fun _ k => XS.isub X3.here hx rfl (hb hby d22_12) rfl k) ?_
  obtain ⟨T5, h5, X5, e5, W5, V5, st5⟩ := Vec.istI X3 hx hZ e3 V_s (j := (0 : Int32)) (by decide) (by decide) (g := (mkF m 13 #[vr q] [(.int ((sz 0) - (1 : Int32))), (.int (0 : Int32)), (.ref ss)])) rfl rfl (hb hby d22_13)
  have h6 : Exa Z h5 q cR := E_q.wr W5
  have h7 : Fld Z h5 q cR "keys" "[[J" (.ref ks) := F_k.other W5 (Or.inl n_q_ss)
  have h8 : Fld Z h5 q cR "ids" "[[I" (.ref js) := F_i.other W5 (Or.inl n_q_ss)
  have h9 : Fld Z h5 q cR "sizes" "[I" (.ref ss) := F_s.other W5 (Or.inl n_q_ss)
  have h10 : Fld Z h5 q cR "size" "I" (.int sn) := F_n.other W5 (Or.inl n_q_ss)
  have h11 : Fld Z h5 q cR "last" "J" (.long la) := F_l.other W5 (Or.inl n_q_ss)
  have h12 : RA Z h5 ks .long kf := A_k.other W5 n_ks_ss
  have h13 : RA Z h5 js .int jf := A_j.other W5 n_js_ss
  have h14 : Vec Z h5 ss .int (65 : Int32) (ints (updF sz 0 ((sz 0) - (1 : Int32)))) := V5
  have h15 : RwJ Z h5 kf KF := RwJ.other W5 W_k (fun b hb => (N_ss b hb).1)
  have h16 : RwI Z h5 jf JF := RwI.other W5 W_j (fun b hb => (N_ss b hb).2)
  have K5 : Keep h0 h5 [q, ss] := K0.wr W5 (Or.inl (List.mem_of_getElem? (i := 1) rfl))
  have N5 := Fr.snoc X5 N1 G_s
  refine Go.st st5 ?_
  show Go p e below s Q 0 0 (T5.setTop (mkF m 14 #[vr q] []))
  refine gA X5 hx hby rfl d22_14 rfl rfl ?_
  refine Go.st (fun _ k => XS.dup X5.here hx rfl (hb hby d22_15) rfl rfl k) ?_
  obtain ⟨T17, X17, e17, st17⟩ := getF X5 hx hZ hown (host := "") (Or.inl (tb hw 70 rfl)) Via.refl e5 h10 (g := (mkF m 16 #[vr q] [(.ref q), (.ref q)])) rfl rfl (hb hby d22_16)
  refine Go.st st17 ?_
  refine gI X17 hx hby rfl d22_19 ?_
  refine Go.st (fun _ k => XS.isub X17.here hx rfl (hb hby d22_20) rfl k) ?_
  obtain ⟨T18, h18, X18, e18, W18, st18⟩ := putF X17 hx hZ hown (host := "") (Or.inl (tb hw 70 rfl)) Via.refl e17 h10 h6 (Or.inl (tb hw 71 rfl)) (tb hw 10 rfl) (ty := .int) (by decide) rfl rfl (g := (mkF m 21 #[vr q] [(.int (sn - (1 : Int32))), (.ref q)])) rfl rfl (hb hby d22_21)
  have h19 : Exa Z h18 q cR := h6.wr W18
  have h20 : Fld Z h18 q cR "keys" "[[J" (.ref ks) := h7.other W18 (Or.inr (ndq (sl_0 hw) 0 4 rfl))
  have h21 : Fld Z h18 q cR "ids" "[[I" (.ref js) := h8.other W18 (Or.inr (ndq (sl_0 hw) 1 4 rfl))
  have h22 : Fld Z h18 q cR "sizes" "[I" (.ref ss) := h9.other W18 (Or.inr (ndq (sl_0 hw) 2 4 rfl))
  have h23 : Fld Z h18 q cR "size" "I" (.int (sn - (1 : Int32))) := h10.same W18
  have h24 : Fld Z h18 q cR "last" "J" (.long la) := h11.other W18 (Or.inr (ndq (sl_0 hw) 3 4 rfl))
  have h25 : RA Z h18 ks .long kf := h12.other W18 n_ks_q
  have h26 : RA Z h18 js .int jf := h13.other W18 n_js_q
  have h27 : Vec Z h18 ss .int (65 : Int32) (ints (updF sz 0 ((sz 0) - (1 : Int32)))) := h14.other W18 (Ne.symm n_q_ss)
  have h28 : RwJ Z h18 kf KF := RwJ.other W18 h15 (fun b hb => (N_q b hb).1)
  have h29 : RwI Z h18 jf JF := RwI.other W18 h16 (fun b hb => (N_q b hb).2)
  have K18 : Keep h0 h18 [q, ss] := K5.wr W18 (Or.inl (List.mem_of_getElem? (i := 0) rfl))
  have N18 := Fr.snoc X18 N5 G_q
  refine Go.st st18 ?_
  show Go p e below s Q 0 0 (T18.setTop (mkF m 24 #[vr q] []))
  exact Go.retV X18 hx hlk Bd.returns (hb hby d22_24) (by rw [← hQ, e18]; exact ⟨rfl, N18, K18, h19, h20, h21, h22, h23, h24, h25, h26, h27, h28, h29⟩) (by decide) (by decide)
theorem ef_rmkf1 (m : MethodId) (q : Addr) : entryFrame m #[(.ref q)] 1 = mkF m 0 #[vr q] [] := by first | (simp [entryFrame, mkF, argsToLocals, Value.category]; done) | rfl
def Qkf1 (Z : State) (q ks js ss : Addr) (kf jf : Nat → Addr) (sz : Nat → Int32) (KF : Nat → Nat → Int64) (JF : Nat → Nat → Int32) (sn : Int32) (la : Int64) (bb : Int32) (h0 : Heap) (n0 : Nat) (vv : Option Value) (h : Heap) (LL : List Loc) : Prop := ∃ (s2 : Nat → Int32) (K2 : Nat → Nat → Int64) (J2 : Nat → Nat → Int32) (l2 rr : Int64), vv = some (.long rr) ∧ Fr n0 LL ∧ ((s2 0).toInt = 1) ∧ (∀ b : Nat, b < 65 → ¬ b = 0 → (s2 b).toInt = 0) ∧ (K2 0 0 = KF bb.toInt.toNat 0) ∧ (J2 0 0 = JF bb.toInt.toNat 0) ∧ (l2 = KF bb.toInt.toNat 0) ∧ (rr = KF bb.toInt.toNat 0) ∧ Keep h0 h ([q, ss] ++ rowsOf kf jf) ∧ (Exa Z h q cR) ∧ (Fld Z h q cR "keys" "[[J" (.ref ks)) ∧ (Fld Z h q cR "ids" "[[I" (.ref js)) ∧ (Fld Z h q cR "sizes" "[I" (.ref ss)) ∧ (Fld Z h q cR "size" "I" (.int sn)) ∧ (Fld Z h q cR "last" "J" (.long l2)) ∧ (RA Z h ks .long kf) ∧ (RA Z h js .int jf) ∧ (Vec Z h ss .int (65 : Int32) (ints s2)) ∧ (RwJ Z h kf K2) ∧ (RwI Z h jf J2)
set_option maxRecDepth 65536 in
set_option maxHeartbeats 40000000 in
theorem rmkf1 (l : Launch) (Z : State) (a0 : Array Value) (hw : ∀ d ∈ tables_1, d.before a0 Z = true) (ws : List Jvm.Cond) (q ks js ss : Addr) (kf jf : Nat → Addr) (sz : Nat → Int32) (KF : Nat → Nat → Int64) (JF : Nat → Nat → Int32) (sn : Int32) (la : Int64) (bb : Int32) (h0 : Heap) (n0 : Nat) (Z0 : n0 ≤ h0.size) (E_q : Exa Z h0 q cR) (F_k : Fld Z h0 q cR "keys" "[[J" (.ref ks)) (F_i : Fld Z h0 q cR "ids" "[[I" (.ref js)) (F_s : Fld Z h0 q cR "sizes" "[I" (.ref ss)) (F_n : Fld Z h0 q cR "size" "I" (.int sn)) (F_l : Fld Z h0 q cR "last" "J" (.long la)) (A_k : RA Z h0 ks .long kf) (A_j : RA Z h0 js .int jf) (V_s : Vec Z h0 ss .int (65 : Int32) (ints sz)) (W_k : RwJ Z h0 kf KF) (W_j : RwI Z h0 jf JF) (Ik : Inj kf) (Ij : Inj jf) (GR : ∀ b : Nat, b < 65 → n0 ≤ kf b ∧ n0 ≤ jf b) (G_q : n0 ≤ q) (G_s : n0 ≤ ss) (N_q : NR kf jf q) (N_ks : NR kf jf ks) (N_js : NR kf jf js) (N_ss : NR kf jf ss) (n_q_ss : q ≠ ss) (n_ks_ss : ks ≠ ss) (n_js_ss : js ≠ ss) (n_ks_q : ks ≠ q) (n_js_q : js ≠ q) (hbb : 1 ≤ bb.toInt ∧ bb.toInt ≤ 64) (hone : (sz bb.toInt.toNat).toInt = 1) (hrest : ∀ b : Nat, b < 65 → ¬ (b : Int) = bb.toInt → (sz b).toInt = 0) :
    MetFree l (⟨cR, "topKey", "()J"⟩ : MethodName) (head1 (Jvm.Cond.code (⟨cR, "topKey", "()J"⟩ : MethodName) kc18 1 (some .long) :: ws) ({ frames := 4, cells := 0, slots := 0, locals := 63 } : Room)) (fun aa UU => aa = #[(.ref q)] ∧ Z.Warmed39 UU.vm ∧ UU.heap = h0) (fun _ _ _ _ _ => True) (fun _ UU oo UU' => ∃ vv LL, oo = .returned vv ∧ Qkf1 Z q ks js ss kf jf sz KF JF sn la bb h0 n0 vv UU'.heap LL ∧ FrameEnd UU oo UU' LL 0 0) := by
  refine MetFree.of_bodySF (plainFor_of_name pn_2) hisR ?_
  intro p e s m args below meth c s₁ Bd hml0 hP hK
  obtain ⟨rfl, hZ, hh⟩ := hP
  have hx := Bd.exec
  have hby := Bd.bytes
  have hlk : meth.locks = false := BodyLoose.notSynchronized Bd
  have hml : c.maxLocals = 1 := hml0
  have hown : s.vm.findClass cR = some m.cls := findClass_of_methodNamed Bd.named
  have hnm := (name_of_methodNamed Bd.named Bd.method).1
  have X0 : Stand p l e ({ frames := 4, cells := 0, slots := 0, locals := 63 } : Room) s m #[(.ref q)] below meth c s₁ [] 0 0 := Stand.of_body Bd
  have e0 : s₁.heap = h0 := by rw [← hh, Bd.state]; rfl
  have N0 := Fr.nil n0
  have K0 : Keep h0 h0 ([q, ss] ++ rowsOf kf jf) := Keep.refl h0 _
  refine (?_ : Go p e below s (Qkf1 Z q ks js ss kf jf sz KF JF sn la bb h0 n0) 0 0 (s₁.setTop (entryFrame m #[(.ref q)] 1)))
  rw [ef_rmkf1]
  generalize hQ : Qkf1 Z q ks js ss kf jf sz KF JF sn la bb h0 n0 = Q
  show Go p e below s Q 0 0 (s₁.setTop (mkF m 0 #[vr q] []))
  refine gA X0 hx hby rfl d18_0 rfl rfl ?_
  have f2 := rng32 sn
  have f3 := rng64 la
  have f4 := rng32 bb
  obtain ⟨cq1, q1, q1'⟩ := E_q.cell
  have pv1 := Cond.privateMethod_at (mvP hZ (tb hw 136 rfl) (args := #[]))
  obtain ⟨_, _, ⟨T1, L1, k1, n1⟩, -, X1, ⟨Lc1, hQ1, l1, y1, z1⟩, st1⟩ := X0.privateBack hx (y := (⟨cR, "fillFirstBucket", "()V"⟩ : MethodName)) hown (mvT hZ (tb hw 134 rfl)) (mvT hZ (tb hw 135 rfl)) (self_sel (mvT hZ (args := #[]) (tb hw 64 rfl)) rfl pv1 (mvT hZ (tb hw 135 rfl)) (by decide)) pv1 (mvT hZ (tb hw 137 rfl)) (by decide) (backOf (W := 0) (rmf1 l Z a0 hw [] q ks js ss kf jf sz KF JF sn la bb h0 n0 (Nat.le_trans Z0 K0.1) E_q F_k F_i F_s F_n F_l A_k A_j V_s W_k W_j Ik Ij GR G_q G_s N_q N_ks N_js N_ss n_q_ss n_ks_ss n_js_ss n_ks_q n_js_q hbb hone hrest) hZ (tb hw 137 rfl) (tb hw 11 rfl) (by decide) (by decide)) (g := (mkF m 1 #[vr q] [(.ref q)])) rfl (by rw [hml]; rfl) (Steps.refl _) (a := q) (by rw [e0]; exact q1) q1' (argsL := []) (rest := []) (lenOf pd_5 rfl) rfl (by show 2 * 0 + _ ≤ _; exact Nat.le_of_eq rfl) (hb hby d18_1) (fun _ _ => ⟨rfl, e0, (by decide : 0 + 0 ≤ _), (by decide : 0 + 0 ≤ _)⟩)
  dsimp only [Pt.U, Pt.locs, Pt.cells, Pt.slots] at X1 l1 y1 z1 st1 hQ1
  subst y1 z1
  obtain ⟨s2_5, K2_6, J2_7, l2_8, rfl, N1q, f9, f10, f11, f12, f13, K1q, h14, h15, h16, h17, h18, h19, h20, h21, h22, h23, h24⟩ := hQ1
  have N1 : Fr n0 L1 := by rw [l1]; exact Fr.app N0 N1q
  have K1 : Keep h0 T1.heap ([q, ss] ++ rowsOf kf jf) := K0.trans K1q (fun x hx => (fun x hx => (List.mem_append.mp hx).elim ((show ∀ x ∈ ([q, ss] : List Addr), x ∈ (([q, ss] ++ rowsOf kf jf) : List Addr) ∨ h0.size ≤ x from (allS (Or.inl (List.mem_append_left _ (List.mem_of_getElem? (i := 0) rfl))) (allS (Or.inl (List.mem_append_left _ (List.mem_of_getElem? (i := 1) rfl))) all0))) x) (fun q => Or.inl (List.mem_append_right _ q))) x hx)
  refine Go.tr  st1 ?_
  show Go p e below s Q 0 0 (T1.setTop (mkF m 4 #[vr q] []))
  have hs0 : (s2_5 0).toInt = 1 := f9
  refine gA X1 hx hby rfl d18_4 rfl rfl ?_
  obtain ⟨T25, X25, e25, st25⟩ := getF X1 hx hZ hown (host := "") (Or.inl (tb hw 18 rfl)) Via.refl rfl h15 (g := (mkF m 5 #[vr q] [(.ref q)])) rfl rfl (hb hby d18_5)
  refine Go.st st25 ?_
  refine gI X25 hx hby rfl d18_8 ?_
  refine Go.st (RA.ild X25 hx hZ e25 h20 (j := (0 : Int32)) (by decide) (by decide) (g := (mkF m 9 #[vr q] [(.int (0 : Int32)), (.ref ks)])) rfl rfl (hb hby d18_9)) ?_
  show Go p e below s Q 0 0 (T25.setTop (mkF m 10 #[vr q] [(.ref (kf 0))]))
  obtain ⟨rw26, hr26⟩ : ∃ z, z = kf 0 := ⟨_, rfl⟩
  rw [← hr26]
  have Grw26 : n0 ≤ rw26 := by rw [hr26]; exact (GR 0 (by decide)).1
  have h27 : Vec Z T1.heap rw26 .long (4 : Int32) (longs (K2_6 0)) := by rw [hr26]; exact h23 0 (by decide)
  show Go p e below s Q 0 0 (T25.setTop (mkF m 10 #[vr q] [(.ref rw26)]))
  refine gA X25 hx hby rfl d18_10 rfl rfl ?_
  obtain ⟨T28, X28, e28, st28⟩ := getF X25 hx hZ hown (host := "") (Or.inl (tb hw 25 rfl)) Via.refl e25 h17 (g := (mkF m 11 #[vr q] [(.ref q), (.ref rw26)])) rfl rfl (hb hby d18_11)
  refine Go.st st28 ?_
  refine gI X28 hx hby rfl d18_14 ?_
  refine Go.st (Vec.ildI X28 hx hZ e28 h22 (j := (0 : Int32)) (by decide) (by decide) (g := (mkF m 15 #[vr q] [(.int (0 : Int32)), (.ref ss), (.ref rw26)])) rfl rfl (hb hby d18_15)) ?_
  refine gI X28 hx hby rfl d18_16 ?_
  refine Go.st (fun _ k => XS.isub X28.here hx rfl (hb hby d18_17) rfl k) ?_
  show Go p e below s Q 0 0 (T28.setTop (mkF m 18 #[vr q] [(.int ((s2_5 0) - (1 : Int32))), (.ref rw26)]))
  have f30 := rng32 (s2_5 0)
  have f31 := liI_1
  have f32 := c_isub (s2_5 0) (1 : Int32)
  have f33 := rng32 ((s2_5 0) - (1 : Int32))
  have hix : ((s2_5 0) - (1 : Int32)).toInt.toNat = 0 := by omega
  have f35 := liI_4
  have r36 : 0 ≤ ((s2_5 0) - (1 : Int32)).toInt := by omega
  have r37 : ((s2_5 0) - (1 : Int32)).toInt < (4 : Int32).toInt := by omega
  refine Go.st (Vec.ildJ X28 hx hZ e28 h27 (j := ((s2_5 0) - (1 : Int32))) r36 r37 (g := (mkF m 18 #[vr q] [(.int ((s2_5 0) - (1 : Int32))), (.ref rw26)])) rfl rfl (hb hby d18_18)) ?_
  show Go p e below s Q 0 0 (T28.setTop (mkF m 19 #[vr q] [(.long ((K2_6 0) ((s2_5 0) - (1 : Int32)).toInt.toNat))]))
  have f38 := rng64 ((K2_6 0) ((s2_5 0) - (1 : Int32)).toInt.toNat)
  exact Go.retJ X28 hx hlk Bd.returns (hb hby d18_19) (by rw [← hQ, e28]; exact ⟨s2_5, K2_6, J2_7, l2_8, ((K2_6 0) ((s2_5 0) - (1 : Int32)).toInt.toNat), rfl, N1, (by exact f9), (by exact f10), (by exact f11), (by exact f12), (by exact f13), (by exact (congrArg (K2_6 0) hix).trans f11), K1, h14, h15, h16, h17, h18, h19, h20, h21, h22, h23, h24⟩) (by decide) (by decide)
theorem ef_rmkf2e (m : MethodId) (q : Addr) : entryFrame m #[(.ref q)] 1 = mkF m 0 #[vr q] [] := by first | (simp [entryFrame, mkF, argsToLocals, Value.category]; done) | rfl
def Qkf2e (Z : State) (q ks js ss : Addr) (kf jf : Nat → Addr) (sz : Nat → Int32) (KF : Nat → Nat → Int64) (JF : Nat → Nat → Int32) (sn : Int32) (la : Int64) (bb : Int32) (h0 : Heap) (n0 : Nat) (vv : Option Value) (h : Heap) (LL : List Loc) : Prop := ∃ (s2 : Nat → Int32) (K2 : Nat → Nat → Int64) (J2 : Nat → Nat → Int32) (l2 rr : Int64), vv = some (.long rr) ∧ Fr n0 LL ∧ ((s2 0).toInt = 2) ∧ (∀ b : Nat, b < 65 → ¬ b = 0 → (s2 b).toInt = 0) ∧ (K2 0 0 = KF bb.toInt.toNat 0 ∧ K2 0 1 = KF bb.toInt.toNat 1) ∧ (J2 0 0 = JF bb.toInt.toNat 0 ∧ J2 0 1 = JF bb.toInt.toNat 1) ∧ (l2.toInt = (KF bb.toInt.toNat 0).toInt) ∧ (rr = KF bb.toInt.toNat 1) ∧ Keep h0 h ([q, ss] ++ rowsOf kf jf) ∧ (Exa Z h q cR) ∧ (Fld Z h q cR "keys" "[[J" (.ref ks)) ∧ (Fld Z h q cR "ids" "[[I" (.ref js)) ∧ (Fld Z h q cR "sizes" "[I" (.ref ss)) ∧ (Fld Z h q cR "size" "I" (.int sn)) ∧ (Fld Z h q cR "last" "J" (.long l2)) ∧ (RA Z h ks .long kf) ∧ (RA Z h js .int jf) ∧ (Vec Z h ss .int (65 : Int32) (ints s2)) ∧ (RwJ Z h kf K2) ∧ (RwI Z h jf J2)
set_option maxRecDepth 65536 in
set_option maxHeartbeats 40000000 in
theorem rmkf2e (l : Launch) (Z : State) (a0 : Array Value) (hw : ∀ d ∈ tables_1, d.before a0 Z = true) (ws : List Jvm.Cond) (q ks js ss : Addr) (kf jf : Nat → Addr) (sz : Nat → Int32) (KF : Nat → Nat → Int64) (JF : Nat → Nat → Int32) (sn : Int32) (la : Int64) (bb : Int32) (h0 : Heap) (n0 : Nat) (Z0 : n0 ≤ h0.size) (E_q : Exa Z h0 q cR) (F_k : Fld Z h0 q cR "keys" "[[J" (.ref ks)) (F_i : Fld Z h0 q cR "ids" "[[I" (.ref js)) (F_s : Fld Z h0 q cR "sizes" "[I" (.ref ss)) (F_n : Fld Z h0 q cR "size" "I" (.int sn)) (F_l : Fld Z h0 q cR "last" "J" (.long la)) (A_k : RA Z h0 ks .long kf) (A_j : RA Z h0 js .int jf) (V_s : Vec Z h0 ss .int (65 : Int32) (ints sz)) (W_k : RwJ Z h0 kf KF) (W_j : RwI Z h0 jf JF) (Ik : Inj kf) (Ij : Inj jf) (GR : ∀ b : Nat, b < 65 → n0 ≤ kf b ∧ n0 ≤ jf b) (G_q : n0 ≤ q) (G_s : n0 ≤ ss) (N_q : NR kf jf q) (N_ks : NR kf jf ks) (N_js : NR kf jf js) (N_ss : NR kf jf ss) (n_q_ss : q ≠ ss) (n_ks_ss : ks ≠ ss) (n_js_ss : js ≠ ss) (n_ks_q : ks ≠ q) (n_js_q : js ≠ q) (hbb : 1 ≤ bb.toInt ∧ bb.toInt ≤ 64 ∧ 64 ≤ bb.toInt) (hone : (sz bb.toInt.toNat).toInt = 2) (hrest : ∀ b : Nat, b < 65 → ¬ (b : Int) = bb.toInt → (sz b).toInt = 0) (hpos : 0 ≤ (KF bb.toInt.toNat 0).toInt ∧ 0 ≤ (KF bb.toInt.toNat 1).toInt) (hcmp : (KF bb.toInt.toNat 0).toInt = (KF bb.toInt.toNat 1).toInt) :
    MetFree l (⟨cR, "topKey", "()J"⟩ : MethodName) (head1 (Jvm.Cond.code (⟨cR, "topKey", "()J"⟩ : MethodName) kc18 1 (some .long) :: ws) ({ frames := 4, cells := 0, slots := 0, locals := 63 } : Room)) (fun aa UU => aa = #[(.ref q)] ∧ Z.Warmed39 UU.vm ∧ UU.heap = h0) (fun _ _ _ _ _ => True) (fun _ UU oo UU' => ∃ vv LL, oo = .returned vv ∧ Qkf2e Z q ks js ss kf jf sz KF JF sn la bb h0 n0 vv UU'.heap LL ∧ FrameEnd UU oo UU' LL 0 0) := by
  refine MetFree.of_bodySF (plainFor_of_name pn_2) hisR ?_
  intro p e s m args below meth c s₁ Bd hml0 hP hK
  obtain ⟨rfl, hZ, hh⟩ := hP
  have hx := Bd.exec
  have hby := Bd.bytes
  have hlk : meth.locks = false := BodyLoose.notSynchronized Bd
  have hml : c.maxLocals = 1 := hml0
  have hown : s.vm.findClass cR = some m.cls := findClass_of_methodNamed Bd.named
  have hnm := (name_of_methodNamed Bd.named Bd.method).1
  have X0 : Stand p l e ({ frames := 4, cells := 0, slots := 0, locals := 63 } : Room) s m #[(.ref q)] below meth c s₁ [] 0 0 := Stand.of_body Bd
  have e0 : s₁.heap = h0 := by rw [← hh, Bd.state]; rfl
  have N0 := Fr.nil n0
  have K0 : Keep h0 h0 ([q, ss] ++ rowsOf kf jf) := Keep.refl h0 _
  refine (?_ : Go p e below s (Qkf2e Z q ks js ss kf jf sz KF JF sn la bb h0 n0) 0 0 (s₁.setTop (entryFrame m #[(.ref q)] 1)))
  rw [ef_rmkf2e]
  generalize hQ : Qkf2e Z q ks js ss kf jf sz KF JF sn la bb h0 n0 = Q
  show Go p e below s Q 0 0 (s₁.setTop (mkF m 0 #[vr q] []))
  refine gA X0 hx hby rfl d18_0 rfl rfl ?_
  have f2 := rng32 sn
  have f3 := rng64 la
  have f4 := rng32 bb
  obtain ⟨cq1, q1, q1'⟩ := E_q.cell
  have pv1 := Cond.privateMethod_at (mvP hZ (tb hw 136 rfl) (args := #[]))
  obtain ⟨_, _, ⟨T1, L1, k1, n1⟩, -, X1, ⟨Lc1, hQ1, l1, y1, z1⟩, st1⟩ := X0.privateBack hx (y := (⟨cR, "fillFirstBucket", "()V"⟩ : MethodName)) hown (mvT hZ (tb hw 134 rfl)) (mvT hZ (tb hw 135 rfl)) (self_sel (mvT hZ (args := #[]) (tb hw 64 rfl)) rfl pv1 (mvT hZ (tb hw 135 rfl)) (by decide)) pv1 (mvT hZ (tb hw 137 rfl)) (by decide) (backOf (W := 0) (rmf2e l Z a0 hw [] q ks js ss kf jf sz KF JF sn la bb h0 n0 (Nat.le_trans Z0 K0.1) E_q F_k F_i F_s F_n F_l A_k A_j V_s W_k W_j Ik Ij GR G_q G_s N_q N_ks N_js N_ss n_q_ss n_ks_ss n_js_ss n_ks_q n_js_q hbb hone hrest hpos hcmp) hZ (tb hw 137 rfl) (tb hw 11 rfl) (by decide) (by decide)) (g := (mkF m 1 #[vr q] [(.ref q)])) rfl (by rw [hml]; rfl) (Steps.refl _) (a := q) (by rw [e0]; exact q1) q1' (argsL := []) (rest := []) (lenOf pd_5 rfl) rfl (by show 2 * 0 + _ ≤ _; exact Nat.le_of_eq rfl) (hb hby d18_1) (fun _ _ => ⟨rfl, e0, (by decide : 0 + 0 ≤ _), (by decide : 0 + 0 ≤ _)⟩)
  dsimp only [Pt.U, Pt.locs, Pt.cells, Pt.slots] at X1 l1 y1 z1 st1 hQ1
  subst y1 z1
  obtain ⟨s2_5, K2_6, J2_7, l2_8, rfl, N1q, f9, f10, f11, f12, f13, K1q, h14, h15, h16, h17, h18, h19, h20, h21, h22, h23, h24⟩ := hQ1
  have N1 : Fr n0 L1 := by rw [l1]; exact Fr.app N0 N1q
  have K1 : Keep h0 T1.heap ([q, ss] ++ rowsOf kf jf) := K0.trans K1q (fun x hx => (fun x hx => (List.mem_append.mp hx).elim ((show ∀ x ∈ ([q, ss] : List Addr), x ∈ (([q, ss] ++ rowsOf kf jf) : List Addr) ∨ h0.size ≤ x from (allS (Or.inl (List.mem_append_left _ (List.mem_of_getElem? (i := 0) rfl))) (allS (Or.inl (List.mem_append_left _ (List.mem_of_getElem? (i := 1) rfl))) all0))) x) (fun q => Or.inl (List.mem_append_right _ q))) x hx)
  refine Go.tr  st1 ?_
  show Go p e below s Q 0 0 (T1.setTop (mkF m 4 #[vr q] []))
  have hs0 : (s2_5 0).toInt = 2 := f9
  refine gA X1 hx hby rfl d18_4 rfl rfl ?_
  obtain ⟨T25, X25, e25, st25⟩ := getF X1 hx hZ hown (host := "") (Or.inl (tb hw 18 rfl)) Via.refl rfl h15 (g := (mkF m 5 #[vr q] [(.ref q)])) rfl rfl (hb hby d18_5)
  refine Go.st st25 ?_
  refine gI X25 hx hby rfl d18_8 ?_
  refine Go.st (RA.ild X25 hx hZ e25 h20 (j := (0 : Int32)) (by decide) (by decide) (g := (mkF m 9 #[vr q] [(.int (0 : Int32)), (.ref ks)])) rfl rfl (hb hby d18_9)) ?_
  show Go p e below s Q 0 0 (T25.setTop (mkF m 10 #[vr q] [(.ref (kf 0))]))
  obtain ⟨rw26, hr26⟩ : ∃ z, z = kf 0 := ⟨_, rfl⟩
  rw [← hr26]
  have Grw26 : n0 ≤ rw26 := by rw [hr26]; exact (GR 0 (by decide)).1
  have h27 : Vec Z T1.heap rw26 .long (4 : Int32) (longs (K2_6 0)) := by rw [hr26]; exact h23 0 (by decide)
  show Go p e below s Q 0 0 (T25.setTop (mkF m 10 #[vr q] [(.ref rw26)]))
  refine gA X25 hx hby rfl d18_10 rfl rfl ?_
  obtain ⟨T28, X28, e28, st28⟩ := getF X25 hx hZ hown (host := "") (Or.inl (tb hw 25 rfl)) Via.refl e25 h17 (g := (mkF m 11 #[vr q] [(.ref q), (.ref rw26)])) rfl rfl (hb hby d18_11)
  refine Go.st st28 ?_
  refine gI X28 hx hby rfl d18_14 ?_
  refine Go.st (Vec.ildI X28 hx hZ e28 h22 (j := (0 : Int32)) (by decide) (by decide) (g := (mkF m 15 #[vr q] [(.int (0 : Int32)), (.ref ss), (.ref rw26)])) rfl rfl (hb hby d18_15)) ?_
  refine gI X28 hx hby rfl d18_16 ?_
  refine Go.st (fun _ k => XS.isub X28.here hx rfl (hb hby d18_17) rfl k) ?_
  show Go p e below s Q 0 0 (T28.setTop (mkF m 18 #[vr q] [(.int ((s2_5 0) - (1 : Int32))), (.ref rw26)]))
  have f30 := rng32 (s2_5 0)
  have f31 := liI_1
  have f32 := c_isub (s2_5 0) (1 : Int32)
  have f33 := rng32 ((s2_5 0) - (1 : Int32))
  have hix : ((s2_5 0) - (1 : Int32)).toInt.toNat = 1 := by omega
  have f35 := liI_4
  have r36 : 0 ≤ ((s2_5 0) - (1 : Int32)).toInt := by omega
  have r37 : ((s2_5 0) - (1 : Int32)).toInt < (4 : Int32).toInt := by omega
  refine Go.st (Vec.ildJ X28 hx hZ e28 h27 (j := ((s2_5 0) - (1 : Int32))) r36 r37 (g := (mkF m 18 #[vr q] [(.int ((s2_5 0) - (1 : Int32))), (.ref rw26)])) rfl rfl (hb hby d18_18)) ?_
  show Go p e below s Q 0 0 (T28.setTop (mkF m 19 #[vr q] [(.long ((K2_6 0) ((s2_5 0) - (1 : Int32)).toInt.toNat))]))
  have f38 := rng64 ((K2_6 0) ((s2_5 0) - (1 : Int32)).toInt.toNat)
  exact Go.retJ X28 hx hlk Bd.returns (hb hby d18_19) (by rw [← hQ, e28]; exact ⟨s2_5, K2_6, J2_7, l2_8, ((K2_6 0) ((s2_5 0) - (1 : Int32)).toInt.toNat), rfl, N1, (by exact f9), (by exact f10), (by exact f11), (by exact f12), (by exact f13), (by exact (congrArg (K2_6 0) hix).trans f11.2), K1, h14, h15, h16, h17, h18, h19, h20, h21, h22, h23, h24⟩) (by decide) (by decide)
theorem ef_rmkf2l (m : MethodId) (q : Addr) : entryFrame m #[(.ref q)] 1 = mkF m 0 #[vr q] [] := by first | (simp [entryFrame, mkF, argsToLocals, Value.category]; done) | rfl
def Qkf2l (Z : State) (q ks js ss : Addr) (kf jf : Nat → Addr) (sz : Nat → Int32) (KF : Nat → Nat → Int64) (JF : Nat → Nat → Int32) (sn : Int32) (la : Int64) (bb : Int32) (h0 : Heap) (n0 : Nat) (vv : Option Value) (h : Heap) (LL : List Loc) : Prop := ∃ (s2 : Nat → Int32) (K2 : Nat → Nat → Int64) (J2 : Nat → Nat → Int32) (l2 : Int64) (cb : Int32) (rr : Int64), vv = some (.long rr) ∧ Fr n0 LL ∧ (1 ≤ cb.toInt ∧ cb.toInt ≤ 63) ∧ (∀ b : Nat, b < 65 → (s2 b).toInt = if b = 0 ∨ b = cb.toInt.toNat then 1 else 0) ∧ (K2 0 0 = KF bb.toInt.toNat 0 ∧ K2 cb.toInt.toNat 0 = KF bb.toInt.toNat 1) ∧ (J2 0 0 = JF bb.toInt.toNat 0 ∧ J2 cb.toInt.toNat 0 = JF bb.toInt.toNat 1) ∧ (l2.toInt = (KF bb.toInt.toNat 0).toInt) ∧ (rr = KF bb.toInt.toNat 0) ∧ Keep h0 h ([q, ss] ++ rowsOf kf jf) ∧ (Exa Z h q cR) ∧ (Fld Z h q cR "keys" "[[J" (.ref ks)) ∧ (Fld Z h q cR "ids" "[[I" (.ref js)) ∧ (Fld Z h q cR "sizes" "[I" (.ref ss)) ∧ (Fld Z h q cR "size" "I" (.int sn)) ∧ (Fld Z h q cR "last" "J" (.long l2)) ∧ (RA Z h ks .long kf) ∧ (RA Z h js .int jf) ∧ (Vec Z h ss .int (65 : Int32) (ints s2)) ∧ (RwJ Z h kf K2) ∧ (RwI Z h jf J2)
set_option maxRecDepth 65536 in
set_option maxHeartbeats 40000000 in
theorem rmkf2l (l : Launch) (Z : State) (a0 : Array Value) (hw : ∀ d ∈ tables_1, d.before a0 Z = true) (ws : List Jvm.Cond) (q ks js ss : Addr) (kf jf : Nat → Addr) (sz : Nat → Int32) (KF : Nat → Nat → Int64) (JF : Nat → Nat → Int32) (sn : Int32) (la : Int64) (bb : Int32) (h0 : Heap) (n0 : Nat) (Z0 : n0 ≤ h0.size) (E_q : Exa Z h0 q cR) (F_k : Fld Z h0 q cR "keys" "[[J" (.ref ks)) (F_i : Fld Z h0 q cR "ids" "[[I" (.ref js)) (F_s : Fld Z h0 q cR "sizes" "[I" (.ref ss)) (F_n : Fld Z h0 q cR "size" "I" (.int sn)) (F_l : Fld Z h0 q cR "last" "J" (.long la)) (A_k : RA Z h0 ks .long kf) (A_j : RA Z h0 js .int jf) (V_s : Vec Z h0 ss .int (65 : Int32) (ints sz)) (W_k : RwJ Z h0 kf KF) (W_j : RwI Z h0 jf JF) (Ik : Inj kf) (Ij : Inj jf) (GR : ∀ b : Nat, b < 65 → n0 ≤ kf b ∧ n0 ≤ jf b) (G_q : n0 ≤ q) (G_s : n0 ≤ ss) (N_q : NR kf jf q) (N_ks : NR kf jf ks) (N_js : NR kf jf js) (N_ss : NR kf jf ss) (n_q_ss : q ≠ ss) (n_ks_ss : ks ≠ ss) (n_js_ss : js ≠ ss) (n_ks_q : ks ≠ q) (n_js_q : js ≠ q) (hbb : 1 ≤ bb.toInt ∧ bb.toInt ≤ 64 ∧ 64 ≤ bb.toInt) (hone : (sz bb.toInt.toNat).toInt = 2) (hrest : ∀ b : Nat, b < 65 → ¬ (b : Int) = bb.toInt → (sz b).toInt = 0) (hpos : 0 ≤ (KF bb.toInt.toNat 0).toInt ∧ 0 ≤ (KF bb.toInt.toNat 1).toInt) (hcmp : (KF bb.toInt.toNat 0).toInt < (KF bb.toInt.toNat 1).toInt) :
    MetFree l (⟨cR, "topKey", "()J"⟩ : MethodName) (head1 (Jvm.Cond.code (⟨cR, "topKey", "()J"⟩ : MethodName) kc18 1 (some .long) :: ws) ({ frames := 4, cells := 0, slots := 0, locals := 63 } : Room)) (fun aa UU => aa = #[(.ref q)] ∧ Z.Warmed39 UU.vm ∧ UU.heap = h0) (fun _ _ _ _ _ => True) (fun _ UU oo UU' => ∃ vv LL, oo = .returned vv ∧ Qkf2l Z q ks js ss kf jf sz KF JF sn la bb h0 n0 vv UU'.heap LL ∧ FrameEnd UU oo UU' LL 0 0) := by
  refine MetFree.of_bodySF (plainFor_of_name pn_2) hisR ?_
  intro p e s m args below meth c s₁ Bd hml0 hP hK
  obtain ⟨rfl, hZ, hh⟩ := hP
  have hx := Bd.exec
  have hby := Bd.bytes
  have hlk : meth.locks = false := BodyLoose.notSynchronized Bd
  have hml : c.maxLocals = 1 := hml0
  have hown : s.vm.findClass cR = some m.cls := findClass_of_methodNamed Bd.named
  have hnm := (name_of_methodNamed Bd.named Bd.method).1
  have X0 : Stand p l e ({ frames := 4, cells := 0, slots := 0, locals := 63 } : Room) s m #[(.ref q)] below meth c s₁ [] 0 0 := Stand.of_body Bd
  have e0 : s₁.heap = h0 := by rw [← hh, Bd.state]; rfl
  have N0 := Fr.nil n0
  have K0 : Keep h0 h0 ([q, ss] ++ rowsOf kf jf) := Keep.refl h0 _
  refine (?_ : Go p e below s (Qkf2l Z q ks js ss kf jf sz KF JF sn la bb h0 n0) 0 0 (s₁.setTop (entryFrame m #[(.ref q)] 1)))
  rw [ef_rmkf2l]
  generalize hQ : Qkf2l Z q ks js ss kf jf sz KF JF sn la bb h0 n0 = Q
  show Go p e below s Q 0 0 (s₁.setTop (mkF m 0 #[vr q] []))
  refine gA X0 hx hby rfl d18_0 rfl rfl ?_
  have f2 := rng32 sn
  have f3 := rng64 la
  have f4 := rng32 bb
  obtain ⟨cq1, q1, q1'⟩ := E_q.cell
  have pv1 := Cond.privateMethod_at (mvP hZ (tb hw 136 rfl) (args := #[]))
  obtain ⟨_, _, ⟨T1, L1, k1, n1⟩, -, X1, ⟨Lc1, hQ1, l1, y1, z1⟩, st1⟩ := X0.privateBack hx (y := (⟨cR, "fillFirstBucket", "()V"⟩ : MethodName)) hown (mvT hZ (tb hw 134 rfl)) (mvT hZ (tb hw 135 rfl)) (self_sel (mvT hZ (args := #[]) (tb hw 64 rfl)) rfl pv1 (mvT hZ (tb hw 135 rfl)) (by decide)) pv1 (mvT hZ (tb hw 137 rfl)) (by decide) (backOf (W := 0) (rmf2l l Z a0 hw [] q ks js ss kf jf sz KF JF sn la bb h0 n0 (Nat.le_trans Z0 K0.1) E_q F_k F_i F_s F_n F_l A_k A_j V_s W_k W_j Ik Ij GR G_q G_s N_q N_ks N_js N_ss n_q_ss n_ks_ss n_js_ss n_ks_q n_js_q hbb hone hrest hpos hcmp) hZ (tb hw 137 rfl) (tb hw 11 rfl) (by decide) (by decide)) (g := (mkF m 1 #[vr q] [(.ref q)])) rfl (by rw [hml]; rfl) (Steps.refl _) (a := q) (by rw [e0]; exact q1) q1' (argsL := []) (rest := []) (lenOf pd_5 rfl) rfl (by show 2 * 0 + _ ≤ _; exact Nat.le_of_eq rfl) (hb hby d18_1) (fun _ _ => ⟨rfl, e0, (by decide : 0 + 0 ≤ _), (by decide : 0 + 0 ≤ _)⟩)
  dsimp only [Pt.U, Pt.locs, Pt.cells, Pt.slots] at X1 l1 y1 z1 st1 hQ1
  subst y1 z1
  obtain ⟨s2_5, K2_6, J2_7, l2_8, cb_9, rfl, N1q, f10, f11, f12, f13, f14, K1q, h15, h16, h17, h18, h19, h20, h21, h22, h23, h24, h25⟩ := hQ1
  have N1 : Fr n0 L1 := by rw [l1]; exact Fr.app N0 N1q
  have K1 : Keep h0 T1.heap ([q, ss] ++ rowsOf kf jf) := K0.trans K1q (fun x hx => (fun x hx => (List.mem_append.mp hx).elim ((show ∀ x ∈ ([q, ss] : List Addr), x ∈ (([q, ss] ++ rowsOf kf jf) : List Addr) ∨ h0.size ≤ x from (allS (Or.inl (List.mem_append_left _ (List.mem_of_getElem? (i := 0) rfl))) (allS (Or.inl (List.mem_append_left _ (List.mem_of_getElem? (i := 1) rfl))) all0))) x) (fun q => Or.inl (List.mem_append_right _ q))) x hx)
  refine Go.tr  st1 ?_
  show Go p e below s Q 0 0 (T1.setTop (mkF m 4 #[vr q] []))
  have hs0 : (s2_5 0).toInt = 1 := (f11 0 (by decide)).trans (if_pos (Or.inl rfl))
  refine gA X1 hx hby rfl d18_4 rfl rfl ?_
  obtain ⟨T26, X26, e26, st26⟩ := getF X1 hx hZ hown (host := "") (Or.inl (tb hw 18 rfl)) Via.refl rfl h16 (g := (mkF m 5 #[vr q] [(.ref q)])) rfl rfl (hb hby d18_5)
  refine Go.st st26 ?_
  refine gI X26 hx hby rfl d18_8 ?_
  refine Go.st (RA.ild X26 hx hZ e26 h21 (j := (0 : Int32)) (by decide) (by decide) (g := (mkF m 9 #[vr q] [(.int (0 : Int32)), (.ref ks)])) rfl rfl (hb hby d18_9)) ?_
  show Go p e below s Q 0 0 (T26.setTop (mkF m 10 #[vr q] [(.ref (kf 0))]))
  obtain ⟨rw27, hr27⟩ : ∃ z, z = kf 0 := ⟨_, rfl⟩
  rw [← hr27]
  have Grw27 : n0 ≤ rw27 := by rw [hr27]; exact (GR 0 (by decide)).1
  have h28 : Vec Z T1.heap rw27 .long (4 : Int32) (longs (K2_6 0)) := by rw [hr27]; exact h24 0 (by decide)
  show Go p e below s Q 0 0 (T26.setTop (mkF m 10 #[vr q] [(.ref rw27)]))
  refine gA X26 hx hby rfl d18_10 rfl rfl ?_
  obtain ⟨T29, X29, e29, st29⟩ := getF X26 hx hZ hown (host := "") (Or.inl (tb hw 25 rfl)) Via.refl e26 h18 (g := (mkF m 11 #[vr q] [(.ref q), (.ref rw27)])) rfl rfl (hb hby d18_11)
  refine Go.st st29 ?_
  refine gI X29 hx hby rfl d18_14 ?_
  refine Go.st (Vec.ildI X29 hx hZ e29 h23 (j := (0 : Int32)) (by decide) (by decide) (g := (mkF m 15 #[vr q] [(.int (0 : Int32)), (.ref ss), (.ref rw27)])) rfl rfl (hb hby d18_15)) ?_
  refine gI X29 hx hby rfl d18_16 ?_
  refine Go.st (fun _ k => XS.isub X29.here hx rfl (hb hby d18_17) rfl k) ?_
  show Go p e below s Q 0 0 (T29.setTop (mkF m 18 #[vr q] [(.int ((s2_5 0) - (1 : Int32))), (.ref rw27)]))
  have f31 := rng32 (s2_5 0)
  have f32 := liI_1
  have f33 := c_isub (s2_5 0) (1 : Int32)
  have f34 := rng32 ((s2_5 0) - (1 : Int32))
  have hix : ((s2_5 0) - (1 : Int32)).toInt.toNat = 0 := by omega
  have f36 := liI_4
  have r37 : 0 ≤ ((s2_5 0) - (1 : Int32)).toInt := by omega
  have r38 : ((s2_5 0) - (1 : Int32)).toInt < (4 : Int32).toInt := by omega
  refine Go.st (Vec.ildJ X29 hx hZ e29 h28 (j := ((s2_5 0) - (1 : Int32))) r37 r38 (g := (mkF m 18 #[vr q] [(.int ((s2_5 0) - (1 : Int32))), (.ref rw27)])) rfl rfl (hb hby d18_18)) ?_
  show Go p e below s Q 0 0 (T29.setTop (mkF m 19 #[vr q] [(.long ((K2_6 0) ((s2_5 0) - (1 : Int32)).toInt.toNat))]))
  have f39 := rng64 ((K2_6 0) ((s2_5 0) - (1 : Int32)).toInt.toNat)
  exact Go.retJ X29 hx hlk Bd.returns (hb hby d18_19) (by rw [← hQ, e29]; exact ⟨s2_5, K2_6, J2_7, l2_8, cb_9, ((K2_6 0) ((s2_5 0) - (1 : Int32)).toInt.toNat), rfl, N1, (by exact f10), (by exact f11), (by exact f12), (by exact f13), (by exact f14), (by exact (congrArg (K2_6 0) hix).trans f12.1), K1, h15, h16, h17, h18, h19, h20, h21, h22, h23, h24, h25⟩) (by decide) (by decide)
theorem ef_rmkf2g (m : MethodId) (q : Addr) : entryFrame m #[(.ref q)] 1 = mkF m 0 #[vr q] [] := by first | (simp [entryFrame, mkF, argsToLocals, Value.category]; done) | rfl
def Qkf2g (Z : State) (q ks js ss : Addr) (kf jf : Nat → Addr) (sz : Nat → Int32) (KF : Nat → Nat → Int64) (JF : Nat → Nat → Int32) (sn : Int32) (la : Int64) (bb : Int32) (h0 : Heap) (n0 : Nat) (vv : Option Value) (h : Heap) (LL : List Loc) : Prop := ∃ (s2 : Nat → Int32) (K2 : Nat → Nat → Int64) (J2 : Nat → Nat → Int32) (l2 : Int64) (cb : Int32) (rr : Int64), vv = some (.long rr) ∧ Fr n0 LL ∧ (1 ≤ cb.toInt ∧ cb.toInt ≤ 63) ∧ (∀ b : Nat, b < 65 → (s2 b).toInt = if b = cb.toInt.toNat ∨ b = 0 then 1 else 0) ∧ (K2 cb.toInt.toNat 0 = KF bb.toInt.toNat 0 ∧ K2 0 0 = KF bb.toInt.toNat 1) ∧ (J2 cb.toInt.toNat 0 = JF bb.toInt.toNat 0 ∧ J2 0 0 = JF bb.toInt.toNat 1) ∧ (l2.toInt = (KF bb.toInt.toNat 1).toInt) ∧ (rr = KF bb.toInt.toNat 1) ∧ Keep h0 h ([q, ss] ++ rowsOf kf jf) ∧ (Exa Z h q cR) ∧ (Fld Z h q cR "keys" "[[J" (.ref ks)) ∧ (Fld Z h q cR "ids" "[[I" (.ref js)) ∧ (Fld Z h q cR "sizes" "[I" (.ref ss)) ∧ (Fld Z h q cR "size" "I" (.int sn)) ∧ (Fld Z h q cR "last" "J" (.long l2)) ∧ (RA Z h ks .long kf) ∧ (RA Z h js .int jf) ∧ (Vec Z h ss .int (65 : Int32) (ints s2)) ∧ (RwJ Z h kf K2) ∧ (RwI Z h jf J2)
set_option maxRecDepth 65536 in
set_option maxHeartbeats 40000000 in
theorem rmkf2g (l : Launch) (Z : State) (a0 : Array Value) (hw : ∀ d ∈ tables_1, d.before a0 Z = true) (ws : List Jvm.Cond) (q ks js ss : Addr) (kf jf : Nat → Addr) (sz : Nat → Int32) (KF : Nat → Nat → Int64) (JF : Nat → Nat → Int32) (sn : Int32) (la : Int64) (bb : Int32) (h0 : Heap) (n0 : Nat) (Z0 : n0 ≤ h0.size) (E_q : Exa Z h0 q cR) (F_k : Fld Z h0 q cR "keys" "[[J" (.ref ks)) (F_i : Fld Z h0 q cR "ids" "[[I" (.ref js)) (F_s : Fld Z h0 q cR "sizes" "[I" (.ref ss)) (F_n : Fld Z h0 q cR "size" "I" (.int sn)) (F_l : Fld Z h0 q cR "last" "J" (.long la)) (A_k : RA Z h0 ks .long kf) (A_j : RA Z h0 js .int jf) (V_s : Vec Z h0 ss .int (65 : Int32) (ints sz)) (W_k : RwJ Z h0 kf KF) (W_j : RwI Z h0 jf JF) (Ik : Inj kf) (Ij : Inj jf) (GR : ∀ b : Nat, b < 65 → n0 ≤ kf b ∧ n0 ≤ jf b) (G_q : n0 ≤ q) (G_s : n0 ≤ ss) (N_q : NR kf jf q) (N_ks : NR kf jf ks) (N_js : NR kf jf js) (N_ss : NR kf jf ss) (n_q_ss : q ≠ ss) (n_ks_ss : ks ≠ ss) (n_js_ss : js ≠ ss) (n_ks_q : ks ≠ q) (n_js_q : js ≠ q) (hbb : 1 ≤ bb.toInt ∧ bb.toInt ≤ 64 ∧ 64 ≤ bb.toInt) (hone : (sz bb.toInt.toNat).toInt = 2) (hrest : ∀ b : Nat, b < 65 → ¬ (b : Int) = bb.toInt → (sz b).toInt = 0) (hpos : 0 ≤ (KF bb.toInt.toNat 0).toInt ∧ 0 ≤ (KF bb.toInt.toNat 1).toInt) (hcmp : (KF bb.toInt.toNat 1).toInt < (KF bb.toInt.toNat 0).toInt) :
    MetFree l (⟨cR, "topKey", "()J"⟩ : MethodName) (head1 (Jvm.Cond.code (⟨cR, "topKey", "()J"⟩ : MethodName) kc18 1 (some .long) :: ws) ({ frames := 4, cells := 0, slots := 0, locals := 63 } : Room)) (fun aa UU => aa = #[(.ref q)] ∧ Z.Warmed39 UU.vm ∧ UU.heap = h0) (fun _ _ _ _ _ => True) (fun _ UU oo UU' => ∃ vv LL, oo = .returned vv ∧ Qkf2g Z q ks js ss kf jf sz KF JF sn la bb h0 n0 vv UU'.heap LL ∧ FrameEnd UU oo UU' LL 0 0) := by
  refine MetFree.of_bodySF (plainFor_of_name pn_2) hisR ?_
  intro p e s m args below meth c s₁ Bd hml0 hP hK
  obtain ⟨rfl, hZ, hh⟩ := hP
  have hx := Bd.exec
  have hby := Bd.bytes
  have hlk : meth.locks = false := BodyLoose.notSynchronized Bd
  have hml : c.maxLocals = 1 := hml0
  have hown : s.vm.findClass cR = some m.cls := findClass_of_methodNamed Bd.named
  have hnm := (name_of_methodNamed Bd.named Bd.method).1
  have X0 : Stand p l e ({ frames := 4, cells := 0, slots := 0, locals := 63 } : Room) s m #[(.ref q)] below meth c s₁ [] 0 0 := Stand.of_body Bd
  have e0 : s₁.heap = h0 := by rw [← hh, Bd.state]; rfl
  have N0 := Fr.nil n0
  have K0 : Keep h0 h0 ([q, ss] ++ rowsOf kf jf) := Keep.refl h0 _
  refine (?_ : Go p e below s (Qkf2g Z q ks js ss kf jf sz KF JF sn la bb h0 n0) 0 0 (s₁.setTop (entryFrame m #[(.ref q)] 1)))
  rw [ef_rmkf2g]
  generalize hQ : Qkf2g Z q ks js ss kf jf sz KF JF sn la bb h0 n0 = Q
  show Go p e below s Q 0 0 (s₁.setTop (mkF m 0 #[vr q] []))
  refine gA X0 hx hby rfl d18_0 rfl rfl ?_
  have f2 := rng32 sn
  have f3 := rng64 la
  have f4 := rng32 bb
  obtain ⟨cq1, q1, q1'⟩ := E_q.cell
  have pv1 := Cond.privateMethod_at (mvP hZ (tb hw 136 rfl) (args := #[]))
  obtain ⟨_, _, ⟨T1, L1, k1, n1⟩, -, X1, ⟨Lc1, hQ1, l1, y1, z1⟩, st1⟩ := X0.privateBack hx (y := (⟨cR, "fillFirstBucket", "()V"⟩ : MethodName)) hown (mvT hZ (tb hw 134 rfl)) (mvT hZ (tb hw 135 rfl)) (self_sel (mvT hZ (args := #[]) (tb hw 64 rfl)) rfl pv1 (mvT hZ (tb hw 135 rfl)) (by decide)) pv1 (mvT hZ (tb hw 137 rfl)) (by decide) (backOf (W := 0) (rmf2g l Z a0 hw [] q ks js ss kf jf sz KF JF sn la bb h0 n0 (Nat.le_trans Z0 K0.1) E_q F_k F_i F_s F_n F_l A_k A_j V_s W_k W_j Ik Ij GR G_q G_s N_q N_ks N_js N_ss n_q_ss n_ks_ss n_js_ss n_ks_q n_js_q hbb hone hrest hpos hcmp) hZ (tb hw 137 rfl) (tb hw 11 rfl) (by decide) (by decide)) (g := (mkF m 1 #[vr q] [(.ref q)])) rfl (by rw [hml]; rfl) (Steps.refl _) (a := q) (by rw [e0]; exact q1) q1' (argsL := []) (rest := []) (lenOf pd_5 rfl) rfl (by show 2 * 0 + _ ≤ _; exact Nat.le_of_eq rfl) (hb hby d18_1) (fun _ _ => ⟨rfl, e0, (by decide : 0 + 0 ≤ _), (by decide : 0 + 0 ≤ _)⟩)
  dsimp only [Pt.U, Pt.locs, Pt.cells, Pt.slots] at X1 l1 y1 z1 st1 hQ1
  subst y1 z1
  obtain ⟨s2_5, K2_6, J2_7, l2_8, cb_9, rfl, N1q, f10, f11, f12, f13, f14, K1q, h15, h16, h17, h18, h19, h20, h21, h22, h23, h24, h25⟩ := hQ1
  have N1 : Fr n0 L1 := by rw [l1]; exact Fr.app N0 N1q
  have K1 : Keep h0 T1.heap ([q, ss] ++ rowsOf kf jf) := K0.trans K1q (fun x hx => (fun x hx => (List.mem_append.mp hx).elim ((show ∀ x ∈ ([q, ss] : List Addr), x ∈ (([q, ss] ++ rowsOf kf jf) : List Addr) ∨ h0.size ≤ x from (allS (Or.inl (List.mem_append_left _ (List.mem_of_getElem? (i := 0) rfl))) (allS (Or.inl (List.mem_append_left _ (List.mem_of_getElem? (i := 1) rfl))) all0))) x) (fun q => Or.inl (List.mem_append_right _ q))) x hx)
  refine Go.tr  st1 ?_
  show Go p e below s Q 0 0 (T1.setTop (mkF m 4 #[vr q] []))
  have hs0 : (s2_5 0).toInt = 1 := (f11 0 (by decide)).trans (if_pos (Or.inr rfl))
  refine gA X1 hx hby rfl d18_4 rfl rfl ?_
  obtain ⟨T26, X26, e26, st26⟩ := getF X1 hx hZ hown (host := "") (Or.inl (tb hw 18 rfl)) Via.refl rfl h16 (g := (mkF m 5 #[vr q] [(.ref q)])) rfl rfl (hb hby d18_5)
  refine Go.st st26 ?_
  refine gI X26 hx hby rfl d18_8 ?_
  refine Go.st (RA.ild X26 hx hZ e26 h21 (j := (0 : Int32)) (by decide) (by decide) (g := (mkF m 9 #[vr q] [(.int (0 : Int32)), (.ref ks)])) rfl rfl (hb hby d18_9)) ?_
  show Go p e below s Q 0 0 (T26.setTop (mkF m 10 #[vr q] [(.ref (kf 0))]))
  obtain ⟨rw27, hr27⟩ : ∃ z, z = kf 0 := ⟨_, rfl⟩
  rw [← hr27]
  have Grw27 : n0 ≤ rw27 := by rw [hr27]; exact (GR 0 (by decide)).1
  have h28 : Vec Z T1.heap rw27 .long (4 : Int32) (longs (K2_6 0)) := by rw [hr27]; exact h24 0 (by decide)
  show Go p e below s Q 0 0 (T26.setTop (mkF m 10 #[vr q] [(.ref rw27)]))
  refine gA X26 hx hby rfl d18_10 rfl rfl ?_
  obtain ⟨T29, X29, e29, st29⟩ := getF X26 hx hZ hown (host := "") (Or.inl (tb hw 25 rfl)) Via.refl e26 h18 (g := (mkF m 11 #[vr q] [(.ref q), (.ref rw27)])) rfl rfl (hb hby d18_11)
  refine Go.st st29 ?_
  refine gI X29 hx hby rfl d18_14 ?_
  refine Go.st (Vec.ildI X29 hx hZ e29 h23 (j := (0 : Int32)) (by decide) (by decide) (g := (mkF m 15 #[vr q] [(.int (0 : Int32)), (.ref ss), (.ref rw27)])) rfl rfl (hb hby d18_15)) ?_
  refine gI X29 hx hby rfl d18_16 ?_
  refine Go.st (fun _ k => XS.isub X29.here hx rfl (hb hby d18_17) rfl k) ?_
  show Go p e below s Q 0 0 (T29.setTop (mkF m 18 #[vr q] [(.int ((s2_5 0) - (1 : Int32))), (.ref rw27)]))
  have f31 := rng32 (s2_5 0)
  have f32 := liI_1
  have f33 := c_isub (s2_5 0) (1 : Int32)
  have f34 := rng32 ((s2_5 0) - (1 : Int32))
  have hix : ((s2_5 0) - (1 : Int32)).toInt.toNat = 0 := by omega
  have f36 := liI_4
  have r37 : 0 ≤ ((s2_5 0) - (1 : Int32)).toInt := by omega
  have r38 : ((s2_5 0) - (1 : Int32)).toInt < (4 : Int32).toInt := by omega
  refine Go.st (Vec.ildJ X29 hx hZ e29 h28 (j := ((s2_5 0) - (1 : Int32))) r37 r38 (g := (mkF m 18 #[vr q] [(.int ((s2_5 0) - (1 : Int32))), (.ref rw27)])) rfl rfl (hb hby d18_18)) ?_
  show Go p e below s Q 0 0 (T29.setTop (mkF m 19 #[vr q] [(.long ((K2_6 0) ((s2_5 0) - (1 : Int32)).toInt.toNat))]))
  have f39 := rng64 ((K2_6 0) ((s2_5 0) - (1 : Int32)).toInt.toNat)
  exact Go.retJ X29 hx hlk Bd.returns (hb hby d18_19) (by rw [← hQ, e29]; exact ⟨s2_5, K2_6, J2_7, l2_8, cb_9, ((K2_6 0) ((s2_5 0) - (1 : Int32)).toInt.toNat), rfl, N1, (by exact f10), (by exact f11), (by exact f12), (by exact f13), (by exact f14), (by exact (congrArg (K2_6 0) hix).trans f12.2), K1, h15, h16, h17, h18, h19, h20, h21, h22, h23, h24, h25⟩) (by decide) (by decide)
def Qkt (Z : State) (q ks js ss : Addr) (kf jf : Nat → Addr) (sz : Nat → Int32) (KF : Nat → Nat → Int64) (JF : Nat → Nat → Int32) (sn : Int32) (la tk : Int64) (ti mo : Int32) (tl : Int64) (tj : Int32) (h0 : Heap) (n0 : Nat) (vv : Option Value) (h : Heap) (LL : List Loc) : Prop := ∃ (s2 : Nat → Int32) (K2 : Nat → Nat → Int64) (J2 : Nat → Nat → Int32) (l2 rr : Int64), vv = some (.long rr) ∧ Fr n0 LL ∧ (rr = tk) ∧ (QU s2 K2 J2 tk ti mo tl tj) ∧ Keep h0 h ([q, ss] ++ rowsOf kf jf) ∧ (Exa Z h q cR) ∧ (Fld Z h q cR "keys" "[[J" (.ref ks)) ∧ (Fld Z h q cR "ids" "[[I" (.ref js)) ∧ (Fld Z h q cR "sizes" "[I" (.ref ss)) ∧ (Fld Z h q cR "size" "I" (.int sn)) ∧ (Fld Z h q cR "last" "J" (.long l2)) ∧ (RA Z h ks .long kf) ∧ (RA Z h js .int jf) ∧ (Vec Z h ss .int (65 : Int32) (ints s2)) ∧ (RwJ Z h kf K2) ∧ (RwI Z h jf J2)
set_option maxRecDepth 65536 in
set_option maxHeartbeats 40000000 in
theorem rmkt (l : Launch) (Z : State) (a0 : Array Value) (hw : ∀ d ∈ tables_1, d.before a0 Z = true) (ws : List Jvm.Cond) (q ks js ss : Addr) (kf jf : Nat → Addr) (sz : Nat → Int32) (KF : Nat → Nat → Int64) (JF : Nat → Nat → Int32) (sn : Int32) (la tk : Int64) (ti mo : Int32) (tl : Int64) (tj : Int32) (h0 : Heap) (n0 : Nat) (Z0 : n0 ≤ h0.size) (E_q : Exa Z h0 q cR) (F_k : Fld Z h0 q cR "keys" "[[J" (.ref ks)) (F_i : Fld Z h0 q cR "ids" "[[I" (.ref js)) (F_s : Fld Z h0 q cR "sizes" "[I" (.ref ss)) (F_n : Fld Z h0 q cR "size" "I" (.int sn)) (F_l : Fld Z h0 q cR "last" "J" (.long la)) (A_k : RA Z h0 ks .long kf) (A_j : RA Z h0 js .int jf) (V_s : Vec Z h0 ss .int (65 : Int32) (ints sz)) (W_k : RwJ Z h0 kf KF) (W_j : RwI Z h0 jf JF) (Ik : Inj kf) (Ij : Inj jf) (GR : ∀ b : Nat, b < 65 → n0 ≤ kf b ∧ n0 ≤ jf b) (G_q : n0 ≤ q) (G_s : n0 ≤ ss) (N_q : NR kf jf q) (N_ks : NR kf jf ks) (N_js : NR kf jf js) (N_ss : NR kf jf ss) (n_q_ss : q ≠ ss) (n_ks_ss : ks ≠ ss) (n_js_ss : js ≠ ss) (n_ks_q : ks ≠ q) (n_js_q : js ≠ q) (hqt : QT sz KF JF tk ti mo tl tj) :
    MetFree l (⟨cR, "topKey", "()J"⟩ : MethodName) (head1 (Jvm.Cond.code (⟨cR, "topKey", "()J"⟩ : MethodName) kc18 1 (some .long) :: ws) ({ frames := 4, cells := 0, slots := 0, locals := 63 } : Room)) (fun aa UU => aa = #[(.ref q)] ∧ Z.Warmed39 UU.vm ∧ UU.heap = h0) (fun _ _ _ _ _ => True) (fun _ UU oo UU' => ∃ vv LL, oo = .returned vv ∧ Qkt Z q ks js ss kf jf sz KF JF sn la tk ti mo tl tj h0 n0 vv UU'.heap LL ∧ FrameEnd UU oo UU' LL 0 0) := by
  rcases hqt with ⟨hmo, bb, hon⟩ | ⟨hmo, hk1, hk2, bb, ⟨⟨t1, t2, t3, t4, t5, t6, t7⟩, hc⟩ | ⟨⟨t1, t2, t3, t4, t5, t6, t7⟩, hc⟩⟩
  · by_cases hb : bb.toInt = 0
    · refine mono2 (Qk0 Z q ks ss kf sz KF h0 n0) (rmk0 l Z a0 hw ws q ks ss kf sz KF h0 n0 Z0 E_q F_k F_s A_k V_s W_k (by obtain ⟨-, -, q1, -⟩ := hon; rw [show bb.toInt.toNat = 0 by omega] at q1; omega)) (fun v h L hq => ?_) (by decide) (by decide) (by decide) (by decide) (by decide) (by decide)
      obtain ⟨rr, e1, e2, e3, rfl⟩ := hq
      have hu : QU sz KF JF tk ti mo tl tj := qu_0 hon hb hmo
      exact ⟨sz, KF, JF, la, rr, e1, e2, e3.trans hu.2.1, hu, Keep.refl _ _, E_q, F_k, F_i, F_s, F_n, F_l, A_k, A_j, V_s, W_k, W_j⟩
    · refine mono2 (Qkf1 Z q ks js ss kf jf sz KF JF sn la bb h0 n0) (rmkf1 l Z a0 hw ws q ks js ss kf jf sz KF JF sn la bb h0 n0 Z0 E_q F_k F_i F_s F_n F_l A_k A_j V_s W_k W_j Ik Ij GR G_q G_s N_q N_ks N_js N_ss n_q_ss n_ks_ss n_js_ss n_ks_q n_js_q (by obtain ⟨q1, q2, -⟩ := hon; omega) hon.2.2.1 hon.2.2.2.1) (fun v h L hq => ?_) (by decide) (by decide) (by decide) (by decide) (by decide) (by decide)
      obtain ⟨s2, K2, J2, l2, rr, e1, e2, p0, p1, p2, p3, p4, p5, e4⟩ := hq
      exact ⟨s2, K2, J2, l2, rr, e1, e2, p5.trans hon.2.2.2.2.1, qu_1 p0 (p2.trans hon.2.2.2.2.1) (p3.trans hon.2.2.2.2.2) hmo, e4⟩
  · refine mono2 (Qkf2l Z q ks js ss kf jf sz KF JF sn la bb h0 n0) (rmkf2l l Z a0 hw ws q ks js ss kf jf sz KF JF sn la bb h0 n0 Z0 E_q F_k F_i F_s F_n F_l A_k A_j V_s W_k W_j Ik Ij GR G_q G_s N_q N_ks N_js N_ss n_q_ss n_ks_ss n_js_ss n_ks_q n_js_q t1 t2 t3 (by rw [t4, t6]; exact ⟨hk1, hk2⟩) (by rw [t4, t6]; exact hc)) (fun v h L hq => ?_) (by decide) (by decide) (by decide) (by decide) (by decide) (by decide)
    obtain ⟨s2, K2, J2, l2, cb, rr, e1, e2, p0, p1, p2, p3, p4, p5, e4⟩ := hq
    exact ⟨s2, K2, J2, l2, rr, e1, e2, p5.trans t4, qu_p p0 p1 ⟨p2.1.trans t4, p2.2.trans t6⟩ ⟨p3.1.trans t5, p3.2.trans t7⟩, e4⟩
  · by_cases hl : tk.toInt < tl.toInt
    · refine mono2 (Qkf2g Z q ks js ss kf jf sz KF JF sn la bb h0 n0) (rmkf2g l Z a0 hw ws q ks js ss kf jf sz KF JF sn la bb h0 n0 Z0 E_q F_k F_i F_s F_n F_l A_k A_j V_s W_k W_j Ik Ij GR G_q G_s N_q N_ks N_js N_ss n_q_ss n_ks_ss n_js_ss n_ks_q n_js_q t1 t2 t3 (by rw [t4, t6]; exact ⟨hk2, hk1⟩) (by rw [t4, t6]; exact hl)) (fun v h L hq => ?_) (by decide) (by decide) (by decide) (by decide) (by decide) (by decide)
      obtain ⟨s2, K2, J2, l2, cb, rr, e1, e2, p0, p1, p2, p3, p4, p5, e4⟩ := hq
      exact ⟨s2, K2, J2, l2, rr, e1, e2, p5.trans t6, qu_p p0 (fun b hb => (p1 b hb).trans if_sw) ⟨p2.2.trans t6, p2.1.trans t4⟩ ⟨p3.2.trans t7, p3.1.trans t5⟩, e4⟩
    · refine mono2 (Qkf2e Z q ks js ss kf jf sz KF JF sn la bb h0 n0) (rmkf2e l Z a0 hw ws q ks js ss kf jf sz KF JF sn la bb h0 n0 Z0 E_q F_k F_i F_s F_n F_l A_k A_j V_s W_k W_j Ik Ij GR G_q G_s N_q N_ks N_js N_ss n_q_ss n_ks_ss n_js_ss n_ks_q n_js_q t1 t2 t3 (by rw [t4, t6]; exact ⟨hk2, hk1⟩) (by rw [t4, t6]; omega)) (fun v h L hq => ?_) (by decide) (by decide) (by decide) (by decide) (by decide) (by decide)
      obtain ⟨s2, K2, J2, l2, rr, e1, e2, p0, p1, p2, p3, p4, p5, e4⟩ := hq
      exact ⟨s2, K2, J2, l2, rr, e1, e2, p5.trans t6, qu_e p0 p1 ⟨p2.1.trans t4, p2.2.trans t6⟩ ⟨p3.1.trans t5, p3.2.trans t7⟩, e4⟩
theorem d3_0 : decode kc3 0 = .ok (.aload_n 0, 1) := by decide +kernel
theorem d3_1 : decode kc3 1 = .ok (.invokespecial 1, 3) := by decide +kernel
theorem d3_4 : decode kc3 4 = .ok (.aload_n 0, 1) := by decide +kernel
theorem d3_5 : decode kc3 5 = .ok (.bipush 65, 2) := by decide +kernel
theorem d3_7 : decode kc3 7 = .ok (.anewarray 9, 3) := by decide +kernel
theorem d3_10 : decode kc3 10 = .ok (.putfield 11, 3) := by decide +kernel
theorem d3_13 : decode kc3 13 = .ok (.aload_n 0, 1) := by decide +kernel
theorem d3_14 : decode kc3 14 = .ok (.bipush 65, 2) := by decide +kernel
theorem d3_16 : decode kc3 16 = .ok (.anewarray 15, 3) := by decide +kernel
theorem d3_19 : decode kc3 19 = .ok (.putfield 17, 3) := by decide +kernel
theorem d3_22 : decode kc3 22 = .ok (.aload_n 0, 1) := by decide +kernel
theorem d3_23 : decode kc3 23 = .ok (.bipush 65, 2) := by decide +kernel
theorem d3_25 : decode kc3 25 = .ok (.newarray .int, 2) := by decide +kernel
theorem d3_27 : decode kc3 27 = .ok (.putfield 21, 3) := by decide +kernel
theorem d3_30 : decode kc3 30 = .ok (.aload_n 0, 1) := by decide +kernel
theorem d3_31 : decode kc3 31 = .ok (.ldc2_w 26, 3) := by decide +kernel
theorem d3_34 : decode kc3 34 = .ok (.putfield 28, 3) := by decide +kernel
theorem d3_37 : decode kc3 37 = .ok (.iconst 0, 1) := by decide +kernel
theorem d3_38 : decode kc3 38 = .ok (.istore_n 1, 1) := by decide +kernel
theorem d3_39 : decode kc3 39 = .ok (.iload_n 1, 1) := by decide +kernel
theorem d3_40 : decode kc3 40 = .ok (.bipush 65, 2) := by decide +kernel
theorem d3_42 : decode kc3 42 = .ok (.if_icmp .ge 27, 3) := by decide +kernel
theorem d3_45 : decode kc3 45 = .ok (.aload_n 0, 1) := by decide +kernel
theorem d3_46 : decode kc3 46 = .ok (.getfield 11, 3) := by decide +kernel
theorem d3_49 : decode kc3 49 = .ok (.iload_n 1, 1) := by decide +kernel
theorem d3_50 : decode kc3 50 = .ok (.iconst 4, 1) := by decide +kernel
theorem d3_51 : decode kc3 51 = .ok (.newarray .long, 2) := by decide +kernel
theorem d3_53 : decode kc3 53 = .ok (.aastore, 1) := by decide +kernel
theorem d3_54 : decode kc3 54 = .ok (.aload_n 0, 1) := by decide +kernel
theorem d3_55 : decode kc3 55 = .ok (.getfield 17, 3) := by decide +kernel
theorem d3_58 : decode kc3 58 = .ok (.iload_n 1, 1) := by decide +kernel
theorem d3_59 : decode kc3 59 = .ok (.iconst 4, 1) := by decide +kernel
theorem d3_60 : decode kc3 60 = .ok (.newarray .int, 2) := by decide +kernel
theorem d3_62 : decode kc3 62 = .ok (.aastore, 1) := by decide +kernel
theorem d3_63 : decode kc3 63 = .ok (.iinc 1 1, 3) := by decide +kernel
theorem d3_66 : decode kc3 66 = .ok (.goto (-27), 3) := by decide +kernel
theorem d3_69 : decode kc3 69 = .ok (.return_, 1) := by decide +kernel
theorem ef_rm3 (m : MethodId) (q : Addr) : entryFrame m #[(.ref q)] 2 = mkF m 0 #[vr q, un] [] := by first | (simp [entryFrame, mkF, argsToLocals, Value.category]; done) | rfl
def Q3 (Z : State) (q : Addr) (h0 : Heap) (n0 : Nat) (vv : Option Value) (h : Heap) (LL : List Loc) : Prop := ∃ (ks js ss : Addr) (kf jf : Nat → Addr), vv = none ∧ Fr n0 LL ∧ Keep h0 h [q] ∧ (Exa Z h q cR) ∧ (Fld Z h q cR "keys" "[[J" (.ref ks)) ∧ (Fld Z h q cR "ids" "[[I" (.ref js)) ∧ (Fld Z h q cR "sizes" "[I" (.ref ss)) ∧ (Fld Z h q cR "size" "I" (.int (0 : Int32))) ∧ (Fld Z h q cR "last" "J" (.long (-9223372036854775808 : Int64))) ∧ (RA Z h ks .long kf) ∧ (RA Z h js .int jf) ∧ (Vec Z h ss .int (65 : Int32) (ints (fun _ => (0 : Int32)))) ∧ (RwJ Z h kf (fun _ _ => (0 : Int64))) ∧ (RwI Z h jf (fun _ _ => (0 : Int32))) ∧ (Inj kf) ∧ (Inj jf) ∧ (∀ b : Nat, b < 65 → h0.size ≤ kf b ∧ h0.size ≤ jf b) ∧ (NR kf jf q) ∧ (NR kf jf ks) ∧ (NR kf jf js) ∧ (NR kf jf ss) ∧ (h0.size ≤ ks) ∧ (h0.size ≤ js) ∧ (h0.size ≤ ss) ∧ (q ≠ ss) ∧ (ks ≠ ss) ∧ (js ≠ ss) ∧ (ks ≠ q) ∧ (js ≠ q) ∧ (ks ≠ js)
set_option maxRecDepth 65536 in
set_option maxHeartbeats 40000000 in
theorem rm3 (l : Launch) (Z : State) (a0 : Array Value) (hw : ∀ d ∈ tables_1, d.before a0 Z = true) (ws : List Jvm.Cond) (q : Addr) (h0 : Heap) (n0 : Nat) (Z0 : n0 ≤ h0.size) (E_q : Exa Z h0 q cR) (G_q : n0 ≤ q) (f_keys : Fld Z h0 q cR "keys" "[[J" .null) (f_ids : Fld Z h0 q cR "ids" "[[I" .null) (f_sizes : Fld Z h0 q cR "sizes" "[I" .null) (f_size : Fld Z h0 q cR "size" "I" (.int (0 : Int32))) (f_last : Fld Z h0 q cR "last" "J" (.long (0 : Int64))) :
    MetFree l (⟨cR, "<init>", "()V"⟩ : MethodName) (head1 (Jvm.Cond.code (⟨cR, "<init>", "()V"⟩ : MethodName) kc3 2 none :: ws) ({ frames := 1, cells := 133, slots := 715, locals := 20 } : Room)) (fun aa UU => aa = #[(.ref q)] ∧ Z.Warmed39 UU.vm ∧ UU.heap = h0) (fun _ _ _ _ _ => True) (fun _ UU oo UU' => ∃ vv LL, oo = .returned vv ∧ Q3 Z q h0 n0 vv UU'.heap LL ∧ FrameEnd UU oo UU' LL 133 715) := by
  refine MetFree.of_bodySF (plainFor_of_name pn_2) hisR ?_
  intro p e s m args below meth c s₁ Bd hml0 hP hK
  obtain ⟨rfl, hZ, hh⟩ := hP
  have hx := Bd.exec
  have hby := Bd.bytes
  have hlk : meth.locks = false := BodyLoose.notSynchronized Bd
  have hml : c.maxLocals = 2 := hml0
  have hown : s.vm.findClass cR = some m.cls := findClass_of_methodNamed Bd.named
  have hnm := (name_of_methodNamed Bd.named Bd.method).1
  have X0 : Stand p l e ({ frames := 1, cells := 133, slots := 715, locals := 20 } : Room) s m #[(.ref q)] below meth c s₁ [] 0 0 := Stand.of_body Bd
  have e0 : s₁.heap = h0 := by rw [← hh, Bd.state]; rfl
  have N0 := Fr.nil n0
  have K0 : Keep h0 h0 [q] := Keep.refl h0 _
  refine (?_ : Go p e below s (Q3 Z q h0 n0) 133 715 (s₁.setTop (entryFrame m #[(.ref q)] 2)))
  rw [ef_rm3]
  generalize hQ : Q3 Z q h0 n0 = Q
  show Go p e below s Q 133 715 (s₁.setTop (mkF m 0 #[vr q, un] []))
  refine gA X0 hx hby rfl d3_0 rfl rfl ?_
  obtain ⟨T1, X1, e1, st1⟩ := initO X0 hx hZ hown (tb hw 15 rfl) (tb hw 7 rfl) (tb hw 8 rfl) e0 (g := (mkF m 1 #[vr q, un] [(.ref q)])) rfl (by rw [hml]; rfl) rfl (hb hby d3_1) (by decide) (W := 0) (by show 2 * 0 + _ ≤ _; exact Nat.le_of_eq rfl) (by decide)
  refine Go.st st1 ?_
  show Go p e below s Q 133 715 (T1.setTop (mkF m 4 #[vr q, un] []))
  refine gA X1 hx hby rfl d3_4 rfl rfl ?_
  refine Go.st (fun _ k => XS.bipush X1.here hx rfl (hb hby d3_5) k) ?_
  have r3 : 0 ≤ (65 : Int32).toInt := by decide
  have r4 : (65 : Int32).toNatClampNeg ≤ 65 := by decide
  obtain ⟨T2, h2, k2, X2, e2, E2, A2, B2, O2, st2⟩ := newRA X1 hx hZ hown (C := "[J") (ty := .long) (by decide) (tb hw 16 rfl) (tb hw 17 rfl) e1 (g := (mkF m 7 #[vr q, un] [(.int (65 : Int32)), (.ref q)])) rfl (hb hby d3_7) rfl (not_neg r3) (cap := 65) r4 (by decide) (by decide) (by decide) (ad := "[[J") (by decide)
  obtain ⟨b2, g2⟩ : ∃ z, z = h0.size := ⟨_, rfl⟩
  rw [← g2] at A2 B2 st2
  have q5 : Hid (q ≠ b2) := Nat.ne_of_lt (Nat.lt_of_lt_of_le E_q.lt (Nat.le_of_eq g2.symm))
  have h6 : Exa Z h2 q cR := E_q.ext E2
  have h7 : Fld Z h2 q cR "keys" "[[J" .null := f_keys.ext E2
  have h8 : Fld Z h2 q cR "ids" "[[I" .null := f_ids.ext E2
  have h9 : Fld Z h2 q cR "sizes" "[I" .null := f_sizes.ext E2
  have h10 : Fld Z h2 q cR "size" "I" (.int (0 : Int32)) := f_size.ext E2
  have h11 : Fld Z h2 q cR "last" "J" (.long (0 : Int64)) := f_last.ext E2
  have Gb2 : Hid (n0 ≤ b2) := Nat.le_trans (Nat.le_trans Z0 K0.1) (Nat.le_of_eq g2.symm)
  have szb2 : Hid (h0.size ≤ b2) := Nat.le_trans K0.1 (Nat.le_of_eq g2.symm)
  have K2 : Keep h0 h2 [q] := K0.ext E2
  have h12 : RAP Z h2 b2 .long "[J" (fun _ => (0 : Nat)) 0 := RAP.new A2 O2
  refine Go.st st2 ?_
  show Go p e below s Q 133 715 (T2.setTop (mkF m 10 #[vr q, un] [(.ref b2), (.ref q)]))
  obtain ⟨T13, h13, X13, e13, W13, st13⟩ := putF X2 hx hZ hown (host := "") (Or.inl (tb hw 18 rfl)) Via.refl e2 h7 h6 (Or.inr ⟨(tb hw 19 rfl), rfl, hnm⟩) (tb hw 10 rfl) (ty := (.array (.array .long))) (by decide) rfl rfl (g := (mkF m 10 #[vr q, un] [(.ref b2), (.ref q)])) rfl rfl (hb hby d3_10)
  have h14 : Exa Z h13 q cR := h6.wr W13
  have h15 : Fld Z h13 q cR "keys" "[[J" (.ref b2) := h7.same W13
  have h16 : Fld Z h13 q cR "ids" "[[I" .null := h8.other W13 (Or.inr (ndq (sl_0 hw) 1 0 rfl))
  have h17 : Fld Z h13 q cR "sizes" "[I" .null := h9.other W13 (Or.inr (ndq (sl_0 hw) 2 0 rfl))
  have h18 : Fld Z h13 q cR "size" "I" (.int (0 : Int32)) := h10.other W13 (Or.inr (ndq (sl_0 hw) 4 0 rfl))
  have h19 : Fld Z h13 q cR "last" "J" (.long (0 : Int64)) := h11.other W13 (Or.inr (ndq (sl_0 hw) 3 0 rfl))
  have h20 : RAP Z h13 b2 .long "[J" (fun _ => (0 : Nat)) 0 := h12.other W13 (Ne.symm q5)
  have K13 : Keep h0 h13 [q] := K2.wr W13 (Or.inl (List.mem_of_getElem? (i := 0) rfl))
  have N13 := Fr.snoc X13 N0 G_q
  refine Go.st st13 ?_
  show Go p e below s Q 133 715 (T13.setTop (mkF m 13 #[vr q, un] []))
  refine gA X13 hx hby rfl d3_13 rfl rfl ?_
  refine Go.st (fun _ k => XS.bipush X13.here hx rfl (hb hby d3_14) k) ?_
  have r22 : 0 ≤ (65 : Int32).toInt := by decide
  have r23 : (65 : Int32).toNatClampNeg ≤ 65 := by decide
  obtain ⟨T21, h21, k21, X21, e21, E21, A21, B21, O21, st21⟩ := newRA X13 hx hZ hown (C := "[I") (ty := .int) (by decide) (tb hw 20 rfl) (tb hw 21 rfl) e13 (g := (mkF m 16 #[vr q, un] [(.int (65 : Int32)), (.ref q)])) rfl (hb hby d3_16) rfl (not_neg r22) (cap := 65) r23 (by decide) (by decide) (by decide) (ad := "[[I") (by decide)
  obtain ⟨b21, g21⟩ : ∃ z, z = h13.size := ⟨_, rfl⟩
  rw [← g21] at A21 B21 st21
  have q24 : Hid (q ≠ b21) := Nat.ne_of_lt (Nat.lt_of_lt_of_le h14.lt (Nat.le_of_eq g21.symm))
  have q25 : Hid (b2 ≠ b21) := Nat.ne_of_lt (Nat.lt_of_lt_of_le h20.lt (Nat.le_of_eq g21.symm))
  have h26 : Exa Z h21 q cR := h14.ext E21
  have h27 : Fld Z h21 q cR "keys" "[[J" (.ref b2) := h15.ext E21
  have h28 : Fld Z h21 q cR "ids" "[[I" .null := h16.ext E21
  have h29 : Fld Z h21 q cR "sizes" "[I" .null := h17.ext E21
  have h30 : Fld Z h21 q cR "size" "I" (.int (0 : Int32)) := h18.ext E21
  have h31 : Fld Z h21 q cR "last" "J" (.long (0 : Int64)) := h19.ext E21
  have h32 : RAP Z h21 b2 .long "[J" (fun _ => (0 : Nat)) 0 := h20.ext E21
  have Gb21 : Hid (n0 ≤ b21) := Nat.le_trans (Nat.le_trans Z0 K13.1) (Nat.le_of_eq g21.symm)
  have szb21 : Hid (h0.size ≤ b21) := Nat.le_trans K13.1 (Nat.le_of_eq g21.symm)
  have K21 : Keep h0 h21 [q] := K13.ext E21
  have h33 : RAP Z h21 b21 .int "[I" (fun _ => (0 : Nat)) 0 := RAP.new A21 O21
  refine Go.st st21 ?_
  show Go p e below s Q 133 715 (T21.setTop (mkF m 19 #[vr q, un] [(.ref b21), (.ref q)]))
  obtain ⟨T34, h34, X34, e34, W34, st34⟩ := putF X21 hx hZ hown (host := "") (Or.inl (tb hw 22 rfl)) Via.refl e21 h28 h26 (Or.inr ⟨(tb hw 23 rfl), rfl, hnm⟩) (tb hw 10 rfl) (ty := (.array (.array .int))) (by decide) rfl rfl (g := (mkF m 19 #[vr q, un] [(.ref b21), (.ref q)])) rfl rfl (hb hby d3_19)
  have h35 : Exa Z h34 q cR := h26.wr W34
  have h36 : Fld Z h34 q cR "keys" "[[J" (.ref b2) := h27.other W34 (Or.inr (ndq (sl_0 hw) 0 1 rfl))
  have h37 : Fld Z h34 q cR "ids" "[[I" (.ref b21) := h28.same W34
  have h38 : Fld Z h34 q cR "sizes" "[I" .null := h29.other W34 (Or.inr (ndq (sl_0 hw) 2 1 rfl))
  have h39 : Fld Z h34 q cR "size" "I" (.int (0 : Int32)) := h30.other W34 (Or.inr (ndq (sl_0 hw) 4 1 rfl))
  have h40 : Fld Z h34 q cR "last" "J" (.long (0 : Int64)) := h31.other W34 (Or.inr (ndq (sl_0 hw) 3 1 rfl))
  have h41 : RAP Z h34 b2 .long "[J" (fun _ => (0 : Nat)) 0 := h32.other W34 (Ne.symm q5)
  have h42 : RAP Z h34 b21 .int "[I" (fun _ => (0 : Nat)) 0 := h33.other W34 (Ne.symm q24)
  have K34 : Keep h0 h34 [q] := K21.wr W34 (Or.inl (List.mem_of_getElem? (i := 0) rfl))
  have N34 := Fr.snoc X34 N13 G_q
  refine Go.st st34 ?_
  show Go p e below s Q 133 715 (T34.setTop (mkF m 22 #[vr q, un] []))
  refine gA X34 hx hby rfl d3_22 rfl rfl ?_
  refine Go.st (fun _ k => XS.bipush X34.here hx rfl (hb hby d3_23) k) ?_
  have f44 := liI_65
  have r45 : 0 ≤ (65 : Int32).toInt := by decide
  have r46 : (65 : Int32).toNatClampNeg ≤ 65 := by decide
  obtain ⟨T43, h43, k43, X43, e43, E43, A43, B43, st43⟩ := newPE X34 hx hZ (tb hw 24 rfl) e34 (g := (mkF m 25 #[vr q, un] [(.int (65 : Int32)), (.ref q)])) rfl (hb hby d3_25) rfl (not_neg r45) (cap := 65) r46 (by decide) (by decide) (by decide) (ad := "[I") (by decide)
  obtain ⟨b43, g43⟩ : ∃ z, z = h34.size := ⟨_, rfl⟩
  rw [← g43] at A43 B43 st43
  have q47 : Hid (q ≠ b43) := Nat.ne_of_lt (Nat.lt_of_lt_of_le h35.lt (Nat.le_of_eq g43.symm))
  have q48 : Hid (b2 ≠ b43) := Nat.ne_of_lt (Nat.lt_of_lt_of_le h41.lt (Nat.le_of_eq g43.symm))
  have q49 : Hid (b21 ≠ b43) := Nat.ne_of_lt (Nat.lt_of_lt_of_le h42.lt (Nat.le_of_eq g43.symm))
  have h50 : Exa Z h43 q cR := h35.ext E43
  have h51 : Fld Z h43 q cR "keys" "[[J" (.ref b2) := h36.ext E43
  have h52 : Fld Z h43 q cR "ids" "[[I" (.ref b21) := h37.ext E43
  have h53 : Fld Z h43 q cR "sizes" "[I" .null := h38.ext E43
  have h54 : Fld Z h43 q cR "size" "I" (.int (0 : Int32)) := h39.ext E43
  have h55 : Fld Z h43 q cR "last" "J" (.long (0 : Int64)) := h40.ext E43
  have h56 : RAP Z h43 b2 .long "[J" (fun _ => (0 : Nat)) 0 := h41.ext E43
  have h57 : RAP Z h43 b21 .int "[I" (fun _ => (0 : Nat)) 0 := h42.ext E43
  have Gb43 : Hid (n0 ≤ b43) := Nat.le_trans (Nat.le_trans Z0 K34.1) (Nat.le_of_eq g43.symm)
  have szb43 : Hid (h0.size ≤ b43) := Nat.le_trans K34.1 (Nat.le_of_eq g43.symm)
  have K43 : Keep h0 h43 [q] := K34.ext E43
  have h58 : Vec Z h43 b43 .int (65 : Int32) (ints (fun _ => (0 : Int32))) := Vec.new A43 r45
  refine Go.st st43 ?_
  show Go p e below s Q 133 715 (T43.setTop (mkF m 27 #[vr q, un] [(.ref b43), (.ref q)]))
  obtain ⟨T59, h59, X59, e59, W59, st59⟩ := putF X43 hx hZ hown (host := "") (Or.inl (tb hw 25 rfl)) Via.refl e43 h53 h50 (Or.inr ⟨(tb hw 26 rfl), rfl, hnm⟩) (tb hw 10 rfl) (ty := (.array .int)) (by decide) rfl rfl (g := (mkF m 27 #[vr q, un] [(.ref b43), (.ref q)])) rfl rfl (hb hby d3_27)
  have h60 : Exa Z h59 q cR := h50.wr W59
  have h61 : Fld Z h59 q cR "keys" "[[J" (.ref b2) := h51.other W59 (Or.inr (ndq (sl_0 hw) 0 2 rfl))
  have h62 : Fld Z h59 q cR "ids" "[[I" (.ref b21) := h52.other W59 (Or.inr (ndq (sl_0 hw) 1 2 rfl))
  have h63 : Fld Z h59 q cR "sizes" "[I" (.ref b43) := h53.same W59
  have h64 : Fld Z h59 q cR "size" "I" (.int (0 : Int32)) := h54.other W59 (Or.inr (ndq (sl_0 hw) 4 2 rfl))
  have h65 : Fld Z h59 q cR "last" "J" (.long (0 : Int64)) := h55.other W59 (Or.inr (ndq (sl_0 hw) 3 2 rfl))
  have h66 : RAP Z h59 b2 .long "[J" (fun _ => (0 : Nat)) 0 := h56.other W59 (Ne.symm q5)
  have h67 : RAP Z h59 b21 .int "[I" (fun _ => (0 : Nat)) 0 := h57.other W59 (Ne.symm q24)
  have h68 : Exa Z h59 b43 "[I" := B43.wr W59
  have h69 : Vec Z h59 b43 .int (65 : Int32) (ints (fun _ => (0 : Int32))) := h58.other W59 (Ne.symm q47)
  have K59 : Keep h0 h59 [q] := K43.wr W59 (Or.inl (List.mem_of_getElem? (i := 0) rfl))
  have N59 := Fr.snoc X59 N34 G_q
  refine Go.st st59 ?_
  show Go p e below s Q 133 715 (T59.setTop (mkF m 30 #[vr q, un] []))
  refine gA X59 hx hby rfl d3_30 rfl rfl ?_
  refine Go.st (X59.ldc2Long hx hown (mvT hZ (tb hw 27 rfl)) (g := (mkF m 31 #[vr q, un] [(.ref q)])) rfl (hb hby d3_31)) ?_
  show Go p e below s Q 133 715 (T59.setTop (mkF m 34 #[vr q, un] [(.long (-9223372036854775808 : Int64)), (.ref q)]))
  obtain ⟨T70, h70, X70, e70, W70, st70⟩ := putF X59 hx hZ hown (host := "") (Or.inl (tb hw 28 rfl)) Via.refl e59 h65 h60 (Or.inl (tb hw 29 rfl)) (tb hw 10 rfl) (ty := .long) (by decide) rfl rfl (g := (mkF m 34 #[vr q, un] [(.long (-9223372036854775808 : Int64)), (.ref q)])) rfl rfl (hb hby d3_34)
  have h71 : Exa Z h70 q cR := h60.wr W70
  have h72 : Fld Z h70 q cR "keys" "[[J" (.ref b2) := h61.other W70 (Or.inr (ndq (sl_0 hw) 0 3 rfl))
  have h73 : Fld Z h70 q cR "ids" "[[I" (.ref b21) := h62.other W70 (Or.inr (ndq (sl_0 hw) 1 3 rfl))
  have h74 : Fld Z h70 q cR "sizes" "[I" (.ref b43) := h63.other W70 (Or.inr (ndq (sl_0 hw) 2 3 rfl))
  have h75 : Fld Z h70 q cR "size" "I" (.int (0 : Int32)) := h64.other W70 (Or.inr (ndq (sl_0 hw) 4 3 rfl))
  have h76 : Fld Z h70 q cR "last" "J" (.long (-9223372036854775808 : Int64)) := h65.same W70
  have h77 : RAP Z h70 b2 .long "[J" (fun _ => (0 : Nat)) 0 := h66.other W70 (Ne.symm q5)
  have h78 : RAP Z h70 b21 .int "[I" (fun _ => (0 : Nat)) 0 := h67.other W70 (Ne.symm q24)
  have h79 : Exa Z h70 b43 "[I" := h68.wr W70
  have h80 : Vec Z h70 b43 .int (65 : Int32) (ints (fun _ => (0 : Int32))) := h69.other W70 (Ne.symm q47)
  have K70 : Keep h0 h70 [q] := K59.wr W70 (Or.inl (List.mem_of_getElem? (i := 0) rfl))
  have N70 := Fr.snoc X70 N59 G_q
  refine Go.st st70 ?_
  show Go p e below s Q 133 715 (T70.setTop (mkF m 37 #[vr q, un] []))
  refine gI X70 hx hby rfl d3_37 ?_
  refine gT X70 hx hby rfl d3_38 rfl (l' := #[vr q, vi (0 : Int32)]) rfl ?_
  show Go p e below s Q 133 715 (T70.setTop (mkF m 39 #[vr q, vi (0 : Int32)] []))
  obtain ⟨n1, hn1⟩ : ∃ z, z = h70.size := ⟨_, rfl⟩
  have lt_q : q < n1 := Nat.lt_of_lt_of_le h71.lt (Nat.le_of_eq hn1.symm)
  have lt_b2 : b2 < n1 := Nat.lt_of_lt_of_le h77.lt (Nat.le_of_eq hn1.symm)
  have lt_b21 : b21 < n1 := Nat.lt_of_lt_of_le h78.lt (Nat.le_of_eq hn1.symm)
  have lt_b43 : b43 < n1 := Nat.lt_of_lt_of_le h79.lt (Nat.le_of_eq hn1.symm)
  have hn0 : h0.size ≤ n1 := Nat.le_trans K70.1 (Nat.le_of_eq hn1.symm)
  have hz39 : n1 ≤ h70.size := Nat.le_of_eq hn1
  have hy39 : RP Z h70 n1 (fun _ => (0 : Nat)) (fun _ => (0 : Nat)) 0 := RP.zero
  have lp82 : ∀ (kg81 : Nat) (i39 : Int32) (kf jf : Nat → Addr) (Tg81 : State) (hg81 : Heap) (Lgg81 : List Loc) (Xg81 : Stand p l e ({ frames := 1, cells := 133, slots := 715, locals := 20 } : Room) s m #[(.ref q)] below meth c Tg81 Lgg81 (3 + 2 * i39.toInt.toNat) (195 + 8 * i39.toInt.toNat)) (eg81 : Tg81.heap = hg81) (Ng81 : Fr n0 Lgg81) (Kg81 : Keep h0 hg81 [q]) (hfg81_0 : Exa Z hg81 q cR) (hfg81_1 : Fld Z hg81 q cR "keys" "[[J" (.ref b2)) (hfg81_2 : Fld Z hg81 q cR "ids" "[[I" (.ref b21)) (hfg81_3 : Fld Z hg81 q cR "sizes" "[I" (.ref b43)) (hfg81_4 : Fld Z hg81 q cR "size" "I" (.int (0 : Int32))) (hfg81_5 : Fld Z hg81 q cR "last" "J" (.long (-9223372036854775808 : Int64))) (hfg81_6 : Exa Z hg81 b43 "[I") (hfg81_7 : Vec Z hg81 b43 .int (65 : Int32) (ints (fun _ => (0 : Int32)))) (hfg81_8 : n1 ≤ hg81.size) (hfg81_9 : RAP Z hg81 b2 .long "[J" kf i39.toInt.toNat) (hfg81_10 : RAP Z hg81 b21 .int "[I" jf i39.toInt.toNat) (hfg81_11 : RP Z hg81 n1 kf jf i39.toInt.toNat) (hpg81_0 : 0 ≤ i39.toInt ∧ i39.toInt ≤ 65), (65 - i39.toInt).toNat = kg81 → Go p e below s Q 133 715 (Tg81.setTop (mkF m 39 #[vr q, vi i39] [])) := by
    intro kg81
    induction kg81 using Nat.strongRecOn with
    | ind kg81 ihg81 =>
    intro i39 kf jf Tg81 hg81 Lgg81 Xg81 eg81 Ng81 Kg81 hfg81_0 hfg81_1 hfg81_2 hfg81_3 hfg81_4 hfg81_5 hfg81_6 hfg81_7 hfg81_8 hfg81_9 hfg81_10 hfg81_11 hpg81_0 hkg81
    have f83 := rng32 i39
    show Go p e below s Q 133 715 (Tg81.setTop (mkF m 39 #[vr q, vi i39] []))
    refine gC Xg81 hx hby rfl d3_39 rfl ?_
    refine Go.st (fun _ k => XS.bipush Xg81.here hx rfl (hb hby d3_40) k) ?_
    by_cases c84 : i39.toInt < 65
    ·
      refine gM Xg81 hx hby rfl d3_42 rfl (tlt (ltI rfl liI_65 c84)).2.1 ?_
      refine gA Xg81 hx hby rfl d3_45 rfl rfl ?_
      obtain ⟨T85, X85, e85, st85⟩ := getF Xg81 hx hZ hown (host := "") (Or.inl (tb hw 18 rfl)) Via.refl eg81 hfg81_1 (g := (mkF m 46 #[vr q, vi i39] [(.ref q)])) rfl rfl (hb hby d3_46)
      refine Go.st st85 ?_
      refine gC X85 hx hby rfl d3_49 rfl ?_
      show Go p e below s Q 133 715 (T85.setTop (mkF m 50 #[vr q, vi i39] [(.int i39), (.ref b2)]))
      refine gI X85 hx hby rfl d3_50 ?_
      show Go p e below s Q 133 715 (T85.setTop (mkF m 51 #[vr q, vi i39] [(.int (4 : Int32)), (.int i39), (.ref b2)]))
      have f87 := liI_4
      have r88 : 0 ≤ (4 : Int32).toInt := by decide
      have r89 : (4 : Int32).toNatClampNeg ≤ 4 := by decide
      obtain ⟨T86, h86, k86, X86, e86, E86, A86, B86, st86⟩ := newPE X85 hx hZ (tb hw 30 rfl) e85 (g := (mkF m 51 #[vr q, vi i39] [(.int (4 : Int32)), (.int i39), (.ref b2)])) rfl (hb hby d3_51) rfl (not_neg r88) (cap := 4) r89 (by decide) (by show _ ≤ 133; omega) (by show _ ≤ 715; omega) (ad := "[J") (by decide)
      obtain ⟨b86, g86⟩ : ∃ z, z = hg81.size := ⟨_, rfl⟩
      rw [← g86] at A86 B86 st86
      have q90 : Hid (q ≠ b86) := Nat.ne_of_lt (Nat.lt_of_lt_of_le hfg81_0.lt (Nat.le_of_eq g86.symm))
      have q91 : Hid (b43 ≠ b86) := Nat.ne_of_lt (Nat.lt_of_lt_of_le hfg81_6.lt (Nat.le_of_eq g86.symm))
      have q92 : Hid (b2 ≠ b86) := Nat.ne_of_lt (Nat.lt_of_lt_of_le hfg81_9.lt (Nat.le_of_eq g86.symm))
      have q93 : Hid (b21 ≠ b86) := Nat.ne_of_lt (Nat.lt_of_lt_of_le hfg81_10.lt (Nat.le_of_eq g86.symm))
      have h94 : Exa Z h86 q cR := hfg81_0.ext E86
      have h95 : Fld Z h86 q cR "keys" "[[J" (.ref b2) := hfg81_1.ext E86
      have h96 : Fld Z h86 q cR "ids" "[[I" (.ref b21) := hfg81_2.ext E86
      have h97 : Fld Z h86 q cR "sizes" "[I" (.ref b43) := hfg81_3.ext E86
      have h98 : Fld Z h86 q cR "size" "I" (.int (0 : Int32)) := hfg81_4.ext E86
      have h99 : Fld Z h86 q cR "last" "J" (.long (-9223372036854775808 : Int64)) := hfg81_5.ext E86
      have h100 : Exa Z h86 b43 "[I" := hfg81_6.ext E86
      have h101 : Vec Z h86 b43 .int (65 : Int32) (ints (fun _ => (0 : Int32))) := hfg81_7.ext E86
      have h102 : n1 ≤ h86.size := Nat.le_trans hfg81_8 E86.1
      have h103 : RAP Z h86 b2 .long "[J" kf i39.toInt.toNat := hfg81_9.ext E86
      have h104 : RAP Z h86 b21 .int "[I" jf i39.toInt.toNat := hfg81_10.ext E86
      have h105 : RP Z h86 n1 kf jf i39.toInt.toNat := hfg81_11.ext E86
      have Gb86 : Hid (n0 ≤ b86) := Nat.le_trans (Nat.le_trans Z0 Kg81.1) (Nat.le_of_eq g86.symm)
      have szb86 : Hid (h0.size ≤ b86) := Nat.le_trans Kg81.1 (Nat.le_of_eq g86.symm)
      have K86 : Keep h0 h86 [q] := Kg81.ext E86
      have h106 : Vec Z h86 b86 .long (4 : Int32) (longs (fun _ => (0 : Int64))) := Vec.new A86 r88
      refine Go.st st86 ?_
      show Go p e below s Q 133 715 (T86.setTop (mkF m 53 #[vr q, vi i39] [(.ref b86), (.int i39), (.ref b2)]))
      have fk : ∀ b : Nat, b < i39.toInt.toNat → kf b ≠ b86 := hfg81_11.fk g86
      have mk : n1 ≤ b86 := Nat.le_trans hfg81_8 (Nat.le_of_eq g86.symm)
      have r108 : 0 ≤ i39.toInt := by omega
      have r109 : i39.toInt < 65 := by omega
      obtain ⟨T107, h107, X107, e107, W107, V107, st107⟩ := RAP.ist X86 hx hZ e86 h103 (Ins.self B86) (j := i39) r108 r109 (g := (mkF m 53 #[vr q, vi i39] [(.ref b86), (.int i39), (.ref b2)])) rfl rfl (hb hby d3_53)
      have h110 : Exa Z h107 q cR := h94.wr W107
      have h111 : Fld Z h107 q cR "keys" "[[J" (.ref b2) := h95.other W107 (Or.inl q5)
      have h112 : Fld Z h107 q cR "ids" "[[I" (.ref b21) := h96.other W107 (Or.inl q5)
      have h113 : Fld Z h107 q cR "sizes" "[I" (.ref b43) := h97.other W107 (Or.inl q5)
      have h114 : Fld Z h107 q cR "size" "I" (.int (0 : Int32)) := h98.other W107 (Or.inl q5)
      have h115 : Fld Z h107 q cR "last" "J" (.long (-9223372036854775808 : Int64)) := h99.other W107 (Or.inl q5)
      have h116 : Exa Z h107 b43 "[I" := h100.wr W107
      have h117 : Vec Z h107 b43 .int (65 : Int32) (ints (fun _ => (0 : Int32))) := h101.other W107 (Ne.symm q48)
      have h118 : n1 ≤ h107.size := Nat.le_trans h102 (Nat.le_of_eq W107.size.symm)
      have h119 : RAP Z h107 b2 .long "[J" (updF kf i39.toInt.toNat b86) (i39.toInt.toNat + 1) := V107
      have h120 : RAP Z h107 b21 .int "[I" jf i39.toInt.toNat := h104.other W107 (Ne.symm q25)
      have h121 : RP Z h107 n1 kf jf i39.toInt.toNat := h105.wr W107 lt_b2
      have h122 : Exa Z h107 b86 "[J" := B86.wr W107
      have h123 : Vec Z h107 b86 .long (4 : Int32) (longs (fun _ => (0 : Int64))) := h106.other W107 (Ne.symm q92)
      have K107 : Keep h0 h107 [q] := K86.wr W107 (Or.inr szb2)
      have N107 := Fr.snoc X107 Ng81 Gb2
      refine Go.st st107 ?_
      show Go p e below s Q 133 715 (T107.setTop (mkF m 54 #[vr q, vi i39] []))
      refine gA X107 hx hby rfl d3_54 rfl rfl ?_
      obtain ⟨T124, X124, e124, st124⟩ := getF X107 hx hZ hown (host := "") (Or.inl (tb hw 22 rfl)) Via.refl e107 h112 (g := (mkF m 55 #[vr q, vi i39] [(.ref q)])) rfl rfl (hb hby d3_55)
      refine Go.st st124 ?_
      refine gC X124 hx hby rfl d3_58 rfl ?_
      refine gI X124 hx hby rfl d3_59 ?_
      show Go p e below s Q 133 715 (T124.setTop (mkF m 60 #[vr q, vi i39] [(.int (4 : Int32)), (.int i39), (.ref b21)]))
      have r126 : 0 ≤ (4 : Int32).toInt := by decide
      have r127 : (4 : Int32).toNatClampNeg ≤ 4 := by decide
      obtain ⟨T125, h125, k125, X125, e125, E125, A125, B125, st125⟩ := newPE X124 hx hZ (tb hw 24 rfl) e124 (g := (mkF m 60 #[vr q, vi i39] [(.int (4 : Int32)), (.int i39), (.ref b21)])) rfl (hb hby d3_60) rfl (not_neg r126) (cap := 4) r127 (by decide) (by show _ ≤ 133; omega) (by show _ ≤ 715; omega) (ad := "[I") (by decide)
      obtain ⟨b125, g125⟩ : ∃ z, z = h107.size := ⟨_, rfl⟩
      rw [← g125] at A125 B125 st125
      have q128 : Hid (q ≠ b125) := Nat.ne_of_lt (Nat.lt_of_lt_of_le h110.lt (Nat.le_of_eq g125.symm))
      have q129 : Hid (b43 ≠ b125) := Nat.ne_of_lt (Nat.lt_of_lt_of_le h116.lt (Nat.le_of_eq g125.symm))
      have q130 : Hid (b2 ≠ b125) := Nat.ne_of_lt (Nat.lt_of_lt_of_le h119.lt (Nat.le_of_eq g125.symm))
      have q131 : Hid (b21 ≠ b125) := Nat.ne_of_lt (Nat.lt_of_lt_of_le h120.lt (Nat.le_of_eq g125.symm))
      have q132 : Hid (b86 ≠ b125) := Nat.ne_of_lt (Nat.lt_of_lt_of_le h122.lt (Nat.le_of_eq g125.symm))
      have h133 : Exa Z h125 q cR := h110.ext E125
      have h134 : Fld Z h125 q cR "keys" "[[J" (.ref b2) := h111.ext E125
      have h135 : Fld Z h125 q cR "ids" "[[I" (.ref b21) := h112.ext E125
      have h136 : Fld Z h125 q cR "sizes" "[I" (.ref b43) := h113.ext E125
      have h137 : Fld Z h125 q cR "size" "I" (.int (0 : Int32)) := h114.ext E125
      have h138 : Fld Z h125 q cR "last" "J" (.long (-9223372036854775808 : Int64)) := h115.ext E125
      have h139 : Exa Z h125 b43 "[I" := h116.ext E125
      have h140 : Vec Z h125 b43 .int (65 : Int32) (ints (fun _ => (0 : Int32))) := h117.ext E125
      have h141 : n1 ≤ h125.size := Nat.le_trans h118 E125.1
      have h142 : RAP Z h125 b2 .long "[J" (updF kf i39.toInt.toNat b86) (i39.toInt.toNat + 1) := h119.ext E125
      have h143 : RAP Z h125 b21 .int "[I" jf i39.toInt.toNat := h120.ext E125
      have h144 : RP Z h125 n1 kf jf i39.toInt.toNat := h121.ext E125
      have h145 : Exa Z h125 b86 "[J" := h122.ext E125
      have h146 : Vec Z h125 b86 .long (4 : Int32) (longs (fun _ => (0 : Int64))) := h123.ext E125
      have Gb125 : Hid (n0 ≤ b125) := Nat.le_trans (Nat.le_trans Z0 K107.1) (Nat.le_of_eq g125.symm)
      have szb125 : Hid (h0.size ≤ b125) := Nat.le_trans K107.1 (Nat.le_of_eq g125.symm)
      have K125 : Keep h0 h125 [q] := K107.ext E125
      have h147 : Vec Z h125 b125 .int (4 : Int32) (ints (fun _ => (0 : Int32))) := Vec.new A125 r126
      refine Go.st st125 ?_
      show Go p e below s Q 133 715 (T125.setTop (mkF m 62 #[vr q, vi i39] [(.ref b125), (.int i39), (.ref b21)]))
      have fj : ∀ b : Nat, b < i39.toInt.toNat → jf b ≠ b125 := h121.fj g125
      have mj : n1 ≤ b125 := Nat.le_trans h118 (Nat.le_of_eq g125.symm)
      have r149 : 0 ≤ i39.toInt := by omega
      have r150 : i39.toInt < 65 := by omega
      obtain ⟨T148, h148, X148, e148, W148, V148, st148⟩ := RAP.ist X125 hx hZ e125 h143 (Ins.self B125) (j := i39) r149 r150 (g := (mkF m 62 #[vr q, vi i39] [(.ref b125), (.int i39), (.ref b21)])) rfl rfl (hb hby d3_62)
      have h151 : Exa Z h148 q cR := h133.wr W148
      have h152 : Fld Z h148 q cR "keys" "[[J" (.ref b2) := h134.other W148 (Or.inl q24)
      have h153 : Fld Z h148 q cR "ids" "[[I" (.ref b21) := h135.other W148 (Or.inl q24)
      have h154 : Fld Z h148 q cR "sizes" "[I" (.ref b43) := h136.other W148 (Or.inl q24)
      have h155 : Fld Z h148 q cR "size" "I" (.int (0 : Int32)) := h137.other W148 (Or.inl q24)
      have h156 : Fld Z h148 q cR "last" "J" (.long (-9223372036854775808 : Int64)) := h138.other W148 (Or.inl q24)
      have h157 : Exa Z h148 b43 "[I" := h139.wr W148
      have h158 : Vec Z h148 b43 .int (65 : Int32) (ints (fun _ => (0 : Int32))) := h140.other W148 (Ne.symm q49)
      have h159 : n1 ≤ h148.size := Nat.le_trans h141 (Nat.le_of_eq W148.size.symm)
      have h160 : RAP Z h148 b2 .long "[J" (updF kf i39.toInt.toNat b86) (i39.toInt.toNat + 1) := h142.other W148 q25
      have h161 : RAP Z h148 b21 .int "[I" (updF jf i39.toInt.toNat b125) (i39.toInt.toNat + 1) := V148
      have h162 : RP Z h148 n1 kf jf i39.toInt.toNat := h144.wr W148 lt_b21
      have h163 : Exa Z h148 b86 "[J" := h145.wr W148
      have h164 : Vec Z h148 b86 .long (4 : Int32) (longs (fun _ => (0 : Int64))) := h146.other W148 (Ne.symm q93)
      have h165 : Exa Z h148 b125 "[I" := B125.wr W148
      have h166 : Vec Z h148 b125 .int (4 : Int32) (ints (fun _ => (0 : Int32))) := h147.other W148 (Ne.symm q131)
      have K148 : Keep h0 h148 [q] := K125.wr W148 (Or.inr szb21)
      have N148 := Fr.snoc X148 N107 Gb21
      refine Go.st st148 ?_
      show Go p e below s Q 133 715 (T148.setTop (mkF m 63 #[vr q, vi i39] []))
      have h167 : RP Z h148 n1 (updF kf i39.toInt.toNat b86) (updF jf i39.toInt.toNat b125) (i39.toInt.toNat + 1) := RP.more h162 h164 h166 mk mj fk fj
      refine gInc X148 hx hby rfl d3_63 rfl (l' := #[vr q, vi (i39 + (1 : Int32))]) rfl ?_
      show Go p e below s Q 133 715 (T148.setTop (mkF m 66 #[vr q, vi (i39 + (1 : Int32))] []))
      have f168 := liI_1
      have f169 := c_iadd i39 (1 : Int32)
      have f170 := rng32 (i39 + (1 : Int32))
      generalize hv_v171 : (i39 + (1 : Int32)) = v171 at f169 f170 ⊢
      have hix : i39.toInt.toNat + 1 = v171.toInt.toNat := by omega
      refine gG X148 hx hby rfl (pc0 := 66) (pc' := 39) rfl d3_66 (by decide) (by decide) ?_
      show Go p e below s Q 133 715 (T148.setTop (mkF m 39 #[vr q, vi v171] []))
      exact ihg81 _ (by omega) v171 (updF kf i39.toInt.toNat b86) (updF jf i39.toInt.toNat b125) T148 h148 _ (up X148 (by omega) (by omega)) e148 N148 K148 h151 h152 h153 h154 h155 h156 h157 h158 h159 (by have hh := h160; first | exact hh | exact hix ▸ hh) (by have hh := h161; first | exact hh | exact hix ▸ hh) (by have hh := h167; first | exact hh | exact hix ▸ hh) (by omega) rfl
    ·
      refine gZ Xg81 hx hby rfl (pc0 := 42) (pc' := 69) rfl d3_42 rfl (flt (nltI rfl liI_65 c84)).2.1 (by decide) (by decide) ?_
      show Go p e below s Q 133 715 (Tg81.setTop (mkF m 69 #[vr q, vi i39] []))
      have hi65 : i39.toInt.toNat = 65 := by omega
      have h172 : RA Z hg81 b2 .long kf := RAP.full (hi65 ▸ hfg81_9)
      have h173 : RA Z hg81 b21 .int jf := RAP.full (hi65 ▸ hfg81_10)
      have hY := hfg81_11
      rw [hi65] at hY
      have h174 : RwJ Z hg81 kf (fun _ _ => (0 : Int64)) := fun b hb => (hY.1 b hb).1
      have h175 : RwI Z hg81 jf (fun _ _ => (0 : Int32)) := fun b hb => (hY.1 b hb).2.1
      have nr_q : NR kf jf q := fun b hb => ⟨Ne.symm (Nat.ne_of_lt (Nat.lt_of_lt_of_le lt_q (hY.1 b hb).2.2.1)), Ne.symm (Nat.ne_of_lt (Nat.lt_of_lt_of_le lt_q (hY.1 b hb).2.2.2))⟩
      have nr_b2 : NR kf jf b2 := fun b hb => ⟨Ne.symm (Nat.ne_of_lt (Nat.lt_of_lt_of_le lt_b2 (hY.1 b hb).2.2.1)), Ne.symm (Nat.ne_of_lt (Nat.lt_of_lt_of_le lt_b2 (hY.1 b hb).2.2.2))⟩
      have nr_b21 : NR kf jf b21 := fun b hb => ⟨Ne.symm (Nat.ne_of_lt (Nat.lt_of_lt_of_le lt_b21 (hY.1 b hb).2.2.1)), Ne.symm (Nat.ne_of_lt (Nat.lt_of_lt_of_le lt_b21 (hY.1 b hb).2.2.2))⟩
      have nr_b43 : NR kf jf b43 := fun b hb => ⟨Ne.symm (Nat.ne_of_lt (Nat.lt_of_lt_of_le lt_b43 (hY.1 b hb).2.2.1)), Ne.symm (Nat.ne_of_lt (Nat.lt_of_lt_of_le lt_b43 (hY.1 b hb).2.2.2))⟩
      have hrw : ∀ b : Nat, b < 65 → h0.size ≤ kf b ∧ h0.size ≤ jf b := fun b hb => ⟨Nat.le_trans hn0 (hY.1 b hb).2.2.1, Nat.le_trans hn0 (hY.1 b hb).2.2.2⟩
      exact Go.retV Xg81 hx hlk Bd.returns (hb hby d3_69) (by rw [← hQ, eg81]; exact ⟨b2, b21, b43, kf, jf, rfl, Ng81, Kg81, hfg81_0, hfg81_1, hfg81_2, hfg81_3, hfg81_4, hfg81_5, h172, h173, hfg81_7, h174, h175, (by exact hY.2.1), (by exact hY.2.2), (by exact hrw), (by exact nr_q), (by exact nr_b2), (by exact nr_b21), (by exact nr_b43), (by exact szb2), (by exact szb21), (by exact szb43), q47, q48, q49, (Ne.symm q5), (Ne.symm q24), q25⟩) (by omega) (by omega)
  have f176 := liI_0
  exact lp82 _ (0 : Int32) (fun _ => (0 : Nat)) (fun _ => (0 : Nat)) T70 h70 _ (up X70 (by omega) (by omega)) e70 N70 K70 h71 h72 h73 h74 h75 h76 h79 h80 hz39 (by have hh := h77; first | exact hh | exact hix ▸ hh) (by have hh := h78; first | exact hh | exact hix ▸ hh) (by have hh := hy39; first | exact hh | exact hix ▸ hh) (by omega) rfl
theorem sl_1 {Z : State} {a0 : Array Value} (hw : ∀ d ∈ tables_1, d.before a0 Z = true) : List.Nodup [Jvm.RoadKit.slotOf Z cP "queue" "Lcom/example/rackwise/rackwise/RadixHeap;", Jvm.RoadKit.slotOf Z cP "potential" "[J", Jvm.RoadKit.slotOf Z cP "distance" "[J", Jvm.RoadKit.slotOf Z cP "marks" "[I", Jvm.RoadKit.slotOf Z cP "settled" "[I", Jvm.RoadKit.slotOf Z cP "ready" "[I", Jvm.RoadKit.slotOf Z cP "mark" "I", Jvm.RoadKit.slotOf Z cP "settledCount" "I", Jvm.RoadKit.slotOf Z cP "readyCount" "I", Jvm.RoadKit.slotOf Z cP "settling" "J", Jvm.RoadKit.slotOf Z cP "limit" "J", Jvm.RoadKit.slotOf Z cP "end" "I", Jvm.RoadKit.slotOf Z cP "toSources" "Z", Jvm.RoadKit.slotOf Z cP "sourcesLeft" "I", Jvm.RoadKit.slotOf Z cP "sourceIn" "[I"] := by
  have w0 : Laid Z a0 cP cP "queue" "Lcom/example/rackwise/rackwise/RadixHeap;" := (Or.inr (tb hw 34 rfl))
  have p0 : parseFieldDescriptor "Lcom/example/rackwise/rackwise/RadixHeap;" = some (.object cR) := by decide
  have w1 : Laid Z a0 cP cP "potential" "[J" := (Or.inr (tb hw 36 rfl))
  have p1 : parseFieldDescriptor "[J" = some (.array .long) := by decide
  have w2 : Laid Z a0 cP cP "distance" "[J" := (Or.inr (tb hw 38 rfl))
  have p2 : parseFieldDescriptor "[J" = some (.array .long) := by decide
  have w3 : Laid Z a0 cP cP "marks" "[I" := (Or.inr (tb hw 40 rfl))
  have p3 : parseFieldDescriptor "[I" = some (.array .int) := by decide
  have w4 : Laid Z a0 cP cP "settled" "[I" := (Or.inr (tb hw 42 rfl))
  have p4 : parseFieldDescriptor "[I" = some (.array .int) := by decide
  have w5 : Laid Z a0 cP cP "ready" "[I" := (Or.inr (tb hw 44 rfl))
  have p5 : parseFieldDescriptor "[I" = some (.array .int) := by decide
  have w6 : Laid Z a0 cP cP "mark" "I" := (Or.inl (tb hw 56 rfl))
  have p6 : parseFieldDescriptor "I" = some .int := by decide
  have w7 : Laid Z a0 cP cP "settledCount" "I" := (Or.inl (tb hw 58 rfl))
  have p7 : parseFieldDescriptor "I" = some .int := by decide
  have w8 : Laid Z a0 cP cP "readyCount" "I" := (Or.inl (tb hw 60 rfl))
  have p8 : parseFieldDescriptor "I" = some .int := by decide
  have w9 : Laid Z a0 cP cP "settling" "J" := (Or.inl (tb hw 74 rfl))
  have p9 : parseFieldDescriptor "J" = some .long := by decide
  have w10 : Laid Z a0 cP cP "limit" "J" := (Or.inl (tb hw 76 rfl))
  have p10 : parseFieldDescriptor "J" = some .long := by decide
  have w11 : Laid Z a0 cP cP "end" "I" := (Or.inl (tb hw 78 rfl))
  have p11 : parseFieldDescriptor "I" = some .int := by decide
  have w12 : Laid Z a0 cP cP "toSources" "Z" := (Or.inl (tb hw 80 rfl))
  have p12 : parseFieldDescriptor "Z" = some .boolean := by decide
  have w13 : Laid Z a0 cP cP "sourcesLeft" "I" := (Or.inl (tb hw 82 rfl))
  have p13 : parseFieldDescriptor "I" = some .int := by decide
  have w14 : Laid Z a0 cP cP "sourceIn" "[I" := (Or.inl (tb hw 154 rfl))
  have p14 : parseFieldDescriptor "[I" = some (.array .int) := by decide
  exact (List.nodup_cons.mpr ⟨(ninS (slot_ne w0 w1 (by decide) p0 p1) (ninS (slot_ne w0 w2 (by decide) p0 p2) (ninS (slot_ne w0 w3 (by decide) p0 p3) (ninS (slot_ne w0 w4 (by decide) p0 p4) (ninS (slot_ne w0 w5 (by decide) p0 p5) (ninS (slot_ne w0 w6 (by decide) p0 p6) (ninS (slot_ne w0 w7 (by decide) p0 p7) (ninS (slot_ne w0 w8 (by decide) p0 p8) (ninS (slot_ne w0 w9 (by decide) p0 p9) (ninS (slot_ne w0 w10 (by decide) p0 p10) (ninS (slot_ne w0 w11 (by decide) p0 p11) (ninS (slot_ne w0 w12 (by decide) p0 p12) (ninS (slot_ne w0 w13 (by decide) p0 p13) (ninS (slot_ne w0 w14 (by decide) p0 p14) nin0)))))))))))))), (List.nodup_cons.mpr ⟨(ninS (slot_ne w1 w2 (by decide) p1 p2) (ninS (slot_ne w1 w3 (by decide) p1 p3) (ninS (slot_ne w1 w4 (by decide) p1 p4) (ninS (slot_ne w1 w5 (by decide) p1 p5) (ninS (slot_ne w1 w6 (by decide) p1 p6) (ninS (slot_ne w1 w7 (by decide) p1 p7) (ninS (slot_ne w1 w8 (by decide) p1 p8) (ninS (slot_ne w1 w9 (by decide) p1 p9) (ninS (slot_ne w1 w10 (by decide) p1 p10) (ninS (slot_ne w1 w11 (by decide) p1 p11) (ninS (slot_ne w1 w12 (by decide) p1 p12) (ninS (slot_ne w1 w13 (by decide) p1 p13) (ninS (slot_ne w1 w14 (by decide) p1 p14) nin0))))))))))))), (List.nodup_cons.mpr ⟨(ninS (slot_ne w2 w3 (by decide) p2 p3) (ninS (slot_ne w2 w4 (by decide) p2 p4) (ninS (slot_ne w2 w5 (by decide) p2 p5) (ninS (slot_ne w2 w6 (by decide) p2 p6) (ninS (slot_ne w2 w7 (by decide) p2 p7) (ninS (slot_ne w2 w8 (by decide) p2 p8) (ninS (slot_ne w2 w9 (by decide) p2 p9) (ninS (slot_ne w2 w10 (by decide) p2 p10) (ninS (slot_ne w2 w11 (by decide) p2 p11) (ninS (slot_ne w2 w12 (by decide) p2 p12) (ninS (slot_ne w2 w13 (by decide) p2 p13) (ninS (slot_ne w2 w14 (by decide) p2 p14) nin0)))))))))))), (List.nodup_cons.mpr ⟨(ninS (slot_ne w3 w4 (by decide) p3 p4) (ninS (slot_ne w3 w5 (by decide) p3 p5) (ninS (slot_ne w3 w6 (by decide) p3 p6) (ninS (slot_ne w3 w7 (by decide) p3 p7) (ninS (slot_ne w3 w8 (by decide) p3 p8) (ninS (slot_ne w3 w9 (by decide) p3 p9) (ninS (slot_ne w3 w10 (by decide) p3 p10) (ninS (slot_ne w3 w11 (by decide) p3 p11) (ninS (slot_ne w3 w12 (by decide) p3 p12) (ninS (slot_ne w3 w13 (by decide) p3 p13) (ninS (slot_ne w3 w14 (by decide) p3 p14) nin0))))))))))), (List.nodup_cons.mpr ⟨(ninS (slot_ne w4 w5 (by decide) p4 p5) (ninS (slot_ne w4 w6 (by decide) p4 p6) (ninS (slot_ne w4 w7 (by decide) p4 p7) (ninS (slot_ne w4 w8 (by decide) p4 p8) (ninS (slot_ne w4 w9 (by decide) p4 p9) (ninS (slot_ne w4 w10 (by decide) p4 p10) (ninS (slot_ne w4 w11 (by decide) p4 p11) (ninS (slot_ne w4 w12 (by decide) p4 p12) (ninS (slot_ne w4 w13 (by decide) p4 p13) (ninS (slot_ne w4 w14 (by decide) p4 p14) nin0)))))))))), (List.nodup_cons.mpr ⟨(ninS (slot_ne w5 w6 (by decide) p5 p6) (ninS (slot_ne w5 w7 (by decide) p5 p7) (ninS (slot_ne w5 w8 (by decide) p5 p8) (ninS (slot_ne w5 w9 (by decide) p5 p9) (ninS (slot_ne w5 w10 (by decide) p5 p10) (ninS (slot_ne w5 w11 (by decide) p5 p11) (ninS (slot_ne w5 w12 (by decide) p5 p12) (ninS (slot_ne w5 w13 (by decide) p5 p13) (ninS (slot_ne w5 w14 (by decide) p5 p14) nin0))))))))), (List.nodup_cons.mpr ⟨(ninS (slot_ne w6 w7 (by decide) p6 p7) (ninS (slot_ne w6 w8 (by decide) p6 p8) (ninS (slot_ne w6 w9 (by decide) p6 p9) (ninS (slot_ne w6 w10 (by decide) p6 p10) (ninS (slot_ne w6 w11 (by decide) p6 p11) (ninS (slot_ne w6 w12 (by decide) p6 p12) (ninS (slot_ne w6 w13 (by decide) p6 p13) (ninS (slot_ne w6 w14 (by decide) p6 p14) nin0)))))))), (List.nodup_cons.mpr ⟨(ninS (slot_ne w7 w8 (by decide) p7 p8) (ninS (slot_ne w7 w9 (by decide) p7 p9) (ninS (slot_ne w7 w10 (by decide) p7 p10) (ninS (slot_ne w7 w11 (by decide) p7 p11) (ninS (slot_ne w7 w12 (by decide) p7 p12) (ninS (slot_ne w7 w13 (by decide) p7 p13) (ninS (slot_ne w7 w14 (by decide) p7 p14) nin0))))))), (List.nodup_cons.mpr ⟨(ninS (slot_ne w8 w9 (by decide) p8 p9) (ninS (slot_ne w8 w10 (by decide) p8 p10) (ninS (slot_ne w8 w11 (by decide) p8 p11) (ninS (slot_ne w8 w12 (by decide) p8 p12) (ninS (slot_ne w8 w13 (by decide) p8 p13) (ninS (slot_ne w8 w14 (by decide) p8 p14) nin0)))))), (List.nodup_cons.mpr ⟨(ninS (slot_ne w9 w10 (by decide) p9 p10) (ninS (slot_ne w9 w11 (by decide) p9 p11) (ninS (slot_ne w9 w12 (by decide) p9 p12) (ninS (slot_ne w9 w13 (by decide) p9 p13) (ninS (slot_ne w9 w14 (by decide) p9 p14) nin0))))), (List.nodup_cons.mpr ⟨(ninS (slot_ne w10 w11 (by decide) p10 p11) (ninS (slot_ne w10 w12 (by decide) p10 p12) (ninS (slot_ne w10 w13 (by decide) p10 p13) (ninS (slot_ne w10 w14 (by decide) p10 p14) nin0)))), (List.nodup_cons.mpr ⟨(ninS (slot_ne w11 w12 (by decide) p11 p12) (ninS (slot_ne w11 w13 (by decide) p11 p13) (ninS (slot_ne w11 w14 (by decide) p11 p14) nin0))), (List.nodup_cons.mpr ⟨(ninS (slot_ne w12 w13 (by decide) p12 p13) (ninS (slot_ne w12 w14 (by decide) p12 p14) nin0)), (List.nodup_cons.mpr ⟨(ninS (slot_ne w13 w14 (by decide) p13 p14) nin0), (List.nodup_cons.mpr ⟨nin0, List.nodup_nil⟩)⟩)⟩)⟩)⟩)⟩)⟩)⟩)⟩)⟩)⟩)⟩)⟩)⟩)⟩)
theorem PFs_set_mark {Z : State} {a0 : Array Value} {h h' : Heap} {ps po : Addr} {mk : Int32} {di ma se : Addr} {sc : Int32} {q : Addr} {st lm : Int64} {en ts sl : Int32} {sv : Value} {v' : Int32} (hw : ∀ d ∈ tables_1, d.before a0 Z = true) (W : Wr h h' ps (Jvm.RoadKit.slotOf Z cP "mark" "I") (.int v')) (F : PFs Z h ps po mk di ma se sc q st lm en ts sl sv) : PFs Z h' ps po v' di ma se sc q st lm en ts sl sv := by
  obtain ⟨c0, c1, c2, c3, c4, c5, c6, c7, c8, c9, c10, c11, c12, c13, c14⟩ := F
  exact ⟨c0.wr W, c1.other W (Or.inr (ndq (sl_1 hw) 1 6 rfl)), c2.same W, c3.other W (Or.inr (ndq (sl_1 hw) 2 6 rfl)), c4.other W (Or.inr (ndq (sl_1 hw) 3 6 rfl)), c5.other W (Or.inr (ndq (sl_1 hw) 4 6 rfl)), c6.other W (Or.inr (ndq (sl_1 hw) 7 6 rfl)), c7.other W (Or.inr (ndq (sl_1 hw) 0 6 rfl)), c8.other W (Or.inr (ndq (sl_1 hw) 8 6 rfl)), c9.other W (Or.inr (ndq (sl_1 hw) 9 6 rfl)), c10.other W (Or.inr (ndq (sl_1 hw) 10 6 rfl)), c11.other W (Or.inr (ndq (sl_1 hw) 11 6 rfl)), c12.other W (Or.inr (ndq (sl_1 hw) 12 6 rfl)), c13.other W (Or.inr (ndq (sl_1 hw) 13 6 rfl)), c14.other W (Or.inr (ndq (sl_1 hw) 14 6 rfl))⟩
theorem PFs_set_settledCount {Z : State} {a0 : Array Value} {h h' : Heap} {ps po : Addr} {mk : Int32} {di ma se : Addr} {sc : Int32} {q : Addr} {st lm : Int64} {en ts sl : Int32} {sv : Value} {v' : Int32} (hw : ∀ d ∈ tables_1, d.before a0 Z = true) (W : Wr h h' ps (Jvm.RoadKit.slotOf Z cP "settledCount" "I") (.int v')) (F : PFs Z h ps po mk di ma se sc q st lm en ts sl sv) : PFs Z h' ps po mk di ma se v' q st lm en ts sl sv := by
  obtain ⟨c0, c1, c2, c3, c4, c5, c6, c7, c8, c9, c10, c11, c12, c13, c14⟩ := F
  exact ⟨c0.wr W, c1.other W (Or.inr (ndq (sl_1 hw) 1 7 rfl)), c2.other W (Or.inr (ndq (sl_1 hw) 6 7 rfl)), c3.other W (Or.inr (ndq (sl_1 hw) 2 7 rfl)), c4.other W (Or.inr (ndq (sl_1 hw) 3 7 rfl)), c5.other W (Or.inr (ndq (sl_1 hw) 4 7 rfl)), c6.same W, c7.other W (Or.inr (ndq (sl_1 hw) 0 7 rfl)), c8.other W (Or.inr (ndq (sl_1 hw) 8 7 rfl)), c9.other W (Or.inr (ndq (sl_1 hw) 9 7 rfl)), c10.other W (Or.inr (ndq (sl_1 hw) 10 7 rfl)), c11.other W (Or.inr (ndq (sl_1 hw) 11 7 rfl)), c12.other W (Or.inr (ndq (sl_1 hw) 12 7 rfl)), c13.other W (Or.inr (ndq (sl_1 hw) 13 7 rfl)), c14.other W (Or.inr (ndq (sl_1 hw) 14 7 rfl))⟩
theorem PFs_set_readyCount {Z : State} {a0 : Array Value} {h h' : Heap} {ps po : Addr} {mk : Int32} {di ma se : Addr} {sc : Int32} {q : Addr} {st lm : Int64} {en ts sl : Int32} {sv : Value} (hw : ∀ d ∈ tables_1, d.before a0 Z = true) (W : Wr h h' ps (Jvm.RoadKit.slotOf Z cP "readyCount" "I") (.int (0 : Int32))) (F : PFs Z h ps po mk di ma se sc q st lm en ts sl sv) : PFs Z h' ps po mk di ma se sc q st lm en ts sl sv := by
  obtain ⟨c0, c1, c2, c3, c4, c5, c6, c7, c8, c9, c10, c11, c12, c13, c14⟩ := F
  exact ⟨c0.wr W, c1.other W (Or.inr (ndq (sl_1 hw) 1 8 rfl)), c2.other W (Or.inr (ndq (sl_1 hw) 6 8 rfl)), c3.other W (Or.inr (ndq (sl_1 hw) 2 8 rfl)), c4.other W (Or.inr (ndq (sl_1 hw) 3 8 rfl)), c5.other W (Or.inr (ndq (sl_1 hw) 4 8 rfl)), c6.other W (Or.inr (ndq (sl_1 hw) 7 8 rfl)), c7.other W (Or.inr (ndq (sl_1 hw) 0 8 rfl)), c8.same W, c9.other W (Or.inr (ndq (sl_1 hw) 9 8 rfl)), c10.other W (Or.inr (ndq (sl_1 hw) 10 8 rfl)), c11.other W (Or.inr (ndq (sl_1 hw) 11 8 rfl)), c12.other W (Or.inr (ndq (sl_1 hw) 12 8 rfl)), c13.other W (Or.inr (ndq (sl_1 hw) 13 8 rfl)), c14.other W (Or.inr (ndq (sl_1 hw) 14 8 rfl))⟩
theorem PFs_set_settling {Z : State} {a0 : Array Value} {h h' : Heap} {ps po : Addr} {mk : Int32} {di ma se : Addr} {sc : Int32} {q : Addr} {st lm : Int64} {en ts sl : Int32} {sv : Value} {v' : Int64} (hw : ∀ d ∈ tables_1, d.before a0 Z = true) (W : Wr h h' ps (Jvm.RoadKit.slotOf Z cP "settling" "J") (.long v')) (F : PFs Z h ps po mk di ma se sc q st lm en ts sl sv) : PFs Z h' ps po mk di ma se sc q v' lm en ts sl sv := by
  obtain ⟨c0, c1, c2, c3, c4, c5, c6, c7, c8, c9, c10, c11, c12, c13, c14⟩ := F
  exact ⟨c0.wr W, c1.other W (Or.inr (ndq (sl_1 hw) 1 9 rfl)), c2.other W (Or.inr (ndq (sl_1 hw) 6 9 rfl)), c3.other W (Or.inr (ndq (sl_1 hw) 2 9 rfl)), c4.other W (Or.inr (ndq (sl_1 hw) 3 9 rfl)), c5.other W (Or.inr (ndq (sl_1 hw) 4 9 rfl)), c6.other W (Or.inr (ndq (sl_1 hw) 7 9 rfl)), c7.other W (Or.inr (ndq (sl_1 hw) 0 9 rfl)), c8.other W (Or.inr (ndq (sl_1 hw) 8 9 rfl)), c9.same W, c10.other W (Or.inr (ndq (sl_1 hw) 10 9 rfl)), c11.other W (Or.inr (ndq (sl_1 hw) 11 9 rfl)), c12.other W (Or.inr (ndq (sl_1 hw) 12 9 rfl)), c13.other W (Or.inr (ndq (sl_1 hw) 13 9 rfl)), c14.other W (Or.inr (ndq (sl_1 hw) 14 9 rfl))⟩
theorem PFs_set_limit {Z : State} {a0 : Array Value} {h h' : Heap} {ps po : Addr} {mk : Int32} {di ma se : Addr} {sc : Int32} {q : Addr} {st lm : Int64} {en ts sl : Int32} {sv : Value} {v' : Int64} (hw : ∀ d ∈ tables_1, d.before a0 Z = true) (W : Wr h h' ps (Jvm.RoadKit.slotOf Z cP "limit" "J") (.long v')) (F : PFs Z h ps po mk di ma se sc q st lm en ts sl sv) : PFs Z h' ps po mk di ma se sc q st v' en ts sl sv := by
  obtain ⟨c0, c1, c2, c3, c4, c5, c6, c7, c8, c9, c10, c11, c12, c13, c14⟩ := F
  exact ⟨c0.wr W, c1.other W (Or.inr (ndq (sl_1 hw) 1 10 rfl)), c2.other W (Or.inr (ndq (sl_1 hw) 6 10 rfl)), c3.other W (Or.inr (ndq (sl_1 hw) 2 10 rfl)), c4.other W (Or.inr (ndq (sl_1 hw) 3 10 rfl)), c5.other W (Or.inr (ndq (sl_1 hw) 4 10 rfl)), c6.other W (Or.inr (ndq (sl_1 hw) 7 10 rfl)), c7.other W (Or.inr (ndq (sl_1 hw) 0 10 rfl)), c8.other W (Or.inr (ndq (sl_1 hw) 8 10 rfl)), c9.other W (Or.inr (ndq (sl_1 hw) 9 10 rfl)), c10.same W, c11.other W (Or.inr (ndq (sl_1 hw) 11 10 rfl)), c12.other W (Or.inr (ndq (sl_1 hw) 12 10 rfl)), c13.other W (Or.inr (ndq (sl_1 hw) 13 10 rfl)), c14.other W (Or.inr (ndq (sl_1 hw) 14 10 rfl))⟩
theorem PFs_set_end {Z : State} {a0 : Array Value} {h h' : Heap} {ps po : Addr} {mk : Int32} {di ma se : Addr} {sc : Int32} {q : Addr} {st lm : Int64} {en ts sl : Int32} {sv : Value} {v' : Int32} (hw : ∀ d ∈ tables_1, d.before a0 Z = true) (W : Wr h h' ps (Jvm.RoadKit.slotOf Z cP "end" "I") (.int v')) (F : PFs Z h ps po mk di ma se sc q st lm en ts sl sv) : PFs Z h' ps po mk di ma se sc q st lm v' ts sl sv := by
  obtain ⟨c0, c1, c2, c3, c4, c5, c6, c7, c8, c9, c10, c11, c12, c13, c14⟩ := F
  exact ⟨c0.wr W, c1.other W (Or.inr (ndq (sl_1 hw) 1 11 rfl)), c2.other W (Or.inr (ndq (sl_1 hw) 6 11 rfl)), c3.other W (Or.inr (ndq (sl_1 hw) 2 11 rfl)), c4.other W (Or.inr (ndq (sl_1 hw) 3 11 rfl)), c5.other W (Or.inr (ndq (sl_1 hw) 4 11 rfl)), c6.other W (Or.inr (ndq (sl_1 hw) 7 11 rfl)), c7.other W (Or.inr (ndq (sl_1 hw) 0 11 rfl)), c8.other W (Or.inr (ndq (sl_1 hw) 8 11 rfl)), c9.other W (Or.inr (ndq (sl_1 hw) 9 11 rfl)), c10.other W (Or.inr (ndq (sl_1 hw) 10 11 rfl)), c11.same W, c12.other W (Or.inr (ndq (sl_1 hw) 12 11 rfl)), c13.other W (Or.inr (ndq (sl_1 hw) 13 11 rfl)), c14.other W (Or.inr (ndq (sl_1 hw) 14 11 rfl))⟩
theorem PFs_set_toSources {Z : State} {a0 : Array Value} {h h' : Heap} {ps po : Addr} {mk : Int32} {di ma se : Addr} {sc : Int32} {q : Addr} {st lm : Int64} {en ts sl : Int32} {sv : Value} {v' : Int32} (hw : ∀ d ∈ tables_1, d.before a0 Z = true) (W : Wr h h' ps (Jvm.RoadKit.slotOf Z cP "toSources" "Z") (.int v')) (F : PFs Z h ps po mk di ma se sc q st lm en ts sl sv) : PFs Z h' ps po mk di ma se sc q st lm en v' sl sv := by
  obtain ⟨c0, c1, c2, c3, c4, c5, c6, c7, c8, c9, c10, c11, c12, c13, c14⟩ := F
  exact ⟨c0.wr W, c1.other W (Or.inr (ndq (sl_1 hw) 1 12 rfl)), c2.other W (Or.inr (ndq (sl_1 hw) 6 12 rfl)), c3.other W (Or.inr (ndq (sl_1 hw) 2 12 rfl)), c4.other W (Or.inr (ndq (sl_1 hw) 3 12 rfl)), c5.other W (Or.inr (ndq (sl_1 hw) 4 12 rfl)), c6.other W (Or.inr (ndq (sl_1 hw) 7 12 rfl)), c7.other W (Or.inr (ndq (sl_1 hw) 0 12 rfl)), c8.other W (Or.inr (ndq (sl_1 hw) 8 12 rfl)), c9.other W (Or.inr (ndq (sl_1 hw) 9 12 rfl)), c10.other W (Or.inr (ndq (sl_1 hw) 10 12 rfl)), c11.other W (Or.inr (ndq (sl_1 hw) 11 12 rfl)), c12.same W, c13.other W (Or.inr (ndq (sl_1 hw) 13 12 rfl)), c14.other W (Or.inr (ndq (sl_1 hw) 14 12 rfl))⟩
theorem PFs_set_sourcesLeft {Z : State} {a0 : Array Value} {h h' : Heap} {ps po : Addr} {mk : Int32} {di ma se : Addr} {sc : Int32} {q : Addr} {st lm : Int64} {en ts sl : Int32} {sv : Value} {v' : Int32} (hw : ∀ d ∈ tables_1, d.before a0 Z = true) (W : Wr h h' ps (Jvm.RoadKit.slotOf Z cP "sourcesLeft" "I") (.int v')) (F : PFs Z h ps po mk di ma se sc q st lm en ts sl sv) : PFs Z h' ps po mk di ma se sc q st lm en ts v' sv := by
  obtain ⟨c0, c1, c2, c3, c4, c5, c6, c7, c8, c9, c10, c11, c12, c13, c14⟩ := F
  exact ⟨c0.wr W, c1.other W (Or.inr (ndq (sl_1 hw) 1 13 rfl)), c2.other W (Or.inr (ndq (sl_1 hw) 6 13 rfl)), c3.other W (Or.inr (ndq (sl_1 hw) 2 13 rfl)), c4.other W (Or.inr (ndq (sl_1 hw) 3 13 rfl)), c5.other W (Or.inr (ndq (sl_1 hw) 4 13 rfl)), c6.other W (Or.inr (ndq (sl_1 hw) 7 13 rfl)), c7.other W (Or.inr (ndq (sl_1 hw) 0 13 rfl)), c8.other W (Or.inr (ndq (sl_1 hw) 8 13 rfl)), c9.other W (Or.inr (ndq (sl_1 hw) 9 13 rfl)), c10.other W (Or.inr (ndq (sl_1 hw) 10 13 rfl)), c11.other W (Or.inr (ndq (sl_1 hw) 11 13 rfl)), c12.other W (Or.inr (ndq (sl_1 hw) 12 13 rfl)), c13.same W, c14.other W (Or.inr (ndq (sl_1 hw) 14 13 rfl))⟩
theorem PFs_set_sourceIn {Z : State} {a0 : Array Value} {h h' : Heap} {ps po : Addr} {mk : Int32} {di ma se : Addr} {sc : Int32} {q : Addr} {st lm : Int64} {en ts sl : Int32} {sv : Value} {v' : Addr} (hw : ∀ d ∈ tables_1, d.before a0 Z = true) (W : Wr h h' ps (Jvm.RoadKit.slotOf Z cP "sourceIn" "[I") (.ref v')) (F : PFs Z h ps po mk di ma se sc q st lm en ts sl sv) : PFs Z h' ps po mk di ma se sc q st lm en ts sl (.ref v') := by
  obtain ⟨c0, c1, c2, c3, c4, c5, c6, c7, c8, c9, c10, c11, c12, c13, c14⟩ := F
  exact ⟨c0.wr W, c1.other W (Or.inr (ndq (sl_1 hw) 1 14 rfl)), c2.other W (Or.inr (ndq (sl_1 hw) 6 14 rfl)), c3.other W (Or.inr (ndq (sl_1 hw) 2 14 rfl)), c4.other W (Or.inr (ndq (sl_1 hw) 3 14 rfl)), c5.other W (Or.inr (ndq (sl_1 hw) 4 14 rfl)), c6.other W (Or.inr (ndq (sl_1 hw) 7 14 rfl)), c7.other W (Or.inr (ndq (sl_1 hw) 0 14 rfl)), c8.other W (Or.inr (ndq (sl_1 hw) 8 14 rfl)), c9.other W (Or.inr (ndq (sl_1 hw) 9 14 rfl)), c10.other W (Or.inr (ndq (sl_1 hw) 10 14 rfl)), c11.other W (Or.inr (ndq (sl_1 hw) 11 14 rfl)), c12.other W (Or.inr (ndq (sl_1 hw) 12 14 rfl)), c13.other W (Or.inr (ndq (sl_1 hw) 13 14 rfl)), c14.same W⟩
theorem pn_4 : plainName "com/example/rackwise/rackwise/PathSearch" = true := by first | (simp [plainName, overriddenIn]; done) | decide +kernel
theorem d9_0 : decode prog_96_method_4_code 0 = .ok (.aload_n 0, 1) := by decide +kernel
theorem d9_1 : decode prog_96_method_4_code 1 = .ok (.getfield 34, 3) := by decide +kernel
theorem d9_4 : decode prog_96_method_4_code 4 = .ok (.iload_n 1, 1) := by decide +kernel
theorem d9_5 : decode prog_96_method_4_code 5 = .ok (.laload, 1) := by decide +kernel
theorem d9_6 : decode prog_96_method_4_code 6 = .ok (.lreturn, 1) := by decide +kernel
theorem ef_rmpt0 (m : MethodId) (ps : Addr) : entryFrame m #[(.ref ps), (.int (0 : Int32))] 2 = mkF m 0 #[vr ps, vi (0 : Int32)] [] := by first | (simp [entryFrame, mkF, argsToLocals, Value.category]; done) | rfl
def Qpt0 (Z : State) (ps q ks js ss po di ma se : Addr) (kf jf : Nat → Addr) (mk sc en ts sl : Int32) (st lm p0 p1 d0 d1 : Int64) (m0 m1 s0 s1 : Int32) (sz : Nat → Int32) (KF : Nat → Nat → Int64) (JF : Nat → Nat → Int32) (sn : Int32) (la : Int64) (sv : Value) (h0 : Heap) (n0 : Nat) (vv : Option Value) (h : Heap) (LL : List Loc) : Prop := vv = some (.long p0) ∧ Fr n0 LL ∧ h = h0
set_option maxRecDepth 65536 in
set_option maxHeartbeats 40000000 in
theorem rmpt0 (l : Launch) (Z : State) (a0 : Array Value) (hw : ∀ d ∈ tables_1, d.before a0 Z = true) (ws : List Jvm.Cond) (ps q ks js ss po di ma se : Addr) (kf jf : Nat → Addr) (mk sc en ts sl : Int32) (st lm p0 p1 d0 d1 : Int64) (m0 m1 s0 s1 : Int32) (sz : Nat → Int32) (KF : Nat → Nat → Int64) (JF : Nat → Nat → Int32) (sn : Int32) (la : Int64) (sv : Value) (h0 : Heap) (n0 : Nat) (Z0 : n0 ≤ h0.size) (hO : PSt Z h0 ps q ks js ss po di ma se kf jf mk sc en ts sl st lm p0 p1 d0 d1 m0 m1 s0 s1 sz KF JF sn la sv) (hPs : PSs n0 ps q ks js ss po di ma se kf jf) :
    MetFree l (⟨cP, "potential", "(I)J"⟩ : MethodName) (head1 (Jvm.Cond.code (⟨cP, "potential", "(I)J"⟩ : MethodName) prog_96_method_4_code 2 (some .long) :: ws) ({ frames := 0, cells := 0, slots := 0, locals := 0 } : Room)) (fun aa UU => aa = #[(.ref ps), (.int (0 : Int32))] ∧ Z.Warmed39 UU.vm ∧ UU.heap = h0) (fun _ _ _ _ _ => True) (fun _ UU oo UU' => ∃ vv LL, oo = .returned vv ∧ Qpt0 Z ps q ks js ss po di ma se kf jf mk sc en ts sl st lm p0 p1 d0 d1 m0 m1 s0 s1 sz KF JF sn la sv h0 n0 vv UU'.heap LL ∧ FrameEnd UU oo UU' LL 0 0) := by
  refine MetFree.of_bodySF (plainFor_of_name pn_4) hisR ?_
  intro p e s m args below meth c s₁ Bd hml0 hP hK
  obtain ⟨rfl, hZ, hh⟩ := hP
  have hx := Bd.exec
  have hby := Bd.bytes
  have hlk : meth.locks = false := BodyLoose.notSynchronized Bd
  have hml : c.maxLocals = 2 := hml0
  have hown : s.vm.findClass cP = some m.cls := findClass_of_methodNamed Bd.named
  have hnm := (name_of_methodNamed Bd.named Bd.method).1
  have X0 : Stand p l e ({ frames := 0, cells := 0, slots := 0, locals := 0 } : Room) s m #[(.ref ps), (.int (0 : Int32))] below meth c s₁ [] 0 0 := Stand.of_body Bd
  have e0 : s₁.heap = h0 := by rw [← hh, Bd.state]; rfl
  have N0 := Fr.nil n0
  have K0 : Keep h0 h0 [] := Keep.refl h0 _
  refine (?_ : Go p e below s (Qpt0 Z ps q ks js ss po di ma se kf jf mk sc en ts sl st lm p0 p1 d0 d1 m0 m1 s0 s1 sz KF JF sn la sv h0 n0) 0 0 (s₁.setTop (entryFrame m #[(.ref ps), (.int (0 : Int32))] 2)))
  rw [ef_rmpt0]
  generalize hQ : Qpt0 Z ps q ks js ss po di ma se kf jf mk sc en ts sl st lm p0 p1 d0 d1 m0 m1 s0 s1 sz KF JF sn la sv h0 n0 = Q
  obtain ⟨hPF, c_vp, c_vd, c_vm, c_vs, hQF⟩ := hO
  obtain ⟨ND, Ik, Ij, GR, N_ps, N_q, N_ks, N_js, N_ss, N_po, N_di, N_ma, N_se, G_ps, G_q, G_ss, G_po, G_di, G_ma, G_se⟩ := hPs
  show Go p e below s Q 0 0 (s₁.setTop (mkF m 0 #[vr ps, vi (0 : Int32)] []))
  have f1 := liI_0
  refine gA X0 hx hby rfl d9_0 rfl rfl ?_
  obtain ⟨T2, X2, e2, st2⟩ := getF X0 hx hZ hown (host := "") (Or.inl (tb hw 35 rfl)) Via.refl e0 hPF.2.1 (g := (mkF m 1 #[vr ps, vi (0 : Int32)] [(.ref ps)])) rfl rfl (hb hby d9_1)
  refine Go.st st2 ?_
  refine gC X2 hx hby rfl d9_4 rfl ?_
  refine Go.st (Vec.ildJ X2 hx hZ e2 c_vp (j := (0 : Int32)) (by decide) (by decide) (g := (mkF m 5 #[vr ps, vi (0 : Int32)] [(.int (0 : Int32)), (.ref po)])) rfl rfl (hb hby d9_5)) ?_
  show Go p e below s Q 0 0 (T2.setTop (mkF m 6 #[vr ps, vi (0 : Int32)] [(.long p0)]))
  have f4 := rng64 p0
  exact Go.retJ X2 hx hlk Bd.returns (hb hby d9_6) (by rw [← hQ, e2]; exact ⟨rfl, N0, rfl⟩) (by decide) (by decide)
theorem ef_rmpt1 (m : MethodId) (ps : Addr) : entryFrame m #[(.ref ps), (.int (1 : Int32))] 2 = mkF m 0 #[vr ps, vi (1 : Int32)] [] := by first | (simp [entryFrame, mkF, argsToLocals, Value.category]; done) | rfl
def Qpt1 (Z : State) (ps q ks js ss po di ma se : Addr) (kf jf : Nat → Addr) (mk sc en ts sl : Int32) (st lm p0 p1 d0 d1 : Int64) (m0 m1 s0 s1 : Int32) (sz : Nat → Int32) (KF : Nat → Nat → Int64) (JF : Nat → Nat → Int32) (sn : Int32) (la : Int64) (sv : Value) (h0 : Heap) (n0 : Nat) (vv : Option Value) (h : Heap) (LL : List Loc) : Prop := vv = some (.long p1) ∧ Fr n0 LL ∧ h = h0
set_option maxRecDepth 65536 in
set_option maxHeartbeats 40000000 in
theorem rmpt1 (l : Launch) (Z : State) (a0 : Array Value) (hw : ∀ d ∈ tables_1, d.before a0 Z = true) (ws : List Jvm.Cond) (ps q ks js ss po di ma se : Addr) (kf jf : Nat → Addr) (mk sc en ts sl : Int32) (st lm p0 p1 d0 d1 : Int64) (m0 m1 s0 s1 : Int32) (sz : Nat → Int32) (KF : Nat → Nat → Int64) (JF : Nat → Nat → Int32) (sn : Int32) (la : Int64) (sv : Value) (h0 : Heap) (n0 : Nat) (Z0 : n0 ≤ h0.size) (hO : PSt Z h0 ps q ks js ss po di ma se kf jf mk sc en ts sl st lm p0 p1 d0 d1 m0 m1 s0 s1 sz KF JF sn la sv) (hPs : PSs n0 ps q ks js ss po di ma se kf jf) :
    MetFree l (⟨cP, "potential", "(I)J"⟩ : MethodName) (head1 (Jvm.Cond.code (⟨cP, "potential", "(I)J"⟩ : MethodName) prog_96_method_4_code 2 (some .long) :: ws) ({ frames := 0, cells := 0, slots := 0, locals := 0 } : Room)) (fun aa UU => aa = #[(.ref ps), (.int (1 : Int32))] ∧ Z.Warmed39 UU.vm ∧ UU.heap = h0) (fun _ _ _ _ _ => True) (fun _ UU oo UU' => ∃ vv LL, oo = .returned vv ∧ Qpt1 Z ps q ks js ss po di ma se kf jf mk sc en ts sl st lm p0 p1 d0 d1 m0 m1 s0 s1 sz KF JF sn la sv h0 n0 vv UU'.heap LL ∧ FrameEnd UU oo UU' LL 0 0) := by
  refine MetFree.of_bodySF (plainFor_of_name pn_4) hisR ?_
  intro p e s m args below meth c s₁ Bd hml0 hP hK
  obtain ⟨rfl, hZ, hh⟩ := hP
  have hx := Bd.exec
  have hby := Bd.bytes
  have hlk : meth.locks = false := BodyLoose.notSynchronized Bd
  have hml : c.maxLocals = 2 := hml0
  have hown : s.vm.findClass cP = some m.cls := findClass_of_methodNamed Bd.named
  have hnm := (name_of_methodNamed Bd.named Bd.method).1
  have X0 : Stand p l e ({ frames := 0, cells := 0, slots := 0, locals := 0 } : Room) s m #[(.ref ps), (.int (1 : Int32))] below meth c s₁ [] 0 0 := Stand.of_body Bd
  have e0 : s₁.heap = h0 := by rw [← hh, Bd.state]; rfl
  have N0 := Fr.nil n0
  have K0 : Keep h0 h0 [] := Keep.refl h0 _
  refine (?_ : Go p e below s (Qpt1 Z ps q ks js ss po di ma se kf jf mk sc en ts sl st lm p0 p1 d0 d1 m0 m1 s0 s1 sz KF JF sn la sv h0 n0) 0 0 (s₁.setTop (entryFrame m #[(.ref ps), (.int (1 : Int32))] 2)))
  rw [ef_rmpt1]
  generalize hQ : Qpt1 Z ps q ks js ss po di ma se kf jf mk sc en ts sl st lm p0 p1 d0 d1 m0 m1 s0 s1 sz KF JF sn la sv h0 n0 = Q
  obtain ⟨hPF, c_vp, c_vd, c_vm, c_vs, hQF⟩ := hO
  obtain ⟨ND, Ik, Ij, GR, N_ps, N_q, N_ks, N_js, N_ss, N_po, N_di, N_ma, N_se, G_ps, G_q, G_ss, G_po, G_di, G_ma, G_se⟩ := hPs
  show Go p e below s Q 0 0 (s₁.setTop (mkF m 0 #[vr ps, vi (1 : Int32)] []))
  have f1 := liI_1
  refine gA X0 hx hby rfl d9_0 rfl rfl ?_
  obtain ⟨T2, X2, e2, st2⟩ := getF X0 hx hZ hown (host := "") (Or.inl (tb hw 35 rfl)) Via.refl e0 hPF.2.1 (g := (mkF m 1 #[vr ps, vi (1 : Int32)] [(.ref ps)])) rfl rfl (hb hby d9_1)
  refine Go.st st2 ?_
  refine gC X2 hx hby rfl d9_4 rfl ?_
  refine Go.st (Vec.ildJ X2 hx hZ e2 c_vp (j := (1 : Int32)) (by decide) (by decide) (g := (mkF m 5 #[vr ps, vi (1 : Int32)] [(.int (1 : Int32)), (.ref po)])) rfl rfl (hb hby d9_5)) ?_
  show Go p e below s Q 0 0 (T2.setTop (mkF m 6 #[vr ps, vi (1 : Int32)] [(.long p1)]))
  have f4 := rng64 p1
  exact Go.retJ X2 hx hlk Bd.returns (hb hby d9_6) (by rw [← hQ, e2]; exact ⟨rfl, N0, rfl⟩) (by decide) (by decide)
theorem d10_0 : decode kc10 0 = .ok (.lload_n 2, 1) := by decide +kernel
theorem d10_1 : decode kc10 1 = .ok (.aload_n 0, 1) := by decide +kernel
theorem d10_2 : decode kc10 2 = .ok (.getfield 34, 3) := by decide +kernel
theorem d10_5 : decode kc10 5 = .ok (.iload_n 1, 1) := by decide +kernel
theorem d10_6 : decode kc10 6 = .ok (.laload, 1) := by decide +kernel
theorem d10_7 : decode kc10 7 = .ok (.ladd, 1) := by decide +kernel
theorem d10_8 : decode kc10 8 = .ok (.lstore 4, 2) := by decide +kernel
theorem d10_10 : decode kc10 10 = .ok (.aload_n 0, 1) := by decide +kernel
theorem d10_11 : decode kc10 11 = .ok (.getfield 41, 3) := by decide +kernel
theorem d10_14 : decode kc10 14 = .ok (.iload_n 1, 1) := by decide +kernel
theorem d10_15 : decode kc10 15 = .ok (.iaload, 1) := by decide +kernel
theorem d10_16 : decode kc10 16 = .ok (.istore 6, 2) := by decide +kernel
theorem d10_18 : decode kc10 18 = .ok (.iload 6, 2) := by decide +kernel
theorem d10_20 : decode kc10 20 = .ok (.aload_n 0, 1) := by decide +kernel
theorem d10_21 : decode kc10 21 = .ok (.getfield 57, 3) := by decide +kernel
theorem d10_24 : decode kc10 24 = .ok (.iconst 1, 1) := by decide +kernel
theorem d10_25 : decode kc10 25 = .ok (.iadd, 1) := by decide +kernel
theorem d10_26 : decode kc10 26 = .ok (.if_icmp .ne 4, 3) := by decide +kernel
theorem d10_30 : decode kc10 30 = .ok (.iload 6, 2) := by decide +kernel
theorem d10_32 : decode kc10 32 = .ok (.aload_n 0, 1) := by decide +kernel
theorem d10_33 : decode kc10 33 = .ok (.getfield 57, 3) := by decide +kernel
theorem d10_36 : decode kc10 36 = .ok (.if_icmp .ne 16, 3) := by decide +kernel
theorem liI_m1 : (-1 : Int32).toInt = -1 := by decide
theorem d10_52 : decode kc10 52 = .ok (.aload_n 0, 1) := by decide +kernel
theorem d10_53 : decode kc10 53 = .ok (.getfield 79, 3) := by decide +kernel
theorem d10_56 : decode kc10 56 = .ok (.iconst (-1), 1) := by decide +kernel
theorem d10_57 : decode kc10 57 = .ok (.if_icmp .eq 35, 3) := by decide +kernel
theorem d10_60 : decode kc10 60 = .ok (.aload_n 0, 1) := by decide +kernel
theorem d10_61 : decode kc10 61 = .ok (.getfield 41, 3) := by decide +kernel
theorem d10_64 : decode kc10 64 = .ok (.aload_n 0, 1) := by decide +kernel
theorem d10_65 : decode kc10 65 = .ok (.getfield 79, 3) := by decide +kernel
theorem d10_68 : decode kc10 68 = .ok (.iaload, 1) := by decide +kernel
theorem d10_69 : decode kc10 69 = .ok (.aload_n 0, 1) := by decide +kernel
theorem d10_70 : decode kc10 70 = .ok (.getfield 57, 3) := by decide +kernel
theorem d10_73 : decode kc10 73 = .ok (.if_icmp .lt 19, 3) := by decide +kernel
theorem d10_92 : decode kc10 92 = .ok (.aload_n 0, 1) := by decide +kernel
theorem d10_93 : decode kc10 93 = .ok (.getfield 41, 3) := by decide +kernel
theorem d10_96 : decode kc10 96 = .ok (.iload_n 1, 1) := by decide +kernel
theorem d10_97 : decode kc10 97 = .ok (.aload_n 0, 1) := by decide +kernel
theorem d10_98 : decode kc10 98 = .ok (.getfield 57, 3) := by decide +kernel
theorem d10_101 : decode kc10 101 = .ok (.iastore, 1) := by decide +kernel
theorem d10_102 : decode kc10 102 = .ok (.aload_n 0, 1) := by decide +kernel
theorem d10_103 : decode kc10 103 = .ok (.getfield 38, 3) := by decide +kernel
theorem d10_106 : decode kc10 106 = .ok (.iload_n 1, 1) := by decide +kernel
theorem d10_107 : decode kc10 107 = .ok (.lload 4, 2) := by decide +kernel
theorem d10_109 : decode kc10 109 = .ok (.lastore, 1) := by decide +kernel
theorem d10_110 : decode kc10 110 = .ok (.lload 4, 2) := by decide +kernel
theorem d10_112 : decode kc10 112 = .ok (.aload_n 0, 1) := by decide +kernel
theorem d10_113 : decode kc10 113 = .ok (.getfield 72, 3) := by decide +kernel
theorem d10_116 : decode kc10 116 = .ok (.lcmp, 1) := by decide +kernel
theorem d10_117 : decode kc10 117 = .ok (.ifCond .ne 23, 3) := by decide +kernel
theorem d10_140 : decode kc10 140 = .ok (.aload_n 0, 1) := by decide +kernel
theorem d10_141 : decode kc10 141 = .ok (.getfield 28, 3) := by decide +kernel
theorem d10_144 : decode kc10 144 = .ok (.lload 4, 2) := by decide +kernel
theorem d10_146 : decode kc10 146 = .ok (.iload_n 1, 1) := by decide +kernel
theorem pd_6 : parseMethodDescriptor "(JI)V" = some ⟨[.long, .int], none⟩ := by decide +kernel
theorem d10_147 : decode kc10 147 = .ok (.invokevirtual 92, 3) := by decide +kernel
theorem d10_150 : decode kc10 150 = .ok (.return_, 1) := by decide +kernel
theorem ef_rmr0 (m : MethodId) (ps : Addr) (bs : Int64) : entryFrame m #[(.ref ps), (.int (0 : Int32)), (.long bs)] 7 = mkF m 0 #[vr ps, vi (0 : Int32), vj bs, sd, un, un, un] [] := by first | (simp [entryFrame, mkF, argsToLocals, Value.category]; done) | rfl
def Qr0 (Z : State) (ps : Addr) (bs : Int64) (q ks js ss po di ma se : Addr) (kf jf : Nat → Addr) (mk sc en ts sl : Int32) (st lm p0 p1 d0 d1 : Int64) (m0 m1 s0 s1 : Int32) (sz : Nat → Int32) (KF : Nat → Nat → Int64) (JF : Nat → Nat → Int32) (sn : Int32) (la : Int64) (sv : Value) (dd : Int64) (h0 : Heap) (n0 : Nat) (vv : Option Value) (h : Heap) (LL : List Loc) : Prop := vv = none ∧ Fr n0 LL ∧ Keep h0 h ([ps, q, ss, po, di, ma, se] ++ rowsOf kf jf) ∧ (PSt Z h ps q ks js ss po di ma se kf jf mk sc en ts sl st lm p0 p1 dd d1 mk m1 s0 s1 (updF sz 64 ((sz 64) + (1 : Int32))) (updF KF 64 (updF (KF 64) (sz 64).toInt.toNat dd)) (updF JF 64 (updF (JF 64) (sz 64).toInt.toNat (0 : Int32))) (sn + (1 : Int32)) la sv)
set_option maxRecDepth 65536 in
set_option maxHeartbeats 40000000 in
theorem rmr0 (l : Launch) (Z : State) (a0 : Array Value) (hw : ∀ d ∈ tables_1, d.before a0 Z = true) (ws : List Jvm.Cond) (ps : Addr) (bs : Int64) (q ks js ss po di ma se : Addr) (kf jf : Nat → Addr) (mk sc en ts sl : Int32) (st lm p0 p1 d0 d1 : Int64) (m0 m1 s0 s1 : Int32) (sz : Nat → Int32) (KF : Nat → Nat → Int64) (JF : Nat → Nat → Int32) (sn : Int32) (la : Int64) (sv : Value) (dd : Int64) (h0 : Heap) (n0 : Nat) (Z0 : n0 ≤ h0.size) (hO : PSt Z h0 ps q ks js ss po di ma se kf jf mk sc en ts sl st lm p0 p1 d0 d1 m0 m1 s0 s1 sz KF JF sn la sv) (hPs : PSs n0 ps q ks js ss po di ma se kf jf) (hdd : (bs + p0).toInt = dd.toInt ∧ 0 ≤ dd.toInt ∧ dd.toInt < 4611686018427387904) (hmk : m0.toInt < mk.toInt ∧ 0 ≤ mk.toInt ∧ mk.toInt ≤ 1000) (hst : st.toInt = 9223372036854775807 ∧ la.toInt < 0) (hq64 : 0 ≤ (sz 64).toInt ∧ (sz 64).toInt < 4) (hen : en.toInt = -1 ∨ en.toInt = 0 ∨ en.toInt = 1) (hsk : m1.toInt < mk.toInt) :
    MetFree l (⟨cP, "reachBack", "(IJ)V"⟩ : MethodName) (head1 (Jvm.Cond.code (⟨cP, "reachBack", "(IJ)V"⟩ : MethodName) kc10 7 none :: ws) ({ frames := 4, cells := 0, slots := 0, locals := 59 } : Room)) (fun aa UU => aa = #[(.ref ps), (.int (0 : Int32)), (.long bs)] ∧ Z.Warmed39 UU.vm ∧ UU.heap = h0) (fun _ _ _ _ _ => True) (fun _ UU oo UU' => ∃ vv LL, oo = .returned vv ∧ Qr0 Z ps bs q ks js ss po di ma se kf jf mk sc en ts sl st lm p0 p1 d0 d1 m0 m1 s0 s1 sz KF JF sn la sv dd h0 n0 vv UU'.heap LL ∧ FrameEnd UU oo UU' LL 0 0) := by
  refine MetFree.of_bodySF (plainFor_of_name pn_4) hisR ?_
  intro p e s m args below meth c s₁ Bd hml0 hP hK
  obtain ⟨rfl, hZ, hh⟩ := hP
  have hx := Bd.exec
  have hby := Bd.bytes
  have hlk : meth.locks = false := BodyLoose.notSynchronized Bd
  have hml : c.maxLocals = 7 := hml0
  have hown : s.vm.findClass cP = some m.cls := findClass_of_methodNamed Bd.named
  have hnm := (name_of_methodNamed Bd.named Bd.method).1
  have X0 : Stand p l e ({ frames := 4, cells := 0, slots := 0, locals := 59 } : Room) s m #[(.ref ps), (.int (0 : Int32)), (.long bs)] below meth c s₁ [] 0 0 := Stand.of_body Bd
  have e0 : s₁.heap = h0 := by rw [← hh, Bd.state]; rfl
  have N0 := Fr.nil n0
  have K0 : Keep h0 h0 ([ps, q, ss, po, di, ma, se] ++ rowsOf kf jf) := Keep.refl h0 _
  refine (?_ : Go p e below s (Qr0 Z ps bs q ks js ss po di ma se kf jf mk sc en ts sl st lm p0 p1 d0 d1 m0 m1 s0 s1 sz KF JF sn la sv dd h0 n0) 0 0 (s₁.setTop (entryFrame m #[(.ref ps), (.int (0 : Int32)), (.long bs)] 7)))
  rw [ef_rmr0]
  generalize hQ : Qr0 Z ps bs q ks js ss po di ma se kf jf mk sc en ts sl st lm p0 p1 d0 d1 m0 m1 s0 s1 sz KF JF sn la sv dd h0 n0 = Q
  obtain ⟨hPF, c_vp, c_vd, c_vm, c_vs, hQF⟩ := hO
  obtain ⟨ND, Ik, Ij, GR, N_ps, N_q, N_ks, N_js, N_ss, N_po, N_di, N_ma, N_se, G_ps, G_q, G_ss, G_po, G_di, G_ma, G_se⟩ := hPs
  show Go p e below s Q 0 0 (s₁.setTop (mkF m 0 #[vr ps, vi (0 : Int32), vj bs, sd, un, un, un] []))
  have f1 := liI_0
  have f2 := rng64 bs
  refine gE X0 hx hby rfl d10_0 rfl ?_
  refine gA X0 hx hby rfl d10_1 rfl rfl ?_
  obtain ⟨T3, X3, e3, st3⟩ := getF X0 hx hZ hown (host := "") (Or.inl (tb hw 35 rfl)) Via.refl e0 hPF.2.1 (g := (mkF m 2 #[vr ps, vi (0 : Int32), vj bs, sd, un, un, un] [(.ref ps), (.long bs)])) rfl rfl (hb hby d10_2)
  refine Go.st st3 ?_
  refine gC X3 hx hby rfl d10_5 rfl ?_
  refine Go.st (Vec.ildJ X3 hx hZ e3 c_vp (j := (0 : Int32)) (by decide) (by decide) (g := (mkF m 6 #[vr ps, vi (0 : Int32), vj bs, sd, un, un, un] [(.int (0 : Int32)), (.ref po), (.long bs)])) rfl rfl (hb hby d10_6)) ?_
  refine Go.st (fun _ k => XS.ladd X3.here hx rfl (hb hby d10_7) rfl k) ?_
  show Go p e below s Q 0 0 (T3.setTop (mkF m 8 #[vr ps, vi (0 : Int32), vj bs, sd, un, un, un] [(.long (bs + p0))]))
  refine gU X3 hx hby rfl d10_8 rfl (l' := #[vr ps, vi (0 : Int32), vj bs, sd, vj (bs + p0), sd, un]) rfl ?_
  show Go p e below s Q 0 0 (T3.setTop (mkF m 10 #[vr ps, vi (0 : Int32), vj bs, sd, vj (bs + p0), sd, un] []))
  have f5 := rng64 p0
  have f6 := c_ladd bs p0
  have f7 := rng64 (bs + p0)
  generalize hv_v8 : (bs + p0) = v8 at f6 f7 ⊢
  have hdv : dd = v8 := eqJ rfl rfl (by rw [← hv_v8]; exact hdd.1.symm)
  subst hdv
  show Go p e below s Q 0 0 (T3.setTop (mkF m 10 #[vr ps, vi (0 : Int32), vj bs, sd, vj dd, sd, un] []))
  refine gA X3 hx hby rfl d10_10 rfl rfl ?_
  obtain ⟨T9, X9, e9, st9⟩ := getF X3 hx hZ hown (host := "") (Or.inl (tb hw 39 rfl)) Via.refl e3 hPF.2.2.2.2.1 (g := (mkF m 11 #[vr ps, vi (0 : Int32), vj bs, sd, vj dd, sd, un] [(.ref ps)])) rfl rfl (hb hby d10_11)
  refine Go.st st9 ?_
  refine gC X9 hx hby rfl d10_14 rfl ?_
  refine Go.st (Vec.ildI X9 hx hZ e9 c_vm (j := (0 : Int32)) (by decide) (by decide) (g := (mkF m 15 #[vr ps, vi (0 : Int32), vj bs, sd, vj dd, sd, un] [(.int (0 : Int32)), (.ref ma)])) rfl rfl (hb hby d10_15)) ?_
  refine gS X9 hx hby rfl d10_16 rfl (l' := #[vr ps, vi (0 : Int32), vj bs, sd, vj dd, sd, vi m0]) rfl ?_
  refine gD X9 hx hby rfl d10_18 rfl ?_
  show Go p e below s Q 0 0 (T9.setTop (mkF m 20 #[vr ps, vi (0 : Int32), vj bs, sd, vj dd, sd, vi m0] [(.int m0)]))
  refine gA X9 hx hby rfl d10_20 rfl rfl ?_
  obtain ⟨T11, X11, e11, st11⟩ := getF X9 hx hZ hown (host := "") (Or.inl (tb hw 55 rfl)) Via.refl e9 hPF.2.2.1 (g := (mkF m 21 #[vr ps, vi (0 : Int32), vj bs, sd, vj dd, sd, vi m0] [(.ref ps), (.int m0)])) rfl rfl (hb hby d10_21)
  refine Go.st st11 ?_
  refine gI X11 hx hby rfl d10_24 ?_
  refine Go.st (fun _ k => XS.iadd X11.here hx rfl (hb hby d10_25) rfl k) ?_
  have f12 := rng32 m0
  have f13 := rng32 mk
  have f14 := liI_1
  have f15 := c_iadd mk (1 : Int32)
  have f16 := rng32 (mk + (1 : Int32))
  have c17 : ¬ (m0.toInt = (mk + (1 : Int32)).toInt) := by omega
  refine gZ X11 hx hby rfl (pc0 := 26) (pc' := 30) rfl d10_26 rfl (feq (neI rfl rfl c17)).2 (by decide) (by decide) ?_
  refine gD X11 hx hby rfl d10_30 rfl ?_
  show Go p e below s Q 0 0 (T11.setTop (mkF m 32 #[vr ps, vi (0 : Int32), vj bs, sd, vj dd, sd, vi m0] [(.int m0)]))
  refine gA X11 hx hby rfl d10_32 rfl rfl ?_
  obtain ⟨T18, X18, e18, st18⟩ := getF X11 hx hZ hown (host := "") (Or.inl (tb hw 55 rfl)) Via.refl e11 hPF.2.2.1 (g := (mkF m 33 #[vr ps, vi (0 : Int32), vj bs, sd, vj dd, sd, vi m0] [(.ref ps), (.int m0)])) rfl rfl (hb hby d10_33)
  refine Go.st st18 ?_
  have c19 : ¬ (m0.toInt = mk.toInt) := by omega
  refine gZ X18 hx hby rfl (pc0 := 36) (pc' := 52) rfl d10_36 rfl (feq (neI rfl rfl c19)).2 (by decide) (by decide) ?_
  show Go p e below s Q 0 0 (T18.setTop (mkF m 52 #[vr ps, vi (0 : Int32), vj bs, sd, vj dd, sd, vi m0] []))
  suffices J21 : ∀ (Tg20 : State) (hg20 : Heap) (Lgg20 : List Loc) (Xg20 : Stand p l e ({ frames := 4, cells := 0, slots := 0, locals := 59 } : Room) s m #[(.ref ps), (.int (0 : Int32)), (.long bs)] below meth c Tg20 Lgg20 0 0) (eg20 : Tg20.heap = hg20) (Ng20 : Fr n0 Lgg20) (Kg20 : Keep h0 hg20 ([ps, q, ss, po, di, ma, se] ++ rowsOf kf jf)) (hfg20_0 : PFs Z hg20 ps po mk di ma se sc q st lm en ts sl sv) (hfg20_1 : Vec Z hg20 po .long (2 : Int32) (longs (lst [p0, p1]))) (hfg20_2 : Vec Z hg20 di .long (2 : Int32) (longs (lst [d0, d1]))) (hfg20_3 : Vec Z hg20 ma .int (2 : Int32) (ints (lst [m0, m1]))) (hfg20_4 : Vec Z hg20 se .int (2 : Int32) (ints (lst [s0, s1]))) (hfg20_5 : QF Z hg20 q ks js ss kf jf sz KF JF sn la), Go p e below s Q 0 0 (Tg20.setTop (mkF m 92 #[vr ps, vi (0 : Int32), vj bs, sd, vj dd, sd, vi m0] [])) by
    have cs22 : en.toInt = -1 ∨ en.toInt = 0 ∨ en.toInt = 1 := by omega
    rcases cs22 with cs23 | cs24 | cs25
    ·
      have cs23' : en = (-1 : Int32) := eqI cs23 liI_m1 rfl
      subst cs23'
      have f26 := liI_m1
      show Go p e below s Q 0 0 (T18.setTop (mkF m 52 #[vr ps, vi (0 : Int32), vj bs, sd, vj dd, sd, vi m0] []))
      refine gA X18 hx hby rfl d10_52 rfl rfl ?_
      obtain ⟨T27, X27, e27, st27⟩ := getF X18 hx hZ hown (host := "") (Or.inl (tb hw 77 rfl)) Via.refl e18 hPF.2.2.2.2.2.2.2.2.2.2.2.1 (g := (mkF m 53 #[vr ps, vi (0 : Int32), vj bs, sd, vj dd, sd, vi m0] [(.ref ps)])) rfl rfl (hb hby d10_53)
      refine Go.st st27 ?_
      refine gI X27 hx hby rfl d10_56 ?_
      refine gZ X27 hx hby rfl (pc0 := 57) (pc' := 92) rfl d10_57 rfl (teq (eqI liI_m1 liI_m1 (by decide))).1 (by decide) (by decide) ?_
      show Go p e below s Q 0 0 (T27.setTop (mkF m 92 #[vr ps, vi (0 : Int32), vj bs, sd, vj dd, sd, vi m0] []))
      exact J21 T27 h0 _ (up X27 (by decide) (by decide)) e27 N0 K0 (by have hh := hPF; exact hh) c_vp c_vd c_vm c_vs hQF
    ·
      have cs24' : en = (0 : Int32) := eqI cs24 liI_0 rfl
      subst cs24'
      show Go p e below s Q 0 0 (T18.setTop (mkF m 52 #[vr ps, vi (0 : Int32), vj bs, sd, vj dd, sd, vi m0] []))
      refine gA X18 hx hby rfl d10_52 rfl rfl ?_
      obtain ⟨T28, X28, e28, st28⟩ := getF X18 hx hZ hown (host := "") (Or.inl (tb hw 77 rfl)) Via.refl e18 hPF.2.2.2.2.2.2.2.2.2.2.2.1 (g := (mkF m 53 #[vr ps, vi (0 : Int32), vj bs, sd, vj dd, sd, vi m0] [(.ref ps)])) rfl rfl (hb hby d10_53)
      refine Go.st st28 ?_
      refine gI X28 hx hby rfl d10_56 ?_
      refine gM X28 hx hby rfl d10_57 rfl (feq (neI liI_0 liI_m1 (by decide))).1 ?_
      refine gA X28 hx hby rfl d10_60 rfl rfl ?_
      obtain ⟨T29, X29, e29, st29⟩ := getF X28 hx hZ hown (host := "") (Or.inl (tb hw 39 rfl)) Via.refl e28 hPF.2.2.2.2.1 (g := (mkF m 61 #[vr ps, vi (0 : Int32), vj bs, sd, vj dd, sd, vi m0] [(.ref ps)])) rfl rfl (hb hby d10_61)
      refine Go.st st29 ?_
      show Go p e below s Q 0 0 (T29.setTop (mkF m 64 #[vr ps, vi (0 : Int32), vj bs, sd, vj dd, sd, vi m0] [(.ref ma)]))
      refine gA X29 hx hby rfl d10_64 rfl rfl ?_
      obtain ⟨T30, X30, e30, st30⟩ := getF X29 hx hZ hown (host := "") (Or.inl (tb hw 77 rfl)) Via.refl e29 hPF.2.2.2.2.2.2.2.2.2.2.2.1 (g := (mkF m 65 #[vr ps, vi (0 : Int32), vj bs, sd, vj dd, sd, vi m0] [(.ref ps), (.ref ma)])) rfl rfl (hb hby d10_65)
      refine Go.st st30 ?_
      refine Go.st (Vec.ildI X30 hx hZ e30 c_vm (j := (0 : Int32)) (by decide) (by decide) (g := (mkF m 68 #[vr ps, vi (0 : Int32), vj bs, sd, vj dd, sd, vi m0] [(.int (0 : Int32)), (.ref ma)])) rfl rfl (hb hby d10_68)) ?_
      refine gA X30 hx hby rfl d10_69 rfl rfl ?_
      obtain ⟨T32, X32, e32, st32⟩ := getF X30 hx hZ hown (host := "") (Or.inl (tb hw 55 rfl)) Via.refl e30 hPF.2.2.1 (g := (mkF m 70 #[vr ps, vi (0 : Int32), vj bs, sd, vj dd, sd, vi m0] [(.ref ps), (.int m0)])) rfl rfl (hb hby d10_70)
      refine Go.st st32 ?_
      have c33 : m0.toInt < mk.toInt := by omega
      refine gZ X32 hx hby rfl (pc0 := 73) (pc' := 92) rfl d10_73 rfl (tlt (ltI rfl rfl c33)).1 (by decide) (by decide) ?_
      show Go p e below s Q 0 0 (T32.setTop (mkF m 92 #[vr ps, vi (0 : Int32), vj bs, sd, vj dd, sd, vi m0] []))
      exact J21 T32 h0 _ (up X32 (by decide) (by decide)) e32 N0 K0 (by have hh := hPF; exact hh) c_vp c_vd c_vm c_vs hQF
    ·
      have cs25' : en = (1 : Int32) := eqI cs25 liI_1 rfl
      subst cs25'
      show Go p e below s Q 0 0 (T18.setTop (mkF m 52 #[vr ps, vi (0 : Int32), vj bs, sd, vj dd, sd, vi m0] []))
      refine gA X18 hx hby rfl d10_52 rfl rfl ?_
      obtain ⟨T34, X34, e34, st34⟩ := getF X18 hx hZ hown (host := "") (Or.inl (tb hw 77 rfl)) Via.refl e18 hPF.2.2.2.2.2.2.2.2.2.2.2.1 (g := (mkF m 53 #[vr ps, vi (0 : Int32), vj bs, sd, vj dd, sd, vi m0] [(.ref ps)])) rfl rfl (hb hby d10_53)
      refine Go.st st34 ?_
      refine gI X34 hx hby rfl d10_56 ?_
      refine gM X34 hx hby rfl d10_57 rfl (feq (neI liI_1 liI_m1 (by decide))).1 ?_
      refine gA X34 hx hby rfl d10_60 rfl rfl ?_
      obtain ⟨T35, X35, e35, st35⟩ := getF X34 hx hZ hown (host := "") (Or.inl (tb hw 39 rfl)) Via.refl e34 hPF.2.2.2.2.1 (g := (mkF m 61 #[vr ps, vi (0 : Int32), vj bs, sd, vj dd, sd, vi m0] [(.ref ps)])) rfl rfl (hb hby d10_61)
      refine Go.st st35 ?_
      show Go p e below s Q 0 0 (T35.setTop (mkF m 64 #[vr ps, vi (0 : Int32), vj bs, sd, vj dd, sd, vi m0] [(.ref ma)]))
      refine gA X35 hx hby rfl d10_64 rfl rfl ?_
      obtain ⟨T36, X36, e36, st36⟩ := getF X35 hx hZ hown (host := "") (Or.inl (tb hw 77 rfl)) Via.refl e35 hPF.2.2.2.2.2.2.2.2.2.2.2.1 (g := (mkF m 65 #[vr ps, vi (0 : Int32), vj bs, sd, vj dd, sd, vi m0] [(.ref ps), (.ref ma)])) rfl rfl (hb hby d10_65)
      refine Go.st st36 ?_
      refine Go.st (Vec.ildI X36 hx hZ e36 c_vm (j := (1 : Int32)) (by decide) (by decide) (g := (mkF m 68 #[vr ps, vi (0 : Int32), vj bs, sd, vj dd, sd, vi m0] [(.int (1 : Int32)), (.ref ma)])) rfl rfl (hb hby d10_68)) ?_
      refine gA X36 hx hby rfl d10_69 rfl rfl ?_
      obtain ⟨T38, X38, e38, st38⟩ := getF X36 hx hZ hown (host := "") (Or.inl (tb hw 55 rfl)) Via.refl e36 hPF.2.2.1 (g := (mkF m 70 #[vr ps, vi (0 : Int32), vj bs, sd, vj dd, sd, vi m0] [(.ref ps), (.int m1)])) rfl rfl (hb hby d10_70)
      refine Go.st st38 ?_
      have f39 := rng32 m1
      have c40 : m1.toInt < mk.toInt := by omega
      refine gZ X38 hx hby rfl (pc0 := 73) (pc' := 92) rfl d10_73 rfl (tlt (ltI rfl rfl c40)).1 (by decide) (by decide) ?_
      show Go p e below s Q 0 0 (T38.setTop (mkF m 92 #[vr ps, vi (0 : Int32), vj bs, sd, vj dd, sd, vi m0] []))
      exact J21 T38 h0 _ (up X38 (by decide) (by decide)) e38 N0 K0 (by have hh := hPF; exact hh) c_vp c_vd c_vm c_vs hQF
  intro Tg20 hg20 Lgg20 Xg20 eg20 Ng20 Kg20 hfg20_0 hfg20_1 hfg20_2 hfg20_3 hfg20_4 hfg20_5
  show Go p e below s Q 0 0 (Tg20.setTop (mkF m 92 #[vr ps, vi (0 : Int32), vj bs, sd, vj dd, sd, vi m0] []))
  refine gA Xg20 hx hby rfl d10_92 rfl rfl ?_
  obtain ⟨T41, X41, e41, st41⟩ := getF Xg20 hx hZ hown (host := "") (Or.inl (tb hw 39 rfl)) Via.refl eg20 hfg20_0.2.2.2.2.1 (g := (mkF m 93 #[vr ps, vi (0 : Int32), vj bs, sd, vj dd, sd, vi m0] [(.ref ps)])) rfl rfl (hb hby d10_93)
  refine Go.st st41 ?_
  refine gC X41 hx hby rfl d10_96 rfl ?_
  refine gA X41 hx hby rfl d10_97 rfl rfl ?_
  obtain ⟨T42, X42, e42, st42⟩ := getF X41 hx hZ hown (host := "") (Or.inl (tb hw 55 rfl)) Via.refl e41 hfg20_0.2.2.1 (g := (mkF m 98 #[vr ps, vi (0 : Int32), vj bs, sd, vj dd, sd, vi m0] [(.ref ps), (.int (0 : Int32)), (.ref ma)])) rfl rfl (hb hby d10_98)
  refine Go.st st42 ?_
  obtain ⟨T43, h43, X43, e43, W43, V43, st43⟩ := Vec.istI X42 hx hZ e42 hfg20_3 (j := (0 : Int32)) (by decide) (by decide) (g := (mkF m 101 #[vr ps, vi (0 : Int32), vj bs, sd, vj dd, sd, vi m0] [(.int mk), (.int (0 : Int32)), (.ref ma)])) rfl rfl (hb hby d10_101)
  have h44 : PFs Z h43 ps po mk di ma se sc q st lm en ts sl sv := hfg20_0.other W43 (ndq ND 0 7 rfl)
  have h45 : Vec Z h43 po .long (2 : Int32) (longs (lst [p0, p1])) := hfg20_1.other W43 (ndq ND 5 7 rfl)
  have h46 : Vec Z h43 di .long (2 : Int32) (longs (lst [d0, d1])) := hfg20_2.other W43 (ndq ND 6 7 rfl)
  have h47 : Vec Z h43 ma .int (2 : Int32) (ints (lst [mk, m1])) := Vec.of_eq V43 (congrArg ints (upd_lst _ 0 _ (Nat.le_of_ble_eq_true rfl)))
  have h48 : Vec Z h43 se .int (2 : Int32) (ints (lst [s0, s1])) := hfg20_4.other W43 (ndq ND 8 7 rfl)
  have h49 : QF Z h43 q ks js ss kf jf sz KF JF sn la := hfg20_5.other W43 (ndq ND 1 7 rfl) (ndq ND 2 7 rfl) (ndq ND 3 7 rfl) (ndq ND 4 7 rfl) N_ma
  have K43 : Keep h0 h43 ([ps, q, ss, po, di, ma, se] ++ rowsOf kf jf) := Kg20.wr W43 (Or.inl (List.mem_append_left _ (List.mem_of_getElem? (i := 5) rfl)))
  have N43 := Fr.snoc X43 Ng20 G_ma
  refine Go.st st43 ?_
  show Go p e below s Q 0 0 (T43.setTop (mkF m 102 #[vr ps, vi (0 : Int32), vj bs, sd, vj dd, sd, vi m0] []))
  refine gA X43 hx hby rfl d10_102 rfl rfl ?_
  obtain ⟨T50, X50, e50, st50⟩ := getF X43 hx hZ hown (host := "") (Or.inl (tb hw 37 rfl)) Via.refl e43 h44.2.2.2.1 (g := (mkF m 103 #[vr ps, vi (0 : Int32), vj bs, sd, vj dd, sd, vi m0] [(.ref ps)])) rfl rfl (hb hby d10_103)
  refine Go.st st50 ?_
  refine gC X50 hx hby rfl d10_106 rfl ?_
  refine gF X50 hx hby rfl d10_107 rfl ?_
  obtain ⟨T51, h51, X51, e51, W51, V51, st51⟩ := Vec.istJ X50 hx hZ e50 h46 (j := (0 : Int32)) (by decide) (by decide) (g := (mkF m 109 #[vr ps, vi (0 : Int32), vj bs, sd, vj dd, sd, vi m0] [(.long dd), (.int (0 : Int32)), (.ref di)])) rfl rfl (hb hby d10_109)
  have h52 : PFs Z h51 ps po mk di ma se sc q st lm en ts sl sv := h44.other W51 (ndq ND 0 6 rfl)
  have h53 : Vec Z h51 po .long (2 : Int32) (longs (lst [p0, p1])) := h45.other W51 (ndq ND 5 6 rfl)
  have h54 : Vec Z h51 di .long (2 : Int32) (longs (lst [dd, d1])) := Vec.of_eq V51 (congrArg longs (upd_lst _ 0 _ (Nat.le_of_ble_eq_true rfl)))
  have h55 : Vec Z h51 ma .int (2 : Int32) (ints (lst [mk, m1])) := h47.other W51 (ndq ND 7 6 rfl)
  have h56 : Vec Z h51 se .int (2 : Int32) (ints (lst [s0, s1])) := h48.other W51 (ndq ND 8 6 rfl)
  have h57 : QF Z h51 q ks js ss kf jf sz KF JF sn la := h49.other W51 (ndq ND 1 6 rfl) (ndq ND 2 6 rfl) (ndq ND 3 6 rfl) (ndq ND 4 6 rfl) N_di
  have K51 : Keep h0 h51 ([ps, q, ss, po, di, ma, se] ++ rowsOf kf jf) := K43.wr W51 (Or.inl (List.mem_append_left _ (List.mem_of_getElem? (i := 4) rfl)))
  have N51 := Fr.snoc X51 N43 G_di
  refine Go.st st51 ?_
  show Go p e below s Q 0 0 (T51.setTop (mkF m 110 #[vr ps, vi (0 : Int32), vj bs, sd, vj dd, sd, vi m0] []))
  refine gF X51 hx hby rfl d10_110 rfl ?_
  refine gA X51 hx hby rfl d10_112 rfl rfl ?_
  obtain ⟨T58, X58, e58, st58⟩ := getF X51 hx hZ hown (host := "") (Or.inl (tb hw 73 rfl)) Via.refl e51 h52.2.2.2.2.2.2.2.2.2.1 (g := (mkF m 113 #[vr ps, vi (0 : Int32), vj bs, sd, vj dd, sd, vi m0] [(.ref ps), (.long dd)])) rfl rfl (hb hby d10_113)
  refine Go.st st58 ?_
  refine gL X58 hx hby rfl d10_116 rfl ?_
  have f59 := rng64 st
  have c60 : ¬ (dd.toInt = st.toInt) := by omega
  refine gY X58 hx hby rfl (pc0 := 117) (pc' := 140) rfl d10_117 rfl ((if0 _ _).trans (feq (fun q => (neJ rfl rfl c60) ((lw_eq dd st).mp q))).2) (by decide) (by decide) ?_
  refine gA X58 hx hby rfl d10_140 rfl rfl ?_
  show Go p e below s Q 0 0 (T58.setTop (mkF m 141 #[vr ps, vi (0 : Int32), vj bs, sd, vj dd, sd, vi m0] [(.ref ps)]))
  obtain ⟨T61, X61, e61, st61⟩ := getF X58 hx hZ hown (host := "") (Or.inl (tb hw 33 rfl)) Via.refl e58 h52.2.2.2.2.2.2.2.1 (g := (mkF m 141 #[vr ps, vi (0 : Int32), vj bs, sd, vj dd, sd, vi m0] [(.ref ps)])) rfl rfl (hb hby d10_141)
  refine Go.st st61 ?_
  refine gF X61 hx hby rfl d10_144 rfl ?_
  refine gC X61 hx hby rfl d10_146 rfl ?_
  obtain ⟨h63, h64, h65, h66, h67, h68, h69, h70, h71, h72, h73⟩ := h57
  have f74 := rng32 sn
  have f75 := rng64 la
  have p76 : 0 ≤ dd.toInt ∧ la.toInt < 0 := by omega
  obtain ⟨cq62, kq62, q62a, q62b, q62c⟩ := isOf hZ e61 h63
  obtain ⟨_, _, ⟨T62, L62, k62, n62⟩, -, X62, ⟨Lc62, hQ62, l62, y62, z62⟩, st62⟩ := X61.virtualBack hx (y := (⟨cR, "push", "(JI)V"⟩ : MethodName)) (z := (⟨cR, "push", "(JI)V"⟩ : MethodName)) hown (mvT hZ (tb hw 98 rfl)) (mvT hZ (tb hw 99 rfl)) (notFace_of_selects (args := #[]) (mvT hZ (tb hw 101 rfl))) (mvT hZ (tb hw 101 rfl)) (mvT hZ (tb hw 100 rfl)) (by decide) (backOf (W := 0) (rm11 l Z a0 hw [] q dd (0 : Int32) ks js ss kf jf sz KF JF sn la h51 n0 (Nat.le_trans Z0 K51.1) h63 h64 h65 h66 h67 h68 h69 h70 h71 h72 h73 Ik Ij GR G_q G_ss N_q N_ks N_js N_ss (ndq ND 1 4 rfl) (ndq ND 2 4 rfl) (ndq ND 3 4 rfl) (ndq ND 2 1 rfl) (ndq ND 3 1 rfl) hq64 p76) hZ (tb hw 102 rfl) (tb hw 11 rfl) (by decide) (by decide)) q62a q62c (g := (mkF m 147 #[vr ps, vi (0 : Int32), vj bs, sd, vj dd, sd, vi m0] [(.int (0 : Int32)), (.long dd), (.ref q)])) rfl (by rw [hml]; rfl) (Steps.refl _) (argsL := [(.long dd), (.int (0 : Int32))]) (rest := []) (lenOf pd_6 rfl) rfl (by show 2 * 0 + _ ≤ _; exact Nat.le_of_eq rfl) (hb hby d10_147) (fun _ _ => ⟨rfl, e61, (by decide : 0 + 0 ≤ _), (by decide : 0 + 0 ≤ _)⟩)
  dsimp only [Pt.U, Pt.locs, Pt.cells, Pt.slots] at X62 l62 y62 z62 st62 hQ62
  subst y62 z62
  obtain ⟨rfl, N62q, K62q, h77, h78, h79, h80, h81, h82, h83, h84, h85, h86, h87⟩ := hQ62
  have N62 : Fr n0 L62 := by rw [l62]; exact Fr.app N51 N62q
  have h88 : PFs Z T62.heap ps po mk di ma se sc q st lm en ts sl sv := h52.keep K62q (nin_app (ninS (ndq ND 0 1 rfl) (ninS (ndq ND 0 4 rfl) nin0)) (nin_rows N_ps))
  have h89 : Vec Z T62.heap po .long (2 : Int32) (longs (lst [p0, p1])) := h53.keep K62q (nin_app (ninS (ndq ND 5 1 rfl) (ninS (ndq ND 5 4 rfl) nin0)) (nin_rows N_po))
  have h90 : Vec Z T62.heap di .long (2 : Int32) (longs (lst [dd, d1])) := h54.keep K62q (nin_app (ninS (ndq ND 6 1 rfl) (ninS (ndq ND 6 4 rfl) nin0)) (nin_rows N_di))
  have h91 : Vec Z T62.heap ma .int (2 : Int32) (ints (lst [mk, m1])) := h55.keep K62q (nin_app (ninS (ndq ND 7 1 rfl) (ninS (ndq ND 7 4 rfl) nin0)) (nin_rows N_ma))
  have h92 : Vec Z T62.heap se .int (2 : Int32) (ints (lst [s0, s1])) := h56.keep K62q (nin_app (ninS (ndq ND 8 1 rfl) (ninS (ndq ND 8 4 rfl) nin0)) (nin_rows N_se))
  have K62 : Keep h0 T62.heap ([ps, q, ss, po, di, ma, se] ++ rowsOf kf jf) := K51.trans K62q (fun x hx => (fun x hx => (List.mem_append.mp hx).elim ((show ∀ x ∈ ([q, ss] : List Addr), x ∈ (([ps, q, ss, po, di, ma, se] ++ rowsOf kf jf) : List Addr) ∨ h0.size ≤ x from (allS (Or.inl (List.mem_append_left _ (List.mem_of_getElem? (i := 1) rfl))) (allS (Or.inl (List.mem_append_left _ (List.mem_of_getElem? (i := 2) rfl))) all0))) x) (fun q => Or.inl (List.mem_append_right _ q))) x hx)
  have h93 : QF Z T62.heap q ks js ss kf jf (updF sz 64 ((sz 64) + (1 : Int32))) (updF KF 64 (updF (KF 64) (sz 64).toInt.toNat dd)) (updF JF 64 (updF (JF 64) (sz 64).toInt.toNat (0 : Int32))) (sn + (1 : Int32)) la := ⟨h77, h78, h79, h80, h81, h82, h83, h84, h85, h86, h87⟩
  refine Go.tr  st62 ?_
  show Go p e below s Q 0 0 (T62.setTop (mkF m 150 #[vr ps, vi (0 : Int32), vj bs, sd, vj dd, sd, vi m0] []))
  have hO94 : PSt Z T62.heap ps q ks js ss po di ma se kf jf mk sc en ts sl st lm p0 p1 dd d1 mk m1 s0 s1 (updF sz 64 ((sz 64) + (1 : Int32))) (updF KF 64 (updF (KF 64) (sz 64).toInt.toNat dd)) (updF JF 64 (updF (JF 64) (sz 64).toInt.toNat (0 : Int32))) (sn + (1 : Int32)) la sv := ⟨h88, h89, h90, h91, h92, h93⟩
  exact Go.retV X62 hx hlk Bd.returns (hb hby d10_150) (by rw [← hQ]; exact ⟨rfl, N62, K62, hO94⟩) (by decide) (by decide)
theorem d10_76 : decode kc10 76 = .ok (.lload 4, 2) := by decide +kernel
theorem d10_78 : decode kc10 78 = .ok (.aload_n 0, 1) := by decide +kernel
theorem d10_79 : decode kc10 79 = .ok (.getfield 38, 3) := by decide +kernel
theorem d10_82 : decode kc10 82 = .ok (.aload_n 0, 1) := by decide +kernel
theorem d10_83 : decode kc10 83 = .ok (.getfield 79, 3) := by decide +kernel
theorem d10_86 : decode kc10 86 = .ok (.laload, 1) := by decide +kernel
theorem d10_87 : decode kc10 87 = .ok (.lcmp, 1) := by decide +kernel
theorem d10_88 : decode kc10 88 = .ok (.ifCond .le 4, 3) := by decide +kernel
theorem ef_rmr1 (m : MethodId) (ps : Addr) (bs : Int64) : entryFrame m #[(.ref ps), (.int (1 : Int32)), (.long bs)] 7 = mkF m 0 #[vr ps, vi (1 : Int32), vj bs, sd, un, un, un] [] := by first | (simp [entryFrame, mkF, argsToLocals, Value.category]; done) | rfl
def Qr1 (Z : State) (ps : Addr) (bs : Int64) (q ks js ss po di ma se : Addr) (kf jf : Nat → Addr) (mk sc en ts sl : Int32) (st lm p0 p1 d0 d1 : Int64) (m0 m1 s0 s1 : Int32) (sz : Nat → Int32) (KF : Nat → Nat → Int64) (JF : Nat → Nat → Int32) (sn : Int32) (la : Int64) (sv : Value) (dd : Int64) (h0 : Heap) (n0 : Nat) (vv : Option Value) (h : Heap) (LL : List Loc) : Prop := vv = none ∧ Fr n0 LL ∧ Keep h0 h ([ps, q, ss, po, di, ma, se] ++ rowsOf kf jf) ∧ (PSt Z h ps q ks js ss po di ma se kf jf mk sc en ts sl st lm p0 p1 d0 dd m0 mk s0 s1 (updF sz 64 ((sz 64) + (1 : Int32))) (updF KF 64 (updF (KF 64) (sz 64).toInt.toNat dd)) (updF JF 64 (updF (JF 64) (sz 64).toInt.toNat (1 : Int32))) (sn + (1 : Int32)) la sv)
set_option maxRecDepth 65536 in
set_option maxHeartbeats 40000000 in
theorem rmr1 (l : Launch) (Z : State) (a0 : Array Value) (hw : ∀ d ∈ tables_1, d.before a0 Z = true) (ws : List Jvm.Cond) (ps : Addr) (bs : Int64) (q ks js ss po di ma se : Addr) (kf jf : Nat → Addr) (mk sc en ts sl : Int32) (st lm p0 p1 d0 d1 : Int64) (m0 m1 s0 s1 : Int32) (sz : Nat → Int32) (KF : Nat → Nat → Int64) (JF : Nat → Nat → Int32) (sn : Int32) (la : Int64) (sv : Value) (dd : Int64) (h0 : Heap) (n0 : Nat) (Z0 : n0 ≤ h0.size) (hO : PSt Z h0 ps q ks js ss po di ma se kf jf mk sc en ts sl st lm p0 p1 d0 d1 m0 m1 s0 s1 sz KF JF sn la sv) (hPs : PSs n0 ps q ks js ss po di ma se kf jf) (hdd : (bs + p1).toInt = dd.toInt ∧ 0 ≤ dd.toInt ∧ dd.toInt < 4611686018427387904) (hmk : m1.toInt < mk.toInt ∧ 0 ≤ mk.toInt ∧ mk.toInt ≤ 1000) (hst : st.toInt = 9223372036854775807 ∧ la.toInt < 0) (hq64 : 0 ≤ (sz 64).toInt ∧ (sz 64).toInt < 4) (hen : en.toInt = -1 ∨ en.toInt = 0 ∨ en.toInt = 1) (hsk : ¬ (en.toInt = 0 ∧ mk.toInt ≤ m0.toInt ∧ d0.toInt < dd.toInt)) :
    MetFree l (⟨cP, "reachBack", "(IJ)V"⟩ : MethodName) (head1 (Jvm.Cond.code (⟨cP, "reachBack", "(IJ)V"⟩ : MethodName) kc10 7 none :: ws) ({ frames := 4, cells := 0, slots := 0, locals := 59 } : Room)) (fun aa UU => aa = #[(.ref ps), (.int (1 : Int32)), (.long bs)] ∧ Z.Warmed39 UU.vm ∧ UU.heap = h0) (fun _ _ _ _ _ => True) (fun _ UU oo UU' => ∃ vv LL, oo = .returned vv ∧ Qr1 Z ps bs q ks js ss po di ma se kf jf mk sc en ts sl st lm p0 p1 d0 d1 m0 m1 s0 s1 sz KF JF sn la sv dd h0 n0 vv UU'.heap LL ∧ FrameEnd UU oo UU' LL 0 0) := by
  refine MetFree.of_bodySF (plainFor_of_name pn_4) hisR ?_
  intro p e s m args below meth c s₁ Bd hml0 hP hK
  obtain ⟨rfl, hZ, hh⟩ := hP
  have hx := Bd.exec
  have hby := Bd.bytes
  have hlk : meth.locks = false := BodyLoose.notSynchronized Bd
  have hml : c.maxLocals = 7 := hml0
  have hown : s.vm.findClass cP = some m.cls := findClass_of_methodNamed Bd.named
  have hnm := (name_of_methodNamed Bd.named Bd.method).1
  have X0 : Stand p l e ({ frames := 4, cells := 0, slots := 0, locals := 59 } : Room) s m #[(.ref ps), (.int (1 : Int32)), (.long bs)] below meth c s₁ [] 0 0 := Stand.of_body Bd
  have e0 : s₁.heap = h0 := by rw [← hh, Bd.state]; rfl
  have N0 := Fr.nil n0
  have K0 : Keep h0 h0 ([ps, q, ss, po, di, ma, se] ++ rowsOf kf jf) := Keep.refl h0 _
  refine (?_ : Go p e below s (Qr1 Z ps bs q ks js ss po di ma se kf jf mk sc en ts sl st lm p0 p1 d0 d1 m0 m1 s0 s1 sz KF JF sn la sv dd h0 n0) 0 0 (s₁.setTop (entryFrame m #[(.ref ps), (.int (1 : Int32)), (.long bs)] 7)))
  rw [ef_rmr1]
  generalize hQ : Qr1 Z ps bs q ks js ss po di ma se kf jf mk sc en ts sl st lm p0 p1 d0 d1 m0 m1 s0 s1 sz KF JF sn la sv dd h0 n0 = Q
  obtain ⟨hPF, c_vp, c_vd, c_vm, c_vs, hQF⟩ := hO
  obtain ⟨ND, Ik, Ij, GR, N_ps, N_q, N_ks, N_js, N_ss, N_po, N_di, N_ma, N_se, G_ps, G_q, G_ss, G_po, G_di, G_ma, G_se⟩ := hPs
  show Go p e below s Q 0 0 (s₁.setTop (mkF m 0 #[vr ps, vi (1 : Int32), vj bs, sd, un, un, un] []))
  have f1 := liI_1
  have f2 := rng64 bs
  refine gE X0 hx hby rfl d10_0 rfl ?_
  refine gA X0 hx hby rfl d10_1 rfl rfl ?_
  obtain ⟨T3, X3, e3, st3⟩ := getF X0 hx hZ hown (host := "") (Or.inl (tb hw 35 rfl)) Via.refl e0 hPF.2.1 (g := (mkF m 2 #[vr ps, vi (1 : Int32), vj bs, sd, un, un, un] [(.ref ps), (.long bs)])) rfl rfl (hb hby d10_2)
  refine Go.st st3 ?_
  refine gC X3 hx hby rfl d10_5 rfl ?_
  refine Go.st (Vec.ildJ X3 hx hZ e3 c_vp (j := (1 : Int32)) (by decide) (by decide) (g := (mkF m 6 #[vr ps, vi (1 : Int32), vj bs, sd, un, un, un] [(.int (1 : Int32)), (.ref po), (.long bs)])) rfl rfl (hb hby d10_6)) ?_
  refine Go.st (fun _ k => XS.ladd X3.here hx rfl (hb hby d10_7) rfl k) ?_
  show Go p e below s Q 0 0 (T3.setTop (mkF m 8 #[vr ps, vi (1 : Int32), vj bs, sd, un, un, un] [(.long (bs + p1))]))
  refine gU X3 hx hby rfl d10_8 rfl (l' := #[vr ps, vi (1 : Int32), vj bs, sd, vj (bs + p1), sd, un]) rfl ?_
  show Go p e below s Q 0 0 (T3.setTop (mkF m 10 #[vr ps, vi (1 : Int32), vj bs, sd, vj (bs + p1), sd, un] []))
  have f5 := rng64 p1
  have f6 := c_ladd bs p1
  have f7 := rng64 (bs + p1)
  generalize hv_v8 : (bs + p1) = v8 at f6 f7 ⊢
  have hdv : dd = v8 := eqJ rfl rfl (by rw [← hv_v8]; exact hdd.1.symm)
  subst hdv
  show Go p e below s Q 0 0 (T3.setTop (mkF m 10 #[vr ps, vi (1 : Int32), vj bs, sd, vj dd, sd, un] []))
  refine gA X3 hx hby rfl d10_10 rfl rfl ?_
  obtain ⟨T9, X9, e9, st9⟩ := getF X3 hx hZ hown (host := "") (Or.inl (tb hw 39 rfl)) Via.refl e3 hPF.2.2.2.2.1 (g := (mkF m 11 #[vr ps, vi (1 : Int32), vj bs, sd, vj dd, sd, un] [(.ref ps)])) rfl rfl (hb hby d10_11)
  refine Go.st st9 ?_
  refine gC X9 hx hby rfl d10_14 rfl ?_
  refine Go.st (Vec.ildI X9 hx hZ e9 c_vm (j := (1 : Int32)) (by decide) (by decide) (g := (mkF m 15 #[vr ps, vi (1 : Int32), vj bs, sd, vj dd, sd, un] [(.int (1 : Int32)), (.ref ma)])) rfl rfl (hb hby d10_15)) ?_
  refine gS X9 hx hby rfl d10_16 rfl (l' := #[vr ps, vi (1 : Int32), vj bs, sd, vj dd, sd, vi m1]) rfl ?_
  refine gD X9 hx hby rfl d10_18 rfl ?_
  show Go p e below s Q 0 0 (T9.setTop (mkF m 20 #[vr ps, vi (1 : Int32), vj bs, sd, vj dd, sd, vi m1] [(.int m1)]))
  refine gA X9 hx hby rfl d10_20 rfl rfl ?_
  obtain ⟨T11, X11, e11, st11⟩ := getF X9 hx hZ hown (host := "") (Or.inl (tb hw 55 rfl)) Via.refl e9 hPF.2.2.1 (g := (mkF m 21 #[vr ps, vi (1 : Int32), vj bs, sd, vj dd, sd, vi m1] [(.ref ps), (.int m1)])) rfl rfl (hb hby d10_21)
  refine Go.st st11 ?_
  refine gI X11 hx hby rfl d10_24 ?_
  refine Go.st (fun _ k => XS.iadd X11.here hx rfl (hb hby d10_25) rfl k) ?_
  have f12 := rng32 m1
  have f13 := rng32 mk
  have f14 := c_iadd mk (1 : Int32)
  have f15 := rng32 (mk + (1 : Int32))
  have c16 : ¬ (m1.toInt = (mk + (1 : Int32)).toInt) := by omega
  refine gZ X11 hx hby rfl (pc0 := 26) (pc' := 30) rfl d10_26 rfl (feq (neI rfl rfl c16)).2 (by decide) (by decide) ?_
  refine gD X11 hx hby rfl d10_30 rfl ?_
  show Go p e below s Q 0 0 (T11.setTop (mkF m 32 #[vr ps, vi (1 : Int32), vj bs, sd, vj dd, sd, vi m1] [(.int m1)]))
  refine gA X11 hx hby rfl d10_32 rfl rfl ?_
  obtain ⟨T17, X17, e17, st17⟩ := getF X11 hx hZ hown (host := "") (Or.inl (tb hw 55 rfl)) Via.refl e11 hPF.2.2.1 (g := (mkF m 33 #[vr ps, vi (1 : Int32), vj bs, sd, vj dd, sd, vi m1] [(.ref ps), (.int m1)])) rfl rfl (hb hby d10_33)
  refine Go.st st17 ?_
  have c18 : ¬ (m1.toInt = mk.toInt) := by omega
  refine gZ X17 hx hby rfl (pc0 := 36) (pc' := 52) rfl d10_36 rfl (feq (neI rfl rfl c18)).2 (by decide) (by decide) ?_
  show Go p e below s Q 0 0 (T17.setTop (mkF m 52 #[vr ps, vi (1 : Int32), vj bs, sd, vj dd, sd, vi m1] []))
  suffices J20 : ∀ (Tg19 : State) (hg19 : Heap) (Lgg19 : List Loc) (Xg19 : Stand p l e ({ frames := 4, cells := 0, slots := 0, locals := 59 } : Room) s m #[(.ref ps), (.int (1 : Int32)), (.long bs)] below meth c Tg19 Lgg19 0 0) (eg19 : Tg19.heap = hg19) (Ng19 : Fr n0 Lgg19) (Kg19 : Keep h0 hg19 ([ps, q, ss, po, di, ma, se] ++ rowsOf kf jf)) (hfg19_0 : PFs Z hg19 ps po mk di ma se sc q st lm en ts sl sv) (hfg19_1 : Vec Z hg19 po .long (2 : Int32) (longs (lst [p0, p1]))) (hfg19_2 : Vec Z hg19 di .long (2 : Int32) (longs (lst [d0, d1]))) (hfg19_3 : Vec Z hg19 ma .int (2 : Int32) (ints (lst [m0, m1]))) (hfg19_4 : Vec Z hg19 se .int (2 : Int32) (ints (lst [s0, s1]))) (hfg19_5 : QF Z hg19 q ks js ss kf jf sz KF JF sn la), Go p e below s Q 0 0 (Tg19.setTop (mkF m 92 #[vr ps, vi (1 : Int32), vj bs, sd, vj dd, sd, vi m1] [])) by
    have cs21 : en.toInt = -1 ∨ en.toInt = 0 ∨ en.toInt = 1 := by omega
    rcases cs21 with cs22 | cs23 | cs24
    ·
      have cs22' : en = (-1 : Int32) := eqI cs22 liI_m1 rfl
      subst cs22'
      have f25 := liI_m1
      show Go p e below s Q 0 0 (T17.setTop (mkF m 52 #[vr ps, vi (1 : Int32), vj bs, sd, vj dd, sd, vi m1] []))
      refine gA X17 hx hby rfl d10_52 rfl rfl ?_
      obtain ⟨T26, X26, e26, st26⟩ := getF X17 hx hZ hown (host := "") (Or.inl (tb hw 77 rfl)) Via.refl e17 hPF.2.2.2.2.2.2.2.2.2.2.2.1 (g := (mkF m 53 #[vr ps, vi (1 : Int32), vj bs, sd, vj dd, sd, vi m1] [(.ref ps)])) rfl rfl (hb hby d10_53)
      refine Go.st st26 ?_
      refine gI X26 hx hby rfl d10_56 ?_
      refine gZ X26 hx hby rfl (pc0 := 57) (pc' := 92) rfl d10_57 rfl (teq (eqI liI_m1 liI_m1 (by decide))).1 (by decide) (by decide) ?_
      show Go p e below s Q 0 0 (T26.setTop (mkF m 92 #[vr ps, vi (1 : Int32), vj bs, sd, vj dd, sd, vi m1] []))
      exact J20 T26 h0 _ (up X26 (by decide) (by decide)) e26 N0 K0 (by have hh := hPF; exact hh) c_vp c_vd c_vm c_vs hQF
    ·
      have cs23' : en = (0 : Int32) := eqI cs23 liI_0 rfl
      subst cs23'
      have f27 := liI_0
      show Go p e below s Q 0 0 (T17.setTop (mkF m 52 #[vr ps, vi (1 : Int32), vj bs, sd, vj dd, sd, vi m1] []))
      refine gA X17 hx hby rfl d10_52 rfl rfl ?_
      obtain ⟨T28, X28, e28, st28⟩ := getF X17 hx hZ hown (host := "") (Or.inl (tb hw 77 rfl)) Via.refl e17 hPF.2.2.2.2.2.2.2.2.2.2.2.1 (g := (mkF m 53 #[vr ps, vi (1 : Int32), vj bs, sd, vj dd, sd, vi m1] [(.ref ps)])) rfl rfl (hb hby d10_53)
      refine Go.st st28 ?_
      refine gI X28 hx hby rfl d10_56 ?_
      refine gM X28 hx hby rfl d10_57 rfl (feq (neI liI_0 liI_m1 (by decide))).1 ?_
      refine gA X28 hx hby rfl d10_60 rfl rfl ?_
      obtain ⟨T29, X29, e29, st29⟩ := getF X28 hx hZ hown (host := "") (Or.inl (tb hw 39 rfl)) Via.refl e28 hPF.2.2.2.2.1 (g := (mkF m 61 #[vr ps, vi (1 : Int32), vj bs, sd, vj dd, sd, vi m1] [(.ref ps)])) rfl rfl (hb hby d10_61)
      refine Go.st st29 ?_
      show Go p e below s Q 0 0 (T29.setTop (mkF m 64 #[vr ps, vi (1 : Int32), vj bs, sd, vj dd, sd, vi m1] [(.ref ma)]))
      refine gA X29 hx hby rfl d10_64 rfl rfl ?_
      obtain ⟨T30, X30, e30, st30⟩ := getF X29 hx hZ hown (host := "") (Or.inl (tb hw 77 rfl)) Via.refl e29 hPF.2.2.2.2.2.2.2.2.2.2.2.1 (g := (mkF m 65 #[vr ps, vi (1 : Int32), vj bs, sd, vj dd, sd, vi m1] [(.ref ps), (.ref ma)])) rfl rfl (hb hby d10_65)
      refine Go.st st30 ?_
      refine Go.st (Vec.ildI X30 hx hZ e30 c_vm (j := (0 : Int32)) (by decide) (by decide) (g := (mkF m 68 #[vr ps, vi (1 : Int32), vj bs, sd, vj dd, sd, vi m1] [(.int (0 : Int32)), (.ref ma)])) rfl rfl (hb hby d10_68)) ?_
      refine gA X30 hx hby rfl d10_69 rfl rfl ?_
      obtain ⟨T32, X32, e32, st32⟩ := getF X30 hx hZ hown (host := "") (Or.inl (tb hw 55 rfl)) Via.refl e30 hPF.2.2.1 (g := (mkF m 70 #[vr ps, vi (1 : Int32), vj bs, sd, vj dd, sd, vi m1] [(.ref ps), (.int m0)])) rfl rfl (hb hby d10_70)
      refine Go.st st32 ?_
      have f33 := rng32 m0
      by_cases c34 : m0.toInt < mk.toInt
      ·
        refine gZ X32 hx hby rfl (pc0 := 73) (pc' := 92) rfl d10_73 rfl (tlt (ltI rfl rfl c34)).1 (by decide) (by decide) ?_
        show Go p e below s Q 0 0 (T32.setTop (mkF m 92 #[vr ps, vi (1 : Int32), vj bs, sd, vj dd, sd, vi m1] []))
        exact J20 T32 h0 _ (up X32 (by decide) (by decide)) e32 N0 K0 (by have hh := hPF; exact hh) c_vp c_vd c_vm c_vs hQF
      ·
        refine gM X32 hx hby rfl d10_73 rfl (flt (nltI rfl rfl c34)).1 ?_
        show Go p e below s Q 0 0 (T32.setTop (mkF m 76 #[vr ps, vi (1 : Int32), vj bs, sd, vj dd, sd, vi m1] []))
        refine gF X32 hx hby rfl d10_76 rfl ?_
        refine gA X32 hx hby rfl d10_78 rfl rfl ?_
        obtain ⟨T35, X35, e35, st35⟩ := getF X32 hx hZ hown (host := "") (Or.inl (tb hw 37 rfl)) Via.refl e32 hPF.2.2.2.1 (g := (mkF m 79 #[vr ps, vi (1 : Int32), vj bs, sd, vj dd, sd, vi m1] [(.ref ps), (.long dd)])) rfl rfl (hb hby d10_79)
        refine Go.st st35 ?_
        refine gA X35 hx hby rfl d10_82 rfl rfl ?_
        obtain ⟨T36, X36, e36, st36⟩ := getF X35 hx hZ hown (host := "") (Or.inl (tb hw 77 rfl)) Via.refl e35 hPF.2.2.2.2.2.2.2.2.2.2.2.1 (g := (mkF m 83 #[vr ps, vi (1 : Int32), vj bs, sd, vj dd, sd, vi m1] [(.ref ps), (.ref di), (.long dd)])) rfl rfl (hb hby d10_83)
        refine Go.st st36 ?_
        refine Go.st (Vec.ildJ X36 hx hZ e36 c_vd (j := (0 : Int32)) (by decide) (by decide) (g := (mkF m 86 #[vr ps, vi (1 : Int32), vj bs, sd, vj dd, sd, vi m1] [(.int (0 : Int32)), (.ref di), (.long dd)])) rfl rfl (hb hby d10_86)) ?_
        show Go p e below s Q 0 0 (T36.setTop (mkF m 87 #[vr ps, vi (1 : Int32), vj bs, sd, vj dd, sd, vi m1] [(.long d0), (.long dd)]))
        refine gL X36 hx hby rfl d10_87 rfl ?_
        have f38 := rng64 d0
        by_cases c39 : d0.toInt < dd.toInt
        ·
          refine gN X36 hx hby rfl d10_88 rfl ((if0 _ _).trans (tlt ((lw_gt dd d0).mpr (ltJ rfl rfl c39))).2.2.2) ?_
          show Go p e below s Q 0 0 (T36.setTop (mkF m 91 #[vr ps, vi (1 : Int32), vj bs, sd, vj dd, sd, vi m1] []))
          exfalso; omega
        ·
          refine gY X36 hx hby rfl (pc0 := 88) (pc' := 92) rfl d10_88 rfl ((if0 _ _).trans (flt (fun q => (nltJ rfl rfl c39) ((lw_gt dd d0).mp q))).2.2.2) (by decide) (by decide) ?_
          show Go p e below s Q 0 0 (T36.setTop (mkF m 92 #[vr ps, vi (1 : Int32), vj bs, sd, vj dd, sd, vi m1] []))
          exact J20 T36 h0 _ (up X36 (by decide) (by decide)) e36 N0 K0 (by have hh := hPF; exact hh) c_vp c_vd c_vm c_vs hQF
    ·
      have cs24' : en = (1 : Int32) := eqI cs24 liI_1 rfl
      subst cs24'
      show Go p e below s Q 0 0 (T17.setTop (mkF m 52 #[vr ps, vi (1 : Int32), vj bs, sd, vj dd, sd, vi m1] []))
      refine gA X17 hx hby rfl d10_52 rfl rfl ?_
      obtain ⟨T40, X40, e40, st40⟩ := getF X17 hx hZ hown (host := "") (Or.inl (tb hw 77 rfl)) Via.refl e17 hPF.2.2.2.2.2.2.2.2.2.2.2.1 (g := (mkF m 53 #[vr ps, vi (1 : Int32), vj bs, sd, vj dd, sd, vi m1] [(.ref ps)])) rfl rfl (hb hby d10_53)
      refine Go.st st40 ?_
      refine gI X40 hx hby rfl d10_56 ?_
      refine gM X40 hx hby rfl d10_57 rfl (feq (neI liI_1 liI_m1 (by decide))).1 ?_
      refine gA X40 hx hby rfl d10_60 rfl rfl ?_
      obtain ⟨T41, X41, e41, st41⟩ := getF X40 hx hZ hown (host := "") (Or.inl (tb hw 39 rfl)) Via.refl e40 hPF.2.2.2.2.1 (g := (mkF m 61 #[vr ps, vi (1 : Int32), vj bs, sd, vj dd, sd, vi m1] [(.ref ps)])) rfl rfl (hb hby d10_61)
      refine Go.st st41 ?_
      show Go p e below s Q 0 0 (T41.setTop (mkF m 64 #[vr ps, vi (1 : Int32), vj bs, sd, vj dd, sd, vi m1] [(.ref ma)]))
      refine gA X41 hx hby rfl d10_64 rfl rfl ?_
      obtain ⟨T42, X42, e42, st42⟩ := getF X41 hx hZ hown (host := "") (Or.inl (tb hw 77 rfl)) Via.refl e41 hPF.2.2.2.2.2.2.2.2.2.2.2.1 (g := (mkF m 65 #[vr ps, vi (1 : Int32), vj bs, sd, vj dd, sd, vi m1] [(.ref ps), (.ref ma)])) rfl rfl (hb hby d10_65)
      refine Go.st st42 ?_
      refine Go.st (Vec.ildI X42 hx hZ e42 c_vm (j := (1 : Int32)) (by decide) (by decide) (g := (mkF m 68 #[vr ps, vi (1 : Int32), vj bs, sd, vj dd, sd, vi m1] [(.int (1 : Int32)), (.ref ma)])) rfl rfl (hb hby d10_68)) ?_
      refine gA X42 hx hby rfl d10_69 rfl rfl ?_
      obtain ⟨T44, X44, e44, st44⟩ := getF X42 hx hZ hown (host := "") (Or.inl (tb hw 55 rfl)) Via.refl e42 hPF.2.2.1 (g := (mkF m 70 #[vr ps, vi (1 : Int32), vj bs, sd, vj dd, sd, vi m1] [(.ref ps), (.int m1)])) rfl rfl (hb hby d10_70)
      refine Go.st st44 ?_
      have c45 : m1.toInt < mk.toInt := by omega
      refine gZ X44 hx hby rfl (pc0 := 73) (pc' := 92) rfl d10_73 rfl (tlt (ltI rfl rfl c45)).1 (by decide) (by decide) ?_
      show Go p e below s Q 0 0 (T44.setTop (mkF m 92 #[vr ps, vi (1 : Int32), vj bs, sd, vj dd, sd, vi m1] []))
      exact J20 T44 h0 _ (up X44 (by decide) (by decide)) e44 N0 K0 (by have hh := hPF; exact hh) c_vp c_vd c_vm c_vs hQF
  intro Tg19 hg19 Lgg19 Xg19 eg19 Ng19 Kg19 hfg19_0 hfg19_1 hfg19_2 hfg19_3 hfg19_4 hfg19_5
  show Go p e below s Q 0 0 (Tg19.setTop (mkF m 92 #[vr ps, vi (1 : Int32), vj bs, sd, vj dd, sd, vi m1] []))
  refine gA Xg19 hx hby rfl d10_92 rfl rfl ?_
  obtain ⟨T46, X46, e46, st46⟩ := getF Xg19 hx hZ hown (host := "") (Or.inl (tb hw 39 rfl)) Via.refl eg19 hfg19_0.2.2.2.2.1 (g := (mkF m 93 #[vr ps, vi (1 : Int32), vj bs, sd, vj dd, sd, vi m1] [(.ref ps)])) rfl rfl (hb hby d10_93)
  refine Go.st st46 ?_
  refine gC X46 hx hby rfl d10_96 rfl ?_
  refine gA X46 hx hby rfl d10_97 rfl rfl ?_
  obtain ⟨T47, X47, e47, st47⟩ := getF X46 hx hZ hown (host := "") (Or.inl (tb hw 55 rfl)) Via.refl e46 hfg19_0.2.2.1 (g := (mkF m 98 #[vr ps, vi (1 : Int32), vj bs, sd, vj dd, sd, vi m1] [(.ref ps), (.int (1 : Int32)), (.ref ma)])) rfl rfl (hb hby d10_98)
  refine Go.st st47 ?_
  obtain ⟨T48, h48, X48, e48, W48, V48, st48⟩ := Vec.istI X47 hx hZ e47 hfg19_3 (j := (1 : Int32)) (by decide) (by decide) (g := (mkF m 101 #[vr ps, vi (1 : Int32), vj bs, sd, vj dd, sd, vi m1] [(.int mk), (.int (1 : Int32)), (.ref ma)])) rfl rfl (hb hby d10_101)
  have h49 : PFs Z h48 ps po mk di ma se sc q st lm en ts sl sv := hfg19_0.other W48 (ndq ND 0 7 rfl)
  have h50 : Vec Z h48 po .long (2 : Int32) (longs (lst [p0, p1])) := hfg19_1.other W48 (ndq ND 5 7 rfl)
  have h51 : Vec Z h48 di .long (2 : Int32) (longs (lst [d0, d1])) := hfg19_2.other W48 (ndq ND 6 7 rfl)
  have h52 : Vec Z h48 ma .int (2 : Int32) (ints (lst [m0, mk])) := Vec.of_eq V48 (congrArg ints (upd_lst _ 1 _ (Nat.le_of_ble_eq_true rfl)))
  have h53 : Vec Z h48 se .int (2 : Int32) (ints (lst [s0, s1])) := hfg19_4.other W48 (ndq ND 8 7 rfl)
  have h54 : QF Z h48 q ks js ss kf jf sz KF JF sn la := hfg19_5.other W48 (ndq ND 1 7 rfl) (ndq ND 2 7 rfl) (ndq ND 3 7 rfl) (ndq ND 4 7 rfl) N_ma
  have K48 : Keep h0 h48 ([ps, q, ss, po, di, ma, se] ++ rowsOf kf jf) := Kg19.wr W48 (Or.inl (List.mem_append_left _ (List.mem_of_getElem? (i := 5) rfl)))
  have N48 := Fr.snoc X48 Ng19 G_ma
  refine Go.st st48 ?_
  show Go p e below s Q 0 0 (T48.setTop (mkF m 102 #[vr ps, vi (1 : Int32), vj bs, sd, vj dd, sd, vi m1] []))
  refine gA X48 hx hby rfl d10_102 rfl rfl ?_
  obtain ⟨T55, X55, e55, st55⟩ := getF X48 hx hZ hown (host := "") (Or.inl (tb hw 37 rfl)) Via.refl e48 h49.2.2.2.1 (g := (mkF m 103 #[vr ps, vi (1 : Int32), vj bs, sd, vj dd, sd, vi m1] [(.ref ps)])) rfl rfl (hb hby d10_103)
  refine Go.st st55 ?_
  refine gC X55 hx hby rfl d10_106 rfl ?_
  refine gF X55 hx hby rfl d10_107 rfl ?_
  obtain ⟨T56, h56, X56, e56, W56, V56, st56⟩ := Vec.istJ X55 hx hZ e55 h51 (j := (1 : Int32)) (by decide) (by decide) (g := (mkF m 109 #[vr ps, vi (1 : Int32), vj bs, sd, vj dd, sd, vi m1] [(.long dd), (.int (1 : Int32)), (.ref di)])) rfl rfl (hb hby d10_109)
  have h57 : PFs Z h56 ps po mk di ma se sc q st lm en ts sl sv := h49.other W56 (ndq ND 0 6 rfl)
  have h58 : Vec Z h56 po .long (2 : Int32) (longs (lst [p0, p1])) := h50.other W56 (ndq ND 5 6 rfl)
  have h59 : Vec Z h56 di .long (2 : Int32) (longs (lst [d0, dd])) := Vec.of_eq V56 (congrArg longs (upd_lst _ 1 _ (Nat.le_of_ble_eq_true rfl)))
  have h60 : Vec Z h56 ma .int (2 : Int32) (ints (lst [m0, mk])) := h52.other W56 (ndq ND 7 6 rfl)
  have h61 : Vec Z h56 se .int (2 : Int32) (ints (lst [s0, s1])) := h53.other W56 (ndq ND 8 6 rfl)
  have h62 : QF Z h56 q ks js ss kf jf sz KF JF sn la := h54.other W56 (ndq ND 1 6 rfl) (ndq ND 2 6 rfl) (ndq ND 3 6 rfl) (ndq ND 4 6 rfl) N_di
  have K56 : Keep h0 h56 ([ps, q, ss, po, di, ma, se] ++ rowsOf kf jf) := K48.wr W56 (Or.inl (List.mem_append_left _ (List.mem_of_getElem? (i := 4) rfl)))
  have N56 := Fr.snoc X56 N48 G_di
  refine Go.st st56 ?_
  show Go p e below s Q 0 0 (T56.setTop (mkF m 110 #[vr ps, vi (1 : Int32), vj bs, sd, vj dd, sd, vi m1] []))
  refine gF X56 hx hby rfl d10_110 rfl ?_
  refine gA X56 hx hby rfl d10_112 rfl rfl ?_
  obtain ⟨T63, X63, e63, st63⟩ := getF X56 hx hZ hown (host := "") (Or.inl (tb hw 73 rfl)) Via.refl e56 h57.2.2.2.2.2.2.2.2.2.1 (g := (mkF m 113 #[vr ps, vi (1 : Int32), vj bs, sd, vj dd, sd, vi m1] [(.ref ps), (.long dd)])) rfl rfl (hb hby d10_113)
  refine Go.st st63 ?_
  refine gL X63 hx hby rfl d10_116 rfl ?_
  have f64 := rng64 st
  have c65 : ¬ (dd.toInt = st.toInt) := by omega
  refine gY X63 hx hby rfl (pc0 := 117) (pc' := 140) rfl d10_117 rfl ((if0 _ _).trans (feq (fun q => (neJ rfl rfl c65) ((lw_eq dd st).mp q))).2) (by decide) (by decide) ?_
  refine gA X63 hx hby rfl d10_140 rfl rfl ?_
  show Go p e below s Q 0 0 (T63.setTop (mkF m 141 #[vr ps, vi (1 : Int32), vj bs, sd, vj dd, sd, vi m1] [(.ref ps)]))
  obtain ⟨T66, X66, e66, st66⟩ := getF X63 hx hZ hown (host := "") (Or.inl (tb hw 33 rfl)) Via.refl e63 h57.2.2.2.2.2.2.2.1 (g := (mkF m 141 #[vr ps, vi (1 : Int32), vj bs, sd, vj dd, sd, vi m1] [(.ref ps)])) rfl rfl (hb hby d10_141)
  refine Go.st st66 ?_
  refine gF X66 hx hby rfl d10_144 rfl ?_
  refine gC X66 hx hby rfl d10_146 rfl ?_
  obtain ⟨h68, h69, h70, h71, h72, h73, h74, h75, h76, h77, h78⟩ := h62
  have f79 := rng32 sn
  have f80 := rng64 la
  have p81 : 0 ≤ dd.toInt ∧ la.toInt < 0 := by omega
  obtain ⟨cq67, kq67, q67a, q67b, q67c⟩ := isOf hZ e66 h68
  obtain ⟨_, _, ⟨T67, L67, k67, n67⟩, -, X67, ⟨Lc67, hQ67, l67, y67, z67⟩, st67⟩ := X66.virtualBack hx (y := (⟨cR, "push", "(JI)V"⟩ : MethodName)) (z := (⟨cR, "push", "(JI)V"⟩ : MethodName)) hown (mvT hZ (tb hw 98 rfl)) (mvT hZ (tb hw 99 rfl)) (notFace_of_selects (args := #[]) (mvT hZ (tb hw 101 rfl))) (mvT hZ (tb hw 101 rfl)) (mvT hZ (tb hw 100 rfl)) (by decide) (backOf (W := 0) (rm11 l Z a0 hw [] q dd (1 : Int32) ks js ss kf jf sz KF JF sn la h56 n0 (Nat.le_trans Z0 K56.1) h68 h69 h70 h71 h72 h73 h74 h75 h76 h77 h78 Ik Ij GR G_q G_ss N_q N_ks N_js N_ss (ndq ND 1 4 rfl) (ndq ND 2 4 rfl) (ndq ND 3 4 rfl) (ndq ND 2 1 rfl) (ndq ND 3 1 rfl) hq64 p81) hZ (tb hw 102 rfl) (tb hw 11 rfl) (by decide) (by decide)) q67a q67c (g := (mkF m 147 #[vr ps, vi (1 : Int32), vj bs, sd, vj dd, sd, vi m1] [(.int (1 : Int32)), (.long dd), (.ref q)])) rfl (by rw [hml]; rfl) (Steps.refl _) (argsL := [(.long dd), (.int (1 : Int32))]) (rest := []) (lenOf pd_6 rfl) rfl (by show 2 * 0 + _ ≤ _; exact Nat.le_of_eq rfl) (hb hby d10_147) (fun _ _ => ⟨rfl, e66, (by decide : 0 + 0 ≤ _), (by decide : 0 + 0 ≤ _)⟩)
  dsimp only [Pt.U, Pt.locs, Pt.cells, Pt.slots] at X67 l67 y67 z67 st67 hQ67
  subst y67 z67
  obtain ⟨rfl, N67q, K67q, h82, h83, h84, h85, h86, h87, h88, h89, h90, h91, h92⟩ := hQ67
  have N67 : Fr n0 L67 := by rw [l67]; exact Fr.app N56 N67q
  have h93 : PFs Z T67.heap ps po mk di ma se sc q st lm en ts sl sv := h57.keep K67q (nin_app (ninS (ndq ND 0 1 rfl) (ninS (ndq ND 0 4 rfl) nin0)) (nin_rows N_ps))
  have h94 : Vec Z T67.heap po .long (2 : Int32) (longs (lst [p0, p1])) := h58.keep K67q (nin_app (ninS (ndq ND 5 1 rfl) (ninS (ndq ND 5 4 rfl) nin0)) (nin_rows N_po))
  have h95 : Vec Z T67.heap di .long (2 : Int32) (longs (lst [d0, dd])) := h59.keep K67q (nin_app (ninS (ndq ND 6 1 rfl) (ninS (ndq ND 6 4 rfl) nin0)) (nin_rows N_di))
  have h96 : Vec Z T67.heap ma .int (2 : Int32) (ints (lst [m0, mk])) := h60.keep K67q (nin_app (ninS (ndq ND 7 1 rfl) (ninS (ndq ND 7 4 rfl) nin0)) (nin_rows N_ma))
  have h97 : Vec Z T67.heap se .int (2 : Int32) (ints (lst [s0, s1])) := h61.keep K67q (nin_app (ninS (ndq ND 8 1 rfl) (ninS (ndq ND 8 4 rfl) nin0)) (nin_rows N_se))
  have K67 : Keep h0 T67.heap ([ps, q, ss, po, di, ma, se] ++ rowsOf kf jf) := K56.trans K67q (fun x hx => (fun x hx => (List.mem_append.mp hx).elim ((show ∀ x ∈ ([q, ss] : List Addr), x ∈ (([ps, q, ss, po, di, ma, se] ++ rowsOf kf jf) : List Addr) ∨ h0.size ≤ x from (allS (Or.inl (List.mem_append_left _ (List.mem_of_getElem? (i := 1) rfl))) (allS (Or.inl (List.mem_append_left _ (List.mem_of_getElem? (i := 2) rfl))) all0))) x) (fun q => Or.inl (List.mem_append_right _ q))) x hx)
  have h98 : QF Z T67.heap q ks js ss kf jf (updF sz 64 ((sz 64) + (1 : Int32))) (updF KF 64 (updF (KF 64) (sz 64).toInt.toNat dd)) (updF JF 64 (updF (JF 64) (sz 64).toInt.toNat (1 : Int32))) (sn + (1 : Int32)) la := ⟨h82, h83, h84, h85, h86, h87, h88, h89, h90, h91, h92⟩
  refine Go.tr  st67 ?_
  show Go p e below s Q 0 0 (T67.setTop (mkF m 150 #[vr ps, vi (1 : Int32), vj bs, sd, vj dd, sd, vi m1] []))
  have hO99 : PSt Z T67.heap ps q ks js ss po di ma se kf jf mk sc en ts sl st lm p0 p1 d0 dd m0 mk s0 s1 (updF sz 64 ((sz 64) + (1 : Int32))) (updF KF 64 (updF (KF 64) (sz 64).toInt.toNat dd)) (updF JF 64 (updF (JF 64) (sz 64).toInt.toNat (1 : Int32))) (sn + (1 : Int32)) la sv := ⟨h93, h94, h95, h96, h97, h98⟩
  exact Go.retV X67 hx hlk Bd.returns (hb hby d10_150) (by rw [← hQ]; exact ⟨rfl, N67, K67, hO99⟩) (by decide) (by decide)
theorem d10_91 : decode kc10 91 = .ok (.return_, 1) := by decide +kernel
theorem ef_rms10 (m : MethodId) (ps : Addr) (bs : Int64) : entryFrame m #[(.ref ps), (.int (1 : Int32)), (.long bs)] 7 = mkF m 0 #[vr ps, vi (1 : Int32), vj bs, sd, un, un, un] [] := by first | (simp [entryFrame, mkF, argsToLocals, Value.category]; done) | rfl
def Qs10 (Z : State) (ps : Addr) (bs : Int64) (q ks js ss po di ma se : Addr) (kf jf : Nat → Addr) (mk sc en ts sl : Int32) (st lm p0 p1 d0 d1 : Int64) (m0 m1 s0 s1 : Int32) (sz : Nat → Int32) (KF : Nat → Nat → Int64) (JF : Nat → Nat → Int32) (sn : Int32) (la : Int64) (sv : Value) (dd : Int64) (h0 : Heap) (n0 : Nat) (vv : Option Value) (h : Heap) (LL : List Loc) : Prop := vv = none ∧ Fr n0 LL ∧ h = h0
set_option maxRecDepth 65536 in
set_option maxHeartbeats 40000000 in
theorem rms10 (l : Launch) (Z : State) (a0 : Array Value) (hw : ∀ d ∈ tables_1, d.before a0 Z = true) (ws : List Jvm.Cond) (ps : Addr) (bs : Int64) (q ks js ss po di ma se : Addr) (kf jf : Nat → Addr) (mk sc en ts sl : Int32) (st lm p0 p1 d0 d1 : Int64) (m0 m1 s0 s1 : Int32) (sz : Nat → Int32) (KF : Nat → Nat → Int64) (JF : Nat → Nat → Int32) (sn : Int32) (la : Int64) (sv : Value) (dd : Int64) (h0 : Heap) (n0 : Nat) (Z0 : n0 ≤ h0.size) (hO : PSt Z h0 ps q ks js ss po di ma se kf jf mk sc en ts sl st lm p0 p1 d0 d1 m0 m1 s0 s1 sz KF JF sn la sv) (hPs : PSs n0 ps q ks js ss po di ma se kf jf) (hdd : (bs + p1).toInt = dd.toInt ∧ 0 ≤ dd.toInt) (hmk : m1.toInt < mk.toInt ∧ 0 ≤ mk.toInt ∧ mk.toInt ≤ 1000) (hen : en.toInt = 0) (hsk : mk.toInt ≤ m0.toInt ∧ d0.toInt < dd.toInt) :
    MetFree l (⟨cP, "reachBack", "(IJ)V"⟩ : MethodName) (head1 (Jvm.Cond.code (⟨cP, "reachBack", "(IJ)V"⟩ : MethodName) kc10 7 none :: ws) ({ frames := 0, cells := 0, slots := 0, locals := 0 } : Room)) (fun aa UU => aa = #[(.ref ps), (.int (1 : Int32)), (.long bs)] ∧ Z.Warmed39 UU.vm ∧ UU.heap = h0) (fun _ _ _ _ _ => True) (fun _ UU oo UU' => ∃ vv LL, oo = .returned vv ∧ Qs10 Z ps bs q ks js ss po di ma se kf jf mk sc en ts sl st lm p0 p1 d0 d1 m0 m1 s0 s1 sz KF JF sn la sv dd h0 n0 vv UU'.heap LL ∧ FrameEnd UU oo UU' LL 0 0) := by
  refine MetFree.of_bodySF (plainFor_of_name pn_4) hisR ?_
  intro p e s m args below meth c s₁ Bd hml0 hP hK
  obtain ⟨rfl, hZ, hh⟩ := hP
  have hx := Bd.exec
  have hby := Bd.bytes
  have hlk : meth.locks = false := BodyLoose.notSynchronized Bd
  have hml : c.maxLocals = 7 := hml0
  have hown : s.vm.findClass cP = some m.cls := findClass_of_methodNamed Bd.named
  have hnm := (name_of_methodNamed Bd.named Bd.method).1
  have X0 : Stand p l e ({ frames := 0, cells := 0, slots := 0, locals := 0 } : Room) s m #[(.ref ps), (.int (1 : Int32)), (.long bs)] below meth c s₁ [] 0 0 := Stand.of_body Bd
  have e0 : s₁.heap = h0 := by rw [← hh, Bd.state]; rfl
  have N0 := Fr.nil n0
  have K0 : Keep h0 h0 [] := Keep.refl h0 _
  refine (?_ : Go p e below s (Qs10 Z ps bs q ks js ss po di ma se kf jf mk sc en ts sl st lm p0 p1 d0 d1 m0 m1 s0 s1 sz KF JF sn la sv dd h0 n0) 0 0 (s₁.setTop (entryFrame m #[(.ref ps), (.int (1 : Int32)), (.long bs)] 7)))
  rw [ef_rms10]
  generalize hQ : Qs10 Z ps bs q ks js ss po di ma se kf jf mk sc en ts sl st lm p0 p1 d0 d1 m0 m1 s0 s1 sz KF JF sn la sv dd h0 n0 = Q
  obtain ⟨hPF, c_vp, c_vd, c_vm, c_vs, hQF⟩ := hO
  obtain ⟨ND, Ik, Ij, GR, N_ps, N_q, N_ks, N_js, N_ss, N_po, N_di, N_ma, N_se, G_ps, G_q, G_ss, G_po, G_di, G_ma, G_se⟩ := hPs
  show Go p e below s Q 0 0 (s₁.setTop (mkF m 0 #[vr ps, vi (1 : Int32), vj bs, sd, un, un, un] []))
  have f1 := liI_1
  have f2 := rng64 bs
  refine gE X0 hx hby rfl d10_0 rfl ?_
  refine gA X0 hx hby rfl d10_1 rfl rfl ?_
  obtain ⟨T3, X3, e3, st3⟩ := getF X0 hx hZ hown (host := "") (Or.inl (tb hw 35 rfl)) Via.refl e0 hPF.2.1 (g := (mkF m 2 #[vr ps, vi (1 : Int32), vj bs, sd, un, un, un] [(.ref ps), (.long bs)])) rfl rfl (hb hby d10_2)
  refine Go.st st3 ?_
  refine gC X3 hx hby rfl d10_5 rfl ?_
  refine Go.st (Vec.ildJ X3 hx hZ e3 c_vp (j := (1 : Int32)) (by decide) (by decide) (g := (mkF m 6 #[vr ps, vi (1 : Int32), vj bs, sd, un, un, un] [(.int (1 : Int32)), (.ref po), (.long bs)])) rfl rfl (hb hby d10_6)) ?_
  refine Go.st (fun _ k => XS.ladd X3.here hx rfl (hb hby d10_7) rfl k) ?_
  show Go p e below s Q 0 0 (T3.setTop (mkF m 8 #[vr ps, vi (1 : Int32), vj bs, sd, un, un, un] [(.long (bs + p1))]))
  refine gU X3 hx hby rfl d10_8 rfl (l' := #[vr ps, vi (1 : Int32), vj bs, sd, vj (bs + p1), sd, un]) rfl ?_
  show Go p e below s Q 0 0 (T3.setTop (mkF m 10 #[vr ps, vi (1 : Int32), vj bs, sd, vj (bs + p1), sd, un] []))
  have f5 := rng64 p1
  have f6 := c_ladd bs p1
  have f7 := rng64 (bs + p1)
  generalize hv_v8 : (bs + p1) = v8 at f6 f7 ⊢
  have hdv : dd = v8 := eqJ rfl rfl (by rw [← hv_v8]; exact hdd.1.symm)
  subst hdv
  show Go p e below s Q 0 0 (T3.setTop (mkF m 10 #[vr ps, vi (1 : Int32), vj bs, sd, vj dd, sd, un] []))
  refine gA X3 hx hby rfl d10_10 rfl rfl ?_
  obtain ⟨T9, X9, e9, st9⟩ := getF X3 hx hZ hown (host := "") (Or.inl (tb hw 39 rfl)) Via.refl e3 hPF.2.2.2.2.1 (g := (mkF m 11 #[vr ps, vi (1 : Int32), vj bs, sd, vj dd, sd, un] [(.ref ps)])) rfl rfl (hb hby d10_11)
  refine Go.st st9 ?_
  refine gC X9 hx hby rfl d10_14 rfl ?_
  refine Go.st (Vec.ildI X9 hx hZ e9 c_vm (j := (1 : Int32)) (by decide) (by decide) (g := (mkF m 15 #[vr ps, vi (1 : Int32), vj bs, sd, vj dd, sd, un] [(.int (1 : Int32)), (.ref ma)])) rfl rfl (hb hby d10_15)) ?_
  refine gS X9 hx hby rfl d10_16 rfl (l' := #[vr ps, vi (1 : Int32), vj bs, sd, vj dd, sd, vi m1]) rfl ?_
  refine gD X9 hx hby rfl d10_18 rfl ?_
  show Go p e below s Q 0 0 (T9.setTop (mkF m 20 #[vr ps, vi (1 : Int32), vj bs, sd, vj dd, sd, vi m1] [(.int m1)]))
  refine gA X9 hx hby rfl d10_20 rfl rfl ?_
  obtain ⟨T11, X11, e11, st11⟩ := getF X9 hx hZ hown (host := "") (Or.inl (tb hw 55 rfl)) Via.refl e9 hPF.2.2.1 (g := (mkF m 21 #[vr ps, vi (1 : Int32), vj bs, sd, vj dd, sd, vi m1] [(.ref ps), (.int m1)])) rfl rfl (hb hby d10_21)
  refine Go.st st11 ?_
  refine gI X11 hx hby rfl d10_24 ?_
  refine Go.st (fun _ k => XS.iadd X11.here hx rfl (hb hby d10_25) rfl k) ?_
  have f12 := rng32 m1
  have f13 := rng32 mk
  have f14 := c_iadd mk (1 : Int32)
  have f15 := rng32 (mk + (1 : Int32))
  have c16 : ¬ (m1.toInt = (mk + (1 : Int32)).toInt) := by omega
  refine gZ X11 hx hby rfl (pc0 := 26) (pc' := 30) rfl d10_26 rfl (feq (neI rfl rfl c16)).2 (by decide) (by decide) ?_
  refine gD X11 hx hby rfl d10_30 rfl ?_
  show Go p e below s Q 0 0 (T11.setTop (mkF m 32 #[vr ps, vi (1 : Int32), vj bs, sd, vj dd, sd, vi m1] [(.int m1)]))
  refine gA X11 hx hby rfl d10_32 rfl rfl ?_
  obtain ⟨T17, X17, e17, st17⟩ := getF X11 hx hZ hown (host := "") (Or.inl (tb hw 55 rfl)) Via.refl e11 hPF.2.2.1 (g := (mkF m 33 #[vr ps, vi (1 : Int32), vj bs, sd, vj dd, sd, vi m1] [(.ref ps), (.int m1)])) rfl rfl (hb hby d10_33)
  refine Go.st st17 ?_
  have c18 : ¬ (m1.toInt = mk.toInt) := by omega
  refine gZ X17 hx hby rfl (pc0 := 36) (pc' := 52) rfl d10_36 rfl (feq (neI rfl rfl c18)).2 (by decide) (by decide) ?_
  show Go p e below s Q 0 0 (T17.setTop (mkF m 52 #[vr ps, vi (1 : Int32), vj bs, sd, vj dd, sd, vi m1] []))
  have hE : (0 : Int32) = en := eqI liI_0 rfl (by omega)
  subst hE
  show Go p e below s Q 0 0 (T17.setTop (mkF m 52 #[vr ps, vi (1 : Int32), vj bs, sd, vj dd, sd, vi m1] []))
  refine gA X17 hx hby rfl d10_52 rfl rfl ?_
  obtain ⟨T19, X19, e19, st19⟩ := getF X17 hx hZ hown (host := "") (Or.inl (tb hw 77 rfl)) Via.refl e17 hPF.2.2.2.2.2.2.2.2.2.2.2.1 (g := (mkF m 53 #[vr ps, vi (1 : Int32), vj bs, sd, vj dd, sd, vi m1] [(.ref ps)])) rfl rfl (hb hby d10_53)
  refine Go.st st19 ?_
  refine gI X19 hx hby rfl d10_56 ?_
  refine gM X19 hx hby rfl d10_57 rfl (feq (neI liI_0 liI_m1 (by decide))).1 ?_
  refine gA X19 hx hby rfl d10_60 rfl rfl ?_
  obtain ⟨T20, X20, e20, st20⟩ := getF X19 hx hZ hown (host := "") (Or.inl (tb hw 39 rfl)) Via.refl e19 hPF.2.2.2.2.1 (g := (mkF m 61 #[vr ps, vi (1 : Int32), vj bs, sd, vj dd, sd, vi m1] [(.ref ps)])) rfl rfl (hb hby d10_61)
  refine Go.st st20 ?_
  show Go p e below s Q 0 0 (T20.setTop (mkF m 64 #[vr ps, vi (1 : Int32), vj bs, sd, vj dd, sd, vi m1] [(.ref ma)]))
  refine gA X20 hx hby rfl d10_64 rfl rfl ?_
  obtain ⟨T21, X21, e21, st21⟩ := getF X20 hx hZ hown (host := "") (Or.inl (tb hw 77 rfl)) Via.refl e20 hPF.2.2.2.2.2.2.2.2.2.2.2.1 (g := (mkF m 65 #[vr ps, vi (1 : Int32), vj bs, sd, vj dd, sd, vi m1] [(.ref ps), (.ref ma)])) rfl rfl (hb hby d10_65)
  refine Go.st st21 ?_
  refine Go.st (Vec.ildI X21 hx hZ e21 c_vm (j := (0 : Int32)) (by decide) (by decide) (g := (mkF m 68 #[vr ps, vi (1 : Int32), vj bs, sd, vj dd, sd, vi m1] [(.int (0 : Int32)), (.ref ma)])) rfl rfl (hb hby d10_68)) ?_
  refine gA X21 hx hby rfl d10_69 rfl rfl ?_
  obtain ⟨T23, X23, e23, st23⟩ := getF X21 hx hZ hown (host := "") (Or.inl (tb hw 55 rfl)) Via.refl e21 hPF.2.2.1 (g := (mkF m 70 #[vr ps, vi (1 : Int32), vj bs, sd, vj dd, sd, vi m1] [(.ref ps), (.int m0)])) rfl rfl (hb hby d10_70)
  refine Go.st st23 ?_
  have f24 := rng32 m0
  have c25 : ¬ (m0.toInt < mk.toInt) := by omega
  refine gM X23 hx hby rfl d10_73 rfl (flt (nltI rfl rfl c25)).1 ?_
  show Go p e below s Q 0 0 (T23.setTop (mkF m 76 #[vr ps, vi (1 : Int32), vj bs, sd, vj dd, sd, vi m1] []))
  refine gF X23 hx hby rfl d10_76 rfl ?_
  refine gA X23 hx hby rfl d10_78 rfl rfl ?_
  obtain ⟨T26, X26, e26, st26⟩ := getF X23 hx hZ hown (host := "") (Or.inl (tb hw 37 rfl)) Via.refl e23 hPF.2.2.2.1 (g := (mkF m 79 #[vr ps, vi (1 : Int32), vj bs, sd, vj dd, sd, vi m1] [(.ref ps), (.long dd)])) rfl rfl (hb hby d10_79)
  refine Go.st st26 ?_
  refine gA X26 hx hby rfl d10_82 rfl rfl ?_
  obtain ⟨T27, X27, e27, st27⟩ := getF X26 hx hZ hown (host := "") (Or.inl (tb hw 77 rfl)) Via.refl e26 hPF.2.2.2.2.2.2.2.2.2.2.2.1 (g := (mkF m 83 #[vr ps, vi (1 : Int32), vj bs, sd, vj dd, sd, vi m1] [(.ref ps), (.ref di), (.long dd)])) rfl rfl (hb hby d10_83)
  refine Go.st st27 ?_
  refine Go.st (Vec.ildJ X27 hx hZ e27 c_vd (j := (0 : Int32)) (by decide) (by decide) (g := (mkF m 86 #[vr ps, vi (1 : Int32), vj bs, sd, vj dd, sd, vi m1] [(.int (0 : Int32)), (.ref di), (.long dd)])) rfl rfl (hb hby d10_86)) ?_
  show Go p e below s Q 0 0 (T27.setTop (mkF m 87 #[vr ps, vi (1 : Int32), vj bs, sd, vj dd, sd, vi m1] [(.long d0), (.long dd)]))
  refine gL X27 hx hby rfl d10_87 rfl ?_
  have f29 := rng64 d0
  have c30 : d0.toInt < dd.toInt := by omega
  refine gN X27 hx hby rfl d10_88 rfl ((if0 _ _).trans (tlt ((lw_gt dd d0).mpr (ltJ rfl rfl c30))).2.2.2) ?_
  show Go p e below s Q 0 0 (T27.setTop (mkF m 91 #[vr ps, vi (1 : Int32), vj bs, sd, vj dd, sd, vi m1] []))
  exact Go.retV X27 hx hlk Bd.returns (hb hby d10_91) (by rw [← hQ, e27]; exact ⟨rfl, N0, rfl⟩) (by decide) (by decide)
def Qr1c (Z : State) (ps : Addr) (bs : Int64) (q ks js ss po di ma se : Addr) (kf jf : Nat → Addr) (mk sc en ts sl : Int32) (st lm p0 p1 d0 d1 : Int64) (m0 m1 s0 s1 : Int32) (sz : Nat → Int32) (KF : Nat → Nat → Int64) (JF : Nat → Nat → Int32) (sn : Int32) (la : Int64) (sv : Value) (dd : Int64) (h0 : Heap) (n0 : Nat) (vv : Option Value) (h : Heap) (LL : List Loc) : Prop := ∃ (m1x : Int32) (d1x : Int64) (szx : Nat → Int32) (KFx : Nat → Nat → Int64) (JFx : Nat → Nat → Int32) (snx : Int32), vv = none ∧ Fr n0 LL ∧ (R1 en mk m0 m1 d0 d1 dd sz KF JF sn m1x d1x szx KFx JFx snx) ∧ Keep h0 h ([ps, q, ss, po, di, ma, se] ++ rowsOf kf jf) ∧ (PSt Z h ps q ks js ss po di ma se kf jf mk sc en ts sl st lm p0 p1 d0 d1x m0 m1x s0 s1 szx KFx JFx snx la sv)
set_option maxRecDepth 65536 in
set_option maxHeartbeats 40000000 in
theorem rmr1c (l : Launch) (Z : State) (a0 : Array Value) (hw : ∀ d ∈ tables_1, d.before a0 Z = true) (ws : List Jvm.Cond) (ps : Addr) (bs : Int64) (q ks js ss po di ma se : Addr) (kf jf : Nat → Addr) (mk sc en ts sl : Int32) (st lm p0 p1 d0 d1 : Int64) (m0 m1 s0 s1 : Int32) (sz : Nat → Int32) (KF : Nat → Nat → Int64) (JF : Nat → Nat → Int32) (sn : Int32) (la : Int64) (sv : Value) (dd : Int64) (h0 : Heap) (n0 : Nat) (Z0 : n0 ≤ h0.size) (hO : PSt Z h0 ps q ks js ss po di ma se kf jf mk sc en ts sl st lm p0 p1 d0 d1 m0 m1 s0 s1 sz KF JF sn la sv) (hPs : PSs n0 ps q ks js ss po di ma se kf jf) (hdd : (bs + p1).toInt = dd.toInt ∧ 0 ≤ dd.toInt ∧ dd.toInt < 4611686018427387904) (hmk : m1.toInt < mk.toInt ∧ 0 ≤ mk.toInt ∧ mk.toInt ≤ 1000) (hst : st.toInt = 9223372036854775807 ∧ la.toInt < 0) (hq64 : 0 ≤ (sz 64).toInt ∧ (sz 64).toInt < 4) (hen : en.toInt = -1 ∨ en.toInt = 0 ∨ en.toInt = 1) :
    MetFree l (⟨cP, "reachBack", "(IJ)V"⟩ : MethodName) (head1 (Jvm.Cond.code (⟨cP, "reachBack", "(IJ)V"⟩ : MethodName) kc10 7 none :: ws) ({ frames := 4, cells := 0, slots := 0, locals := 59 } : Room)) (fun aa UU => aa = #[(.ref ps), (.int (1 : Int32)), (.long bs)] ∧ Z.Warmed39 UU.vm ∧ UU.heap = h0) (fun _ _ _ _ _ => True) (fun _ UU oo UU' => ∃ vv LL, oo = .returned vv ∧ Qr1c Z ps bs q ks js ss po di ma se kf jf mk sc en ts sl st lm p0 p1 d0 d1 m0 m1 s0 s1 sz KF JF sn la sv dd h0 n0 vv UU'.heap LL ∧ FrameEnd UU oo UU' LL 0 0) := by
  by_cases hsk : en.toInt = 0 ∧ mk.toInt ≤ m0.toInt ∧ d0.toInt < dd.toInt
  · refine mono2 (Qs10 Z ps bs q ks js ss po di ma se kf jf mk sc en ts sl st lm p0 p1 d0 d1 m0 m1 s0 s1 sz KF JF sn la sv dd h0 n0) (rms10 l Z a0 hw ws ps bs q ks js ss po di ma se kf jf mk sc en ts sl st lm p0 p1 d0 d1 m0 m1 s0 s1 sz KF JF sn la sv dd h0 n0 Z0 hO hPs ⟨hdd.1, hdd.2.1⟩ hmk hsk.1 hsk.2) (fun v h L hq => ?_) (by decide) (by decide) (by decide) (by decide) (by decide) (by decide)
    obtain ⟨e1, e2, rfl⟩ := hq
    exact ⟨m1, d1, sz, KF, JF, sn, e1, e2, Or.inr ⟨hsk.1, hsk.2.1, hsk.2.2, rfl, rfl, rfl, rfl, rfl, rfl⟩, Keep.refl _ _, hO⟩
  · refine mono2 (Qr1 Z ps bs q ks js ss po di ma se kf jf mk sc en ts sl st lm p0 p1 d0 d1 m0 m1 s0 s1 sz KF JF sn la sv dd h0 n0) (rmr1 l Z a0 hw ws ps bs q ks js ss po di ma se kf jf mk sc en ts sl st lm p0 p1 d0 d1 m0 m1 s0 s1 sz KF JF sn la sv dd h0 n0 Z0 hO hPs hdd hmk hst hq64 hen hsk) (fun v h L hq => ?_) (by decide) (by decide) (by decide) (by decide) (by decide) (by decide)
    obtain ⟨e1, e2, e3, e4⟩ := hq
    exact ⟨_, _, _, _, _, _, e1, e2, Or.inl ⟨hsk, rfl, rfl, rfl, rfl, rfl, rfl⟩, e3, e4⟩
theorem d5_0 : decode kc5 0 = .ok (.aload_n 0, 1) := by decide +kernel
theorem d5_1 : decode kc5 1 = .ok (.dup, 1) := by decide +kernel
theorem d5_2 : decode kc5 2 = .ok (.getfield 57, 3) := by decide +kernel
theorem d5_5 : decode kc5 5 = .ok (.iconst 2, 1) := by decide +kernel
theorem d5_6 : decode kc5 6 = .ok (.iadd, 1) := by decide +kernel
theorem d5_7 : decode kc5 7 = .ok (.putfield 57, 3) := by decide +kernel
theorem d5_10 : decode kc5 10 = .ok (.aload_n 0, 1) := by decide +kernel
theorem d5_11 : decode kc5 11 = .ok (.iconst 0, 1) := by decide +kernel
theorem d5_12 : decode kc5 12 = .ok (.putfield 61, 3) := by decide +kernel
theorem d5_15 : decode kc5 15 = .ok (.aload_n 0, 1) := by decide +kernel
theorem d5_16 : decode kc5 16 = .ok (.iconst 0, 1) := by decide +kernel
theorem d5_17 : decode kc5 17 = .ok (.putfield 64, 3) := by decide +kernel
theorem d5_20 : decode kc5 20 = .ok (.aload_n 0, 1) := by decide +kernel
theorem d5_21 : decode kc5 21 = .ok (.getfield 28, 3) := by decide +kernel
theorem d5_24 : decode kc5 24 = .ok (.invokevirtual 67, 3) := by decide +kernel
theorem d5_27 : decode kc5 27 = .ok (.aload_n 0, 1) := by decide +kernel
theorem d5_28 : decode kc5 28 = .ok (.ldc2_w 70, 3) := by decide +kernel
theorem d5_31 : decode kc5 31 = .ok (.putfield 72, 3) := by decide +kernel
theorem d5_34 : decode kc5 34 = .ok (.aload_n 0, 1) := by decide +kernel
theorem d5_35 : decode kc5 35 = .ok (.ldc2_w 70, 3) := by decide +kernel
theorem d5_38 : decode kc5 38 = .ok (.putfield 76, 3) := by decide +kernel
theorem d5_41 : decode kc5 41 = .ok (.aload_n 0, 1) := by decide +kernel
theorem d5_42 : decode kc5 42 = .ok (.iload_n 2, 1) := by decide +kernel
theorem d5_43 : decode kc5 43 = .ok (.iconst 1, 1) := by decide +kernel
theorem d5_44 : decode kc5 44 = .ok (.if_icmp .ne 9, 3) := by decide +kernel
theorem d5_47 : decode kc5 47 = .ok (.aload_n 1, 1) := by decide +kernel
theorem d5_48 : decode kc5 48 = .ok (.iconst 0, 1) := by decide +kernel
theorem d5_49 : decode kc5 49 = .ok (.iaload, 1) := by decide +kernel
theorem d5_50 : decode kc5 50 = .ok (.goto 4, 3) := by decide +kernel
theorem d5_54 : decode kc5 54 = .ok (.putfield 79, 3) := by decide +kernel
theorem d5_57 : decode kc5 57 = .ok (.aload_n 0, 1) := by decide +kernel
theorem d5_58 : decode kc5 58 = .ok (.iload_n 2, 1) := by decide +kernel
theorem d5_59 : decode kc5 59 = .ok (.iconst 1, 1) := by decide +kernel
theorem d5_60 : decode kc5 60 = .ok (.if_icmp .le 7, 3) := by decide +kernel
theorem d5_67 : decode kc5 67 = .ok (.iconst 0, 1) := by decide +kernel
theorem d5_68 : decode kc5 68 = .ok (.putfield 82, 3) := by decide +kernel
theorem d5_71 : decode kc5 71 = .ok (.aload_n 0, 1) := by decide +kernel
theorem d5_72 : decode kc5 72 = .ok (.iconst 0, 1) := by decide +kernel
theorem d5_73 : decode kc5 73 = .ok (.putfield 86, 3) := by decide +kernel
theorem d5_76 : decode kc5 76 = .ok (.aload_n 0, 1) := by decide +kernel
theorem d5_77 : decode kc5 77 = .ok (.getfield 82, 3) := by decide +kernel
theorem d5_80 : decode kc5 80 = .ok (.ifCond .ne 4, 3) := by decide +kernel
theorem d5_83 : decode kc5 83 = .ok (.return_, 1) := by decide +kernel
theorem d5_53 : decode kc5 53 = .ok (.iconst (-1), 1) := by decide +kernel
theorem d5_63 : decode kc5 63 = .ok (.iconst 1, 1) := by decide +kernel
theorem d5_64 : decode kc5 64 = .ok (.goto 4, 3) := by decide +kernel
theorem d5_84 : decode kc5 84 = .ok (.aload_n 0, 1) := by decide +kernel
theorem d5_85 : decode kc5 85 = .ok (.getfield 89, 3) := by decide +kernel
theorem d5_88 : decode kc5 88 = .ok (.ifnonnull 14, 3) := by decide +kernel
theorem d5_91 : decode kc5 91 = .ok (.aload_n 0, 1) := by decide +kernel
theorem d5_92 : decode kc5 92 = .ok (.aload_n 0, 1) := by decide +kernel
theorem d5_93 : decode kc5 93 = .ok (.getfield 41, 3) := by decide +kernel
theorem d5_96 : decode kc5 96 = .ok (.arraylength, 1) := by decide +kernel
theorem d5_97 : decode kc5 97 = .ok (.newarray .int, 2) := by decide +kernel
theorem d5_99 : decode kc5 99 = .ok (.putfield 89, 3) := by decide +kernel
theorem d5_102 : decode kc5 102 = .ok (.iconst 0, 1) := by decide +kernel
theorem d5_103 : decode kc5 103 = .ok (.istore_n 3, 1) := by decide +kernel
theorem d5_104 : decode kc5 104 = .ok (.iload_n 3, 1) := by decide +kernel
theorem d5_105 : decode kc5 105 = .ok (.iload_n 2, 1) := by decide +kernel
theorem d5_106 : decode kc5 106 = .ok (.if_icmp .ge 21, 3) := by decide +kernel
theorem d5_109 : decode kc5 109 = .ok (.aload_n 0, 1) := by decide +kernel
theorem d5_110 : decode kc5 110 = .ok (.getfield 89, 3) := by decide +kernel
theorem d5_113 : decode kc5 113 = .ok (.aload_n 1, 1) := by decide +kernel
theorem d5_114 : decode kc5 114 = .ok (.iload_n 3, 1) := by decide +kernel
theorem d5_115 : decode kc5 115 = .ok (.iaload, 1) := by decide +kernel
theorem d5_116 : decode kc5 116 = .ok (.aload_n 0, 1) := by decide +kernel
theorem d5_117 : decode kc5 117 = .ok (.getfield 57, 3) := by decide +kernel
theorem d5_120 : decode kc5 120 = .ok (.iastore, 1) := by decide +kernel
theorem d5_121 : decode kc5 121 = .ok (.iinc 3 1, 3) := by decide +kernel
theorem d5_124 : decode kc5 124 = .ok (.goto (-20), 3) := by decide +kernel
theorem d5_127 : decode kc5 127 = .ok (.aload_n 0, 1) := by decide +kernel
theorem d5_128 : decode kc5 128 = .ok (.iload_n 2, 1) := by decide +kernel
theorem d5_129 : decode kc5 129 = .ok (.putfield 86, 3) := by decide +kernel
theorem d5_132 : decode kc5 132 = .ok (.return_, 1) := by decide +kernel
theorem ef_rmb (m : MethodId) (ps src : Addr) (cn : Int32) : entryFrame m #[(.ref ps), (.ref src), (.int cn)] 4 = mkF m 0 #[vr ps, vr src, vi cn, un] [] := by first | (simp [entryFrame, mkF, argsToLocals, Value.category]; done) | rfl
def Qb (Z : State) (ps src : Addr) (cn : Int32) (q ks js ss po di ma se : Addr) (kf jf : Nat → Addr) (mk sc en ts sl : Int32) (st lm p0 p1 d0 d1 : Int64) (m0 m1 s0 s1 : Int32) (sz : Nat → Int32) (KF : Nat → Nat → Int64) (JF : Nat → Nat → Int32) (sn : Int32) (la : Int64) (sv : Value) (u0 u1 w0 w1 : Int32) (ea : Addr) (h0 : Heap) (n0 : Nat) (vv : Option Value) (h : Heap) (LL : List Loc) : Prop := ∃ (mk2 en2 ts2 sl2 : Int32) (s2 : Nat → Int32) (sv2 : Value) (w0x w1x : Int32), vv = none ∧ Fr n0 LL ∧ (mk2.toInt = mk.toInt + 2) ∧ (∀ b : Nat, b < 65 → s2 b = 0) ∧ (Md en2 ts2 sl2) ∧ ((cn.toInt = 1 ∧ en2.toInt = u0.toInt ∧ ts2.toInt = 0) ∨ (cn.toInt = 2 ∧ ts2.toInt = 1)) ∧ (Hid (0 < sl2.toInt → (∃ so, sv2 = .ref so) ∧ mk2 = w0x ∧ mk2 = w1x)) ∧ Lk h0 h ∧ (PSt Z h ps q ks js ss po di ma se kf jf mk2 (0 : Int32) en2 ts2 sl2 (9223372036854775807 : Int64) (9223372036854775807 : Int64) p0 p1 d0 d1 m0 m1 s0 s1 s2 KF JF (0 : Int32) (-9223372036854775808 : Int64) sv2) ∧ (SV Z h ps q ks js ss po di ma se kf jf n0 sv2 w0x w1x) ∧ (Vec Z h src .int (2 : Int32) (ints (lst [u0, u1]))) ∧ (Vec Z h ea .long (2 : Int32) (longs (lst [p0, p1])))
set_option maxRecDepth 65536 in
set_option maxHeartbeats 40000000 in
theorem rmb (l : Launch) (Z : State) (a0 : Array Value) (hw : ∀ d ∈ tables_1, d.before a0 Z = true) (ws : List Jvm.Cond) (ps src : Addr) (cn : Int32) (q ks js ss po di ma se : Addr) (kf jf : Nat → Addr) (mk sc en ts sl : Int32) (st lm p0 p1 d0 d1 : Int64) (m0 m1 s0 s1 : Int32) (sz : Nat → Int32) (KF : Nat → Nat → Int64) (JF : Nat → Nat → Int32) (sn : Int32) (la : Int64) (sv : Value) (u0 u1 w0 w1 : Int32) (ea : Addr) (h0 : Heap) (n0 : Nat) (Z0 : n0 ≤ h0.size) (hO : PSt Z h0 ps q ks js ss po di ma se kf jf mk sc en ts sl st lm p0 p1 d0 d1 m0 m1 s0 s1 sz KF JF sn la sv) (hPs : PSs n0 ps q ks js ss po di ma se kf jf) (hSV : SV Z h0 ps q ks js ss po di ma se kf jf n0 sv w0 w1) (hsrc : Vec Z h0 src .int (2 : Int32) (ints (lst [u0, u1]))) (hve : Vec Z h0 ea .long (2 : Int32) (longs (lst [p0, p1]))) (out_src : ∀ x ∈ [ps, q, ks, js, ss, po, di, ma, se], x ≠ src) (nr_src : NR kf jf src) (out_ea : ∀ x ∈ [ps, q, ks, js, ss, po, di, ma, se], x ≠ ea) (nr_ea : NR kf jf ea) (sv_src : ∀ so, sv = .ref so → so ≠ src) (hc : (cn.toInt = 1 ∧ (u0.toInt = 0 ∨ u0.toInt = 1)) ∨ (cn.toInt = 2 ∧ ((u0.toInt = 0 ∧ u1.toInt = 1) ∨ (u0.toInt = 1 ∧ u1.toInt = 0)))) (hmk : 0 ≤ mk.toInt ∧ mk.toInt ≤ 100) :
    MetFree l (⟨cP, "beginBack", "([II)V"⟩ : MethodName) (head1 (Jvm.Cond.code (⟨cP, "beginBack", "([II)V"⟩ : MethodName) kc5 4 none :: ws) ({ frames := 2, cells := 1, slots := 2, locals := 27 } : Room)) (fun aa UU => aa = #[(.ref ps), (.ref src), (.int cn)] ∧ Z.Warmed39 UU.vm ∧ UU.heap = h0) (fun _ _ _ _ _ => True) (fun _ UU oo UU' => ∃ vv LL, oo = .returned vv ∧ Qb Z ps src cn q ks js ss po di ma se kf jf mk sc en ts sl st lm p0 p1 d0 d1 m0 m1 s0 s1 sz KF JF sn la sv u0 u1 w0 w1 ea h0 n0 vv UU'.heap LL ∧ FrameEnd UU oo UU' LL 1 2) := by
  refine MetFree.of_bodySF (plainFor_of_name pn_4) hisR ?_
  intro p e s m args below meth c s₁ Bd hml0 hP hK
  obtain ⟨rfl, hZ, hh⟩ := hP
  have hx := Bd.exec
  have hby := Bd.bytes
  have hlk : meth.locks = false := BodyLoose.notSynchronized Bd
  have hml : c.maxLocals = 4 := hml0
  have hown : s.vm.findClass cP = some m.cls := findClass_of_methodNamed Bd.named
  have hnm := (name_of_methodNamed Bd.named Bd.method).1
  have X0 : Stand p l e ({ frames := 2, cells := 1, slots := 2, locals := 27 } : Room) s m #[(.ref ps), (.ref src), (.int cn)] below meth c s₁ [] 0 0 := Stand.of_body Bd
  have e0 : s₁.heap = h0 := by rw [← hh, Bd.state]; rfl
  have N0 := Fr.nil n0
  have K0 : Lk h0 h0 := Lk.refl h0
  refine (?_ : Go p e below s (Qb Z ps src cn q ks js ss po di ma se kf jf mk sc en ts sl st lm p0 p1 d0 d1 m0 m1 s0 s1 sz KF JF sn la sv u0 u1 w0 w1 ea h0 n0) 1 2 (s₁.setTop (entryFrame m #[(.ref ps), (.ref src), (.int cn)] 4)))
  rw [ef_rmb]
  generalize hQ : Qb Z ps src cn q ks js ss po di ma se kf jf mk sc en ts sl st lm p0 p1 d0 d1 m0 m1 s0 s1 sz KF JF sn la sv u0 u1 w0 w1 ea h0 n0 = Q
  obtain ⟨hPF, c_vp, c_vd, c_vm, c_vs, hQF⟩ := hO
  obtain ⟨ND, Ik, Ij, GR, N_ps, N_q, N_ks, N_js, N_ss, N_po, N_di, N_ma, N_se, G_ps, G_q, G_ss, G_po, G_di, G_ma, G_se⟩ := hPs
  show Go p e below s Q 1 2 (s₁.setTop (mkF m 0 #[vr ps, vr src, vi cn, un] []))
  have f1 := rng32 cn
  refine gA X0 hx hby rfl d5_0 rfl rfl ?_
  refine Go.st (fun _ k => XS.dup X0.here hx rfl (hb hby d5_1) rfl rfl k) ?_
  obtain ⟨T2, X2, e2, st2⟩ := getF X0 hx hZ hown (host := "") (Or.inl (tb hw 55 rfl)) Via.refl e0 hPF.2.2.1 (g := (mkF m 2 #[vr ps, vr src, vi cn, un] [(.ref ps), (.ref ps)])) rfl rfl (hb hby d5_2)
  refine Go.st st2 ?_
  refine gI X2 hx hby rfl d5_5 ?_
  refine Go.st (fun _ k => XS.iadd X2.here hx rfl (hb hby d5_6) rfl k) ?_
  show Go p e below s Q 1 2 (T2.setTop (mkF m 7 #[vr ps, vr src, vi cn, un] [(.int (mk + (2 : Int32))), (.ref ps)]))
  have f3 := rng32 mk
  have f4 := liI_2
  have f5 := c_iadd mk (2 : Int32)
  have f6 := rng32 (mk + (2 : Int32))
  obtain ⟨T7, h7, X7, e7, W7, st7⟩ := putF X2 hx hZ hown (host := "") (Or.inl (tb hw 55 rfl)) Via.refl e2 hPF.2.2.1 hPF.1 (Or.inl (tb hw 56 rfl)) (tb hw 1 rfl) (ty := .int) (by decide) rfl rfl (g := (mkF m 7 #[vr ps, vr src, vi cn, un] [(.int (mk + (2 : Int32))), (.ref ps)])) rfl rfl (hb hby d5_7)
  have h8 : PFs Z h7 ps po (mk + (2 : Int32)) di ma se sc q st lm en ts sl sv := PFs_set_mark hw W7 hPF
  have h9 : Vec Z h7 po .long (2 : Int32) (longs (lst [p0, p1])) := c_vp.other W7 (ndq ND 5 0 rfl)
  have h10 : Vec Z h7 di .long (2 : Int32) (longs (lst [d0, d1])) := c_vd.other W7 (ndq ND 6 0 rfl)
  have h11 : Vec Z h7 ma .int (2 : Int32) (ints (lst [m0, m1])) := c_vm.other W7 (ndq ND 7 0 rfl)
  have h12 : Vec Z h7 se .int (2 : Int32) (ints (lst [s0, s1])) := c_vs.other W7 (ndq ND 8 0 rfl)
  have h13 : QF Z h7 q ks js ss kf jf sz KF JF sn la := hQF.other W7 (ndq ND 1 0 rfl) (ndq ND 2 0 rfl) (ndq ND 3 0 rfl) (ndq ND 4 0 rfl) N_ps
  have h14 : SV Z h7 ps q ks js ss po di ma se kf jf n0 sv w0 w1 := hSV.other W7 (mq 0 rfl)
  have h15 : Vec Z h7 src .int (2 : Int32) (ints (lst [u0, u1])) := hsrc.other W7 (Ne.symm (out_src _ (mq 0 rfl)))
  have h16 : Vec Z h7 ea .long (2 : Int32) (longs (lst [p0, p1])) := hve.other W7 (Ne.symm (out_ea _ (mq 0 rfl)))
  have K7 : Lk h0 h7 := K0.wr W7
  have N7 := Fr.snoc X7 N0 G_ps
  refine Go.st st7 ?_
  show Go p e below s Q 1 2 (T7.setTop (mkF m 10 #[vr ps, vr src, vi cn, un] []))
  refine gA X7 hx hby rfl d5_10 rfl rfl ?_
  refine gI X7 hx hby rfl d5_11 ?_
  obtain ⟨T17, h17, X17, e17, W17, st17⟩ := putF X7 hx hZ hown (host := "") (Or.inl (tb hw 57 rfl)) Via.refl e7 h8.2.2.2.2.2.2.1 h8.1 (Or.inl (tb hw 58 rfl)) (tb hw 1 rfl) (ty := .int) (by decide) rfl rfl (g := (mkF m 12 #[vr ps, vr src, vi cn, un] [(.int (0 : Int32)), (.ref ps)])) rfl rfl (hb hby d5_12)
  have h18 : PFs Z h17 ps po (mk + (2 : Int32)) di ma se (0 : Int32) q st lm en ts sl sv := PFs_set_settledCount hw W17 h8
  have h19 : Vec Z h17 po .long (2 : Int32) (longs (lst [p0, p1])) := h9.other W17 (ndq ND 5 0 rfl)
  have h20 : Vec Z h17 di .long (2 : Int32) (longs (lst [d0, d1])) := h10.other W17 (ndq ND 6 0 rfl)
  have h21 : Vec Z h17 ma .int (2 : Int32) (ints (lst [m0, m1])) := h11.other W17 (ndq ND 7 0 rfl)
  have h22 : Vec Z h17 se .int (2 : Int32) (ints (lst [s0, s1])) := h12.other W17 (ndq ND 8 0 rfl)
  have h23 : QF Z h17 q ks js ss kf jf sz KF JF sn la := h13.other W17 (ndq ND 1 0 rfl) (ndq ND 2 0 rfl) (ndq ND 3 0 rfl) (ndq ND 4 0 rfl) N_ps
  have h24 : SV Z h17 ps q ks js ss po di ma se kf jf n0 sv w0 w1 := h14.other W17 (mq 0 rfl)
  have h25 : Vec Z h17 src .int (2 : Int32) (ints (lst [u0, u1])) := h15.other W17 (Ne.symm (out_src _ (mq 0 rfl)))
  have h26 : Vec Z h17 ea .long (2 : Int32) (longs (lst [p0, p1])) := h16.other W17 (Ne.symm (out_ea _ (mq 0 rfl)))
  have K17 : Lk h0 h17 := K7.wr W17
  have N17 := Fr.snoc X17 N7 G_ps
  refine Go.st st17 ?_
  show Go p e below s Q 1 2 (T17.setTop (mkF m 15 #[vr ps, vr src, vi cn, un] []))
  refine gA X17 hx hby rfl d5_15 rfl rfl ?_
  refine gI X17 hx hby rfl d5_16 ?_
  obtain ⟨T27, h27, X27, e27, W27, st27⟩ := putF X17 hx hZ hown (host := "") (Or.inl (tb hw 59 rfl)) Via.refl e17 h18.2.2.2.2.2.2.2.2.1 h18.1 (Or.inl (tb hw 60 rfl)) (tb hw 1 rfl) (ty := .int) (by decide) rfl rfl (g := (mkF m 17 #[vr ps, vr src, vi cn, un] [(.int (0 : Int32)), (.ref ps)])) rfl rfl (hb hby d5_17)
  have h28 : PFs Z h27 ps po (mk + (2 : Int32)) di ma se (0 : Int32) q st lm en ts sl sv := PFs_set_readyCount hw W27 h18
  have h29 : Vec Z h27 po .long (2 : Int32) (longs (lst [p0, p1])) := h19.other W27 (ndq ND 5 0 rfl)
  have h30 : Vec Z h27 di .long (2 : Int32) (longs (lst [d0, d1])) := h20.other W27 (ndq ND 6 0 rfl)
  have h31 : Vec Z h27 ma .int (2 : Int32) (ints (lst [m0, m1])) := h21.other W27 (ndq ND 7 0 rfl)
  have h32 : Vec Z h27 se .int (2 : Int32) (ints (lst [s0, s1])) := h22.other W27 (ndq ND 8 0 rfl)
  have h33 : QF Z h27 q ks js ss kf jf sz KF JF sn la := h23.other W27 (ndq ND 1 0 rfl) (ndq ND 2 0 rfl) (ndq ND 3 0 rfl) (ndq ND 4 0 rfl) N_ps
  have h34 : SV Z h27 ps q ks js ss po di ma se kf jf n0 sv w0 w1 := h24.other W27 (mq 0 rfl)
  have h35 : Vec Z h27 src .int (2 : Int32) (ints (lst [u0, u1])) := h25.other W27 (Ne.symm (out_src _ (mq 0 rfl)))
  have h36 : Vec Z h27 ea .long (2 : Int32) (longs (lst [p0, p1])) := h26.other W27 (Ne.symm (out_ea _ (mq 0 rfl)))
  have K27 : Lk h0 h27 := K17.wr W27
  have N27 := Fr.snoc X27 N17 G_ps
  refine Go.st st27 ?_
  show Go p e below s Q 1 2 (T27.setTop (mkF m 20 #[vr ps, vr src, vi cn, un] []))
  refine gA X27 hx hby rfl d5_20 rfl rfl ?_
  obtain ⟨T37, X37, e37, st37⟩ := getF X27 hx hZ hown (host := "") (Or.inl (tb hw 33 rfl)) Via.refl e27 h28.2.2.2.2.2.2.2.1 (g := (mkF m 21 #[vr ps, vr src, vi cn, un] [(.ref ps)])) rfl rfl (hb hby d5_21)
  refine Go.st st37 ?_
  obtain ⟨h39, h40, h41, h42, h43, h44, h45, h46, h47, h48, h49⟩ := h33
  have f50 := rng32 sn
  have f51 := rng64 la
  obtain ⟨cq38, kq38, q38a, q38b, q38c⟩ := isOf hZ e37 h39
  obtain ⟨_, _, ⟨T38, L38, k38, n38⟩, -, X38, ⟨Lc38, hQ38, l38, y38, z38⟩, st38⟩ := X37.virtualBack hx (y := (⟨cR, "clear", "()V"⟩ : MethodName)) (z := (⟨cR, "clear", "()V"⟩ : MethodName)) hown (mvT hZ (tb hw 61 rfl)) (mvT hZ (tb hw 62 rfl)) (notFace_of_selects (args := #[]) (mvT hZ (tb hw 64 rfl))) (mvT hZ (tb hw 64 rfl)) (mvT hZ (tb hw 63 rfl)) (by decide) (backOf (W := 0) (rm6 l Z a0 hw [] q ks js ss kf jf sz KF JF sn la h27 n0 (Nat.le_trans Z0 K27.1) h39 h40 h41 h42 h43 h44 h45 h46 h47 h48 h49 Ik Ij GR G_q G_ss N_q N_ks N_js N_ss (ndq ND 1 4 rfl) (ndq ND 2 4 rfl) (ndq ND 3 4 rfl) (ndq ND 2 1 rfl) (ndq ND 3 1 rfl)) hZ (tb hw 65 rfl) (tb hw 11 rfl) (by decide) (by decide)) q38a q38c (g := (mkF m 24 #[vr ps, vr src, vi cn, un] [(.ref q)])) rfl (by rw [hml]; rfl) (Steps.refl _) (argsL := []) (rest := []) (lenOf pd_5 rfl) rfl (by show 2 * 0 + _ ≤ _; exact Nat.le_of_eq rfl) (hb hby d5_24) (fun _ _ => ⟨rfl, e37, (by decide : 0 + 0 ≤ _), (by decide : 0 + 0 ≤ _)⟩)
  dsimp only [Pt.U, Pt.locs, Pt.cells, Pt.slots] at X38 l38 y38 z38 st38 hQ38
  subst y38 z38
  obtain ⟨s2_52, rfl, N38q, f53, K38q, h54, h55, h56, h57, h58, h59, h60, h61, h62, h63, h64⟩ := hQ38
  have N38 : Fr n0 L38 := by rw [l38]; exact Fr.app N27 N38q
  have h65 : PFs Z T38.heap ps po (mk + (2 : Int32)) di ma se (0 : Int32) q st lm en ts sl sv := h28.keep K38q (ninS (ndq ND 0 1 rfl) (ninS (ndq ND 0 4 rfl) nin0))
  have h66 : Vec Z T38.heap po .long (2 : Int32) (longs (lst [p0, p1])) := h29.keep K38q (ninS (ndq ND 5 1 rfl) (ninS (ndq ND 5 4 rfl) nin0))
  have h67 : Vec Z T38.heap di .long (2 : Int32) (longs (lst [d0, d1])) := h30.keep K38q (ninS (ndq ND 6 1 rfl) (ninS (ndq ND 6 4 rfl) nin0))
  have h68 : Vec Z T38.heap ma .int (2 : Int32) (ints (lst [m0, m1])) := h31.keep K38q (ninS (ndq ND 7 1 rfl) (ninS (ndq ND 7 4 rfl) nin0))
  have h69 : Vec Z T38.heap se .int (2 : Int32) (ints (lst [s0, s1])) := h32.keep K38q (ninS (ndq ND 8 1 rfl) (ninS (ndq ND 8 4 rfl) nin0))
  have h70 : SV Z T38.heap ps q ks js ss po di ma se kf jf n0 sv w0 w1 := h34.keep K38q (svB (allS (mq 1 rfl) (allS (mq 4 rfl) all0)))
  have h71 : Vec Z T38.heap src .int (2 : Int32) (ints (lst [u0, u1])) := h35.keep K38q (ninS (Ne.symm (out_src _ (mq 1 rfl))) (ninS (Ne.symm (out_src _ (mq 4 rfl))) nin0))
  have h72 : Vec Z T38.heap ea .long (2 : Int32) (longs (lst [p0, p1])) := h36.keep K38q (ninS (Ne.symm (out_ea _ (mq 1 rfl))) (ninS (Ne.symm (out_ea _ (mq 4 rfl))) nin0))
  have K38 : Lk h0 T38.heap := K27.trans K38q.1
  have h73 : QF Z T38.heap q ks js ss kf jf s2_52 KF JF (0 : Int32) (-9223372036854775808 : Int64) := ⟨h54, h55, h56, h57, h58, h59, h60, h61, h62, h63, h64⟩
  refine Go.tr  st38 ?_
  show Go p e below s Q 1 2 (T38.setTop (mkF m 27 #[vr ps, vr src, vi cn, un] []))
  refine gA X38 hx hby rfl d5_27 rfl rfl ?_
  refine Go.st (X38.ldc2Long hx hown (mvT hZ (tb hw 72 rfl)) (g := (mkF m 28 #[vr ps, vr src, vi cn, un] [(.ref ps)])) rfl (hb hby d5_28)) ?_
  show Go p e below s Q 1 2 (T38.setTop (mkF m 31 #[vr ps, vr src, vi cn, un] [(.long (9223372036854775807 : Int64)), (.ref ps)]))
  obtain ⟨T74, h74, X74, e74, W74, st74⟩ := putF X38 hx hZ hown (host := "") (Or.inl (tb hw 73 rfl)) Via.refl rfl h65.2.2.2.2.2.2.2.2.2.1 h65.1 (Or.inl (tb hw 74 rfl)) (tb hw 1 rfl) (ty := .long) (by decide) rfl rfl (g := (mkF m 31 #[vr ps, vr src, vi cn, un] [(.long (9223372036854775807 : Int64)), (.ref ps)])) rfl rfl (hb hby d5_31)
  have h75 : PFs Z h74 ps po (mk + (2 : Int32)) di ma se (0 : Int32) q (9223372036854775807 : Int64) lm en ts sl sv := PFs_set_settling hw W74 h65
  have h76 : Vec Z h74 po .long (2 : Int32) (longs (lst [p0, p1])) := h66.other W74 (ndq ND 5 0 rfl)
  have h77 : Vec Z h74 di .long (2 : Int32) (longs (lst [d0, d1])) := h67.other W74 (ndq ND 6 0 rfl)
  have h78 : Vec Z h74 ma .int (2 : Int32) (ints (lst [m0, m1])) := h68.other W74 (ndq ND 7 0 rfl)
  have h79 : Vec Z h74 se .int (2 : Int32) (ints (lst [s0, s1])) := h69.other W74 (ndq ND 8 0 rfl)
  have h80 : SV Z h74 ps q ks js ss po di ma se kf jf n0 sv w0 w1 := h70.other W74 (mq 0 rfl)
  have h81 : Vec Z h74 src .int (2 : Int32) (ints (lst [u0, u1])) := h71.other W74 (Ne.symm (out_src _ (mq 0 rfl)))
  have h82 : Vec Z h74 ea .long (2 : Int32) (longs (lst [p0, p1])) := h72.other W74 (Ne.symm (out_ea _ (mq 0 rfl)))
  have h83 : QF Z h74 q ks js ss kf jf s2_52 KF JF (0 : Int32) (-9223372036854775808 : Int64) := h73.other W74 (ndq ND 1 0 rfl) (ndq ND 2 0 rfl) (ndq ND 3 0 rfl) (ndq ND 4 0 rfl) N_ps
  have K74 : Lk h0 h74 := K38.wr W74
  have N74 := Fr.snoc X74 N38 G_ps
  refine Go.st st74 ?_
  show Go p e below s Q 1 2 (T74.setTop (mkF m 34 #[vr ps, vr src, vi cn, un] []))
  refine gA X74 hx hby rfl d5_34 rfl rfl ?_
  refine Go.st (X74.ldc2Long hx hown (mvT hZ (tb hw 72 rfl)) (g := (mkF m 35 #[vr ps, vr src, vi cn, un] [(.ref ps)])) rfl (hb hby d5_35)) ?_
  show Go p e below s Q 1 2 (T74.setTop (mkF m 38 #[vr ps, vr src, vi cn, un] [(.long (9223372036854775807 : Int64)), (.ref ps)]))
  obtain ⟨T84, h84, X84, e84, W84, st84⟩ := putF X74 hx hZ hown (host := "") (Or.inl (tb hw 75 rfl)) Via.refl e74 h75.2.2.2.2.2.2.2.2.2.2.1 h75.1 (Or.inl (tb hw 76 rfl)) (tb hw 1 rfl) (ty := .long) (by decide) rfl rfl (g := (mkF m 38 #[vr ps, vr src, vi cn, un] [(.long (9223372036854775807 : Int64)), (.ref ps)])) rfl rfl (hb hby d5_38)
  have h85 : PFs Z h84 ps po (mk + (2 : Int32)) di ma se (0 : Int32) q (9223372036854775807 : Int64) (9223372036854775807 : Int64) en ts sl sv := PFs_set_limit hw W84 h75
  have h86 : Vec Z h84 po .long (2 : Int32) (longs (lst [p0, p1])) := h76.other W84 (ndq ND 5 0 rfl)
  have h87 : Vec Z h84 di .long (2 : Int32) (longs (lst [d0, d1])) := h77.other W84 (ndq ND 6 0 rfl)
  have h88 : Vec Z h84 ma .int (2 : Int32) (ints (lst [m0, m1])) := h78.other W84 (ndq ND 7 0 rfl)
  have h89 : Vec Z h84 se .int (2 : Int32) (ints (lst [s0, s1])) := h79.other W84 (ndq ND 8 0 rfl)
  have h90 : SV Z h84 ps q ks js ss po di ma se kf jf n0 sv w0 w1 := h80.other W84 (mq 0 rfl)
  have h91 : Vec Z h84 src .int (2 : Int32) (ints (lst [u0, u1])) := h81.other W84 (Ne.symm (out_src _ (mq 0 rfl)))
  have h92 : Vec Z h84 ea .long (2 : Int32) (longs (lst [p0, p1])) := h82.other W84 (Ne.symm (out_ea _ (mq 0 rfl)))
  have h93 : QF Z h84 q ks js ss kf jf s2_52 KF JF (0 : Int32) (-9223372036854775808 : Int64) := h83.other W84 (ndq ND 1 0 rfl) (ndq ND 2 0 rfl) (ndq ND 3 0 rfl) (ndq ND 4 0 rfl) N_ps
  have K84 : Lk h0 h84 := K74.wr W84
  have N84 := Fr.snoc X84 N74 G_ps
  refine Go.st st84 ?_
  show Go p e below s Q 1 2 (T84.setTop (mkF m 41 #[vr ps, vr src, vi cn, un] []))
  refine gA X84 hx hby rfl d5_41 rfl rfl ?_
  show Go p e below s Q 1 2 (T84.setTop (mkF m 42 #[vr ps, vr src, vi cn, un] [(.ref ps)]))
  have cs94 : cn.toInt = 1 ∨ cn.toInt = 2 := by omega
  rcases cs94 with cs95 | cs96
  ·
    have cs95' : cn = (1 : Int32) := eqI cs95 liI_1 rfl
    subst cs95'
    have f97 := liI_1
    show Go p e below s Q 1 2 (T84.setTop (mkF m 42 #[vr ps, vr src, vi (1 : Int32), un] [(.ref ps)]))
    refine gC X84 hx hby rfl d5_42 rfl ?_
    refine gI X84 hx hby rfl d5_43 ?_
    refine gM X84 hx hby rfl d5_44 rfl (teq (eqI liI_1 liI_1 (by decide))).2 ?_
    refine gA X84 hx hby rfl d5_47 rfl rfl ?_
    refine gI X84 hx hby rfl d5_48 ?_
    refine Go.st (Vec.ildI X84 hx hZ e84 h91 (j := (0 : Int32)) (by decide) (by decide) (g := (mkF m 49 #[vr ps, vr src, vi (1 : Int32), un] [(.int (0 : Int32)), (.ref src), (.ref ps)])) rfl rfl (hb hby d5_49)) ?_
    show Go p e below s Q 1 2 (T84.setTop (mkF m 50 #[vr ps, vr src, vi (1 : Int32), un] [(.int u0), (.ref ps)]))
    refine gG X84 hx hby rfl (pc0 := 50) (pc' := 54) rfl d5_50 (by decide) (by decide) ?_
    obtain ⟨T99, h99, X99, e99, W99, st99⟩ := putF X84 hx hZ hown (host := "") (Or.inl (tb hw 77 rfl)) Via.refl e84 h85.2.2.2.2.2.2.2.2.2.2.2.1 h85.1 (Or.inl (tb hw 78 rfl)) (tb hw 1 rfl) (ty := .int) (by decide) rfl rfl (g := (mkF m 54 #[vr ps, vr src, vi (1 : Int32), un] [(.int u0), (.ref ps)])) rfl rfl (hb hby d5_54)
    have h100 : PFs Z h99 ps po (mk + (2 : Int32)) di ma se (0 : Int32) q (9223372036854775807 : Int64) (9223372036854775807 : Int64) u0 ts sl sv := PFs_set_end hw W99 h85
    have h101 : Vec Z h99 po .long (2 : Int32) (longs (lst [p0, p1])) := h86.other W99 (ndq ND 5 0 rfl)
    have h102 : Vec Z h99 di .long (2 : Int32) (longs (lst [d0, d1])) := h87.other W99 (ndq ND 6 0 rfl)
    have h103 : Vec Z h99 ma .int (2 : Int32) (ints (lst [m0, m1])) := h88.other W99 (ndq ND 7 0 rfl)
    have h104 : Vec Z h99 se .int (2 : Int32) (ints (lst [s0, s1])) := h89.other W99 (ndq ND 8 0 rfl)
    have h105 : SV Z h99 ps q ks js ss po di ma se kf jf n0 sv w0 w1 := h90.other W99 (mq 0 rfl)
    have h106 : Vec Z h99 src .int (2 : Int32) (ints (lst [u0, u1])) := h91.other W99 (Ne.symm (out_src _ (mq 0 rfl)))
    have h107 : Vec Z h99 ea .long (2 : Int32) (longs (lst [p0, p1])) := h92.other W99 (Ne.symm (out_ea _ (mq 0 rfl)))
    have h108 : QF Z h99 q ks js ss kf jf s2_52 KF JF (0 : Int32) (-9223372036854775808 : Int64) := h93.other W99 (ndq ND 1 0 rfl) (ndq ND 2 0 rfl) (ndq ND 3 0 rfl) (ndq ND 4 0 rfl) N_ps
    have K99 : Lk h0 h99 := K84.wr W99
    have N99 := Fr.snoc X99 N84 G_ps
    refine Go.st st99 ?_
    show Go p e below s Q 1 2 (T99.setTop (mkF m 57 #[vr ps, vr src, vi (1 : Int32), un] []))
    refine gA X99 hx hby rfl d5_57 rfl rfl ?_
    refine gC X99 hx hby rfl d5_58 rfl ?_
    refine gI X99 hx hby rfl d5_59 ?_
    refine gZ X99 hx hby rfl (pc0 := 60) (pc' := 67) rfl d5_60 rfl (flt (nltI liI_1 liI_1 (by decide))).2.2.2 (by decide) (by decide) ?_
    refine gI X99 hx hby rfl d5_67 ?_
    obtain ⟨T109, h109, X109, e109, W109, st109⟩ := putFN X99 hx hZ hown (tb hw 79 rfl) Via.refl e99 h100.2.2.2.2.2.2.2.2.2.2.2.2.1 h100.1 (Or.inl (tb hw 80 rfl)) (tb hw 1 rfl) (ty := .boolean) (v' := (.int (0 : Int32))) (by decide) (by decide) rfl (g := (mkF m 68 #[vr ps, vr src, vi (1 : Int32), un] [(.int (0 : Int32)), (.ref ps)])) rfl rfl (hb hby d5_68)
    have h110 : PFs Z h109 ps po (mk + (2 : Int32)) di ma se (0 : Int32) q (9223372036854775807 : Int64) (9223372036854775807 : Int64) u0 (0 : Int32) sl sv := PFs_set_toSources hw W109 h100
    have h111 : Vec Z h109 po .long (2 : Int32) (longs (lst [p0, p1])) := h101.other W109 (ndq ND 5 0 rfl)
    have h112 : Vec Z h109 di .long (2 : Int32) (longs (lst [d0, d1])) := h102.other W109 (ndq ND 6 0 rfl)
    have h113 : Vec Z h109 ma .int (2 : Int32) (ints (lst [m0, m1])) := h103.other W109 (ndq ND 7 0 rfl)
    have h114 : Vec Z h109 se .int (2 : Int32) (ints (lst [s0, s1])) := h104.other W109 (ndq ND 8 0 rfl)
    have h115 : SV Z h109 ps q ks js ss po di ma se kf jf n0 sv w0 w1 := h105.other W109 (mq 0 rfl)
    have h116 : Vec Z h109 src .int (2 : Int32) (ints (lst [u0, u1])) := h106.other W109 (Ne.symm (out_src _ (mq 0 rfl)))
    have h117 : Vec Z h109 ea .long (2 : Int32) (longs (lst [p0, p1])) := h107.other W109 (Ne.symm (out_ea _ (mq 0 rfl)))
    have h118 : QF Z h109 q ks js ss kf jf s2_52 KF JF (0 : Int32) (-9223372036854775808 : Int64) := h108.other W109 (ndq ND 1 0 rfl) (ndq ND 2 0 rfl) (ndq ND 3 0 rfl) (ndq ND 4 0 rfl) N_ps
    have K109 : Lk h0 h109 := K99.wr W109
    have N109 := Fr.snoc X109 N99 G_ps
    refine Go.st st109 ?_
    show Go p e below s Q 1 2 (T109.setTop (mkF m 71 #[vr ps, vr src, vi (1 : Int32), un] []))
    refine gA X109 hx hby rfl d5_71 rfl rfl ?_
    refine gI X109 hx hby rfl d5_72 ?_
    obtain ⟨T119, h119, X119, e119, W119, st119⟩ := putF X109 hx hZ hown (host := "") (Or.inl (tb hw 81 rfl)) Via.refl e109 h110.2.2.2.2.2.2.2.2.2.2.2.2.2.1 h110.1 (Or.inl (tb hw 82 rfl)) (tb hw 1 rfl) (ty := .int) (by decide) rfl rfl (g := (mkF m 73 #[vr ps, vr src, vi (1 : Int32), un] [(.int (0 : Int32)), (.ref ps)])) rfl rfl (hb hby d5_73)
    have h120 : PFs Z h119 ps po (mk + (2 : Int32)) di ma se (0 : Int32) q (9223372036854775807 : Int64) (9223372036854775807 : Int64) u0 (0 : Int32) (0 : Int32) sv := PFs_set_sourcesLeft hw W119 h110
    have h121 : Vec Z h119 po .long (2 : Int32) (longs (lst [p0, p1])) := h111.other W119 (ndq ND 5 0 rfl)
    have h122 : Vec Z h119 di .long (2 : Int32) (longs (lst [d0, d1])) := h112.other W119 (ndq ND 6 0 rfl)
    have h123 : Vec Z h119 ma .int (2 : Int32) (ints (lst [m0, m1])) := h113.other W119 (ndq ND 7 0 rfl)
    have h124 : Vec Z h119 se .int (2 : Int32) (ints (lst [s0, s1])) := h114.other W119 (ndq ND 8 0 rfl)
    have h125 : SV Z h119 ps q ks js ss po di ma se kf jf n0 sv w0 w1 := h115.other W119 (mq 0 rfl)
    have h126 : Vec Z h119 src .int (2 : Int32) (ints (lst [u0, u1])) := h116.other W119 (Ne.symm (out_src _ (mq 0 rfl)))
    have h127 : Vec Z h119 ea .long (2 : Int32) (longs (lst [p0, p1])) := h117.other W119 (Ne.symm (out_ea _ (mq 0 rfl)))
    have h128 : QF Z h119 q ks js ss kf jf s2_52 KF JF (0 : Int32) (-9223372036854775808 : Int64) := h118.other W119 (ndq ND 1 0 rfl) (ndq ND 2 0 rfl) (ndq ND 3 0 rfl) (ndq ND 4 0 rfl) N_ps
    have K119 : Lk h0 h119 := K109.wr W119
    have N119 := Fr.snoc X119 N109 G_ps
    refine Go.st st119 ?_
    show Go p e below s Q 1 2 (T119.setTop (mkF m 76 #[vr ps, vr src, vi (1 : Int32), un] []))
    refine gA X119 hx hby rfl d5_76 rfl rfl ?_
    obtain ⟨T129, X129, e129, st129⟩ := getF X119 hx hZ hown (host := "") (Or.inl (tb hw 79 rfl)) Via.refl e119 h120.2.2.2.2.2.2.2.2.2.2.2.2.1 (g := (mkF m 77 #[vr ps, vr src, vi (1 : Int32), un] [(.ref ps)])) rfl rfl (hb hby d5_77)
    refine Go.st st129 ?_
    refine gN X129 hx hby rfl d5_80 rfl ((if0 _ _).trans (teq (eqI liI_0 liI_0 (by decide))).2) ?_
    show Go p e below s Q 1 2 (T129.setTop (mkF m 83 #[vr ps, vr src, vi (1 : Int32), un] []))
    have hO130 : PSt Z h119 ps q ks js ss po di ma se kf jf (mk + (2 : Int32)) (0 : Int32) u0 (0 : Int32) (0 : Int32) (9223372036854775807 : Int64) (9223372036854775807 : Int64) p0 p1 d0 d1 m0 m1 s0 s1 s2_52 KF JF (0 : Int32) (-9223372036854775808 : Int64) sv := ⟨h120, h121, h122, h123, h124, h128⟩
    exact Go.retV X129 hx hlk Bd.returns (hb hby d5_83) (by rw [← hQ, e129]; exact ⟨(mk + (2 : Int32)), u0, (0 : Int32), (0 : Int32), s2_52, sv, w0, w1, rfl, N119, (by omega), (by exact f53), (by exact Or.inl ⟨by decide, by omega, by decide⟩), (by exact Or.inl ⟨by decide, rfl, by decide⟩), (by exact fun q => absurd q (by decide)), K119, hO130, h125, h126, h127⟩) (by decide) (by decide)
  ·
    have cs96' : cn = (2 : Int32) := eqI cs96 liI_2 rfl
    subst cs96'
    show Go p e below s Q 1 2 (T84.setTop (mkF m 42 #[vr ps, vr src, vi (2 : Int32), un] [(.ref ps)]))
    refine gC X84 hx hby rfl d5_42 rfl ?_
    refine gI X84 hx hby rfl d5_43 ?_
    refine gZ X84 hx hby rfl (pc0 := 44) (pc' := 53) rfl d5_44 rfl (feq (neI liI_2 liI_1 (by decide))).2 (by decide) (by decide) ?_
    refine gI X84 hx hby rfl d5_53 ?_
    obtain ⟨T131, h131, X131, e131, W131, st131⟩ := putF X84 hx hZ hown (host := "") (Or.inl (tb hw 77 rfl)) Via.refl e84 h85.2.2.2.2.2.2.2.2.2.2.2.1 h85.1 (Or.inl (tb hw 78 rfl)) (tb hw 1 rfl) (ty := .int) (by decide) rfl rfl (g := (mkF m 54 #[vr ps, vr src, vi (2 : Int32), un] [(.int (-1 : Int32)), (.ref ps)])) rfl rfl (hb hby d5_54)
    have h132 : PFs Z h131 ps po (mk + (2 : Int32)) di ma se (0 : Int32) q (9223372036854775807 : Int64) (9223372036854775807 : Int64) (-1 : Int32) ts sl sv := PFs_set_end hw W131 h85
    have h133 : Vec Z h131 po .long (2 : Int32) (longs (lst [p0, p1])) := h86.other W131 (ndq ND 5 0 rfl)
    have h134 : Vec Z h131 di .long (2 : Int32) (longs (lst [d0, d1])) := h87.other W131 (ndq ND 6 0 rfl)
    have h135 : Vec Z h131 ma .int (2 : Int32) (ints (lst [m0, m1])) := h88.other W131 (ndq ND 7 0 rfl)
    have h136 : Vec Z h131 se .int (2 : Int32) (ints (lst [s0, s1])) := h89.other W131 (ndq ND 8 0 rfl)
    have h137 : SV Z h131 ps q ks js ss po di ma se kf jf n0 sv w0 w1 := h90.other W131 (mq 0 rfl)
    have h138 : Vec Z h131 src .int (2 : Int32) (ints (lst [u0, u1])) := h91.other W131 (Ne.symm (out_src _ (mq 0 rfl)))
    have h139 : Vec Z h131 ea .long (2 : Int32) (longs (lst [p0, p1])) := h92.other W131 (Ne.symm (out_ea _ (mq 0 rfl)))
    have h140 : QF Z h131 q ks js ss kf jf s2_52 KF JF (0 : Int32) (-9223372036854775808 : Int64) := h93.other W131 (ndq ND 1 0 rfl) (ndq ND 2 0 rfl) (ndq ND 3 0 rfl) (ndq ND 4 0 rfl) N_ps
    have K131 : Lk h0 h131 := K84.wr W131
    have N131 := Fr.snoc X131 N84 G_ps
    refine Go.st st131 ?_
    show Go p e below s Q 1 2 (T131.setTop (mkF m 57 #[vr ps, vr src, vi (2 : Int32), un] []))
    refine gA X131 hx hby rfl d5_57 rfl rfl ?_
    refine gC X131 hx hby rfl d5_58 rfl ?_
    refine gI X131 hx hby rfl d5_59 ?_
    refine gM X131 hx hby rfl d5_60 rfl (tlt (ltI liI_1 liI_2 (by decide))).2.2.2 ?_
    refine gI X131 hx hby rfl d5_63 ?_
    refine gG X131 hx hby rfl (pc0 := 64) (pc' := 68) rfl d5_64 (by decide) (by decide) ?_
    show Go p e below s Q 1 2 (T131.setTop (mkF m 68 #[vr ps, vr src, vi (2 : Int32), un] [(.int (1 : Int32)), (.ref ps)]))
    obtain ⟨T141, h141, X141, e141, W141, st141⟩ := putFN X131 hx hZ hown (tb hw 79 rfl) Via.refl e131 h132.2.2.2.2.2.2.2.2.2.2.2.2.1 h132.1 (Or.inl (tb hw 80 rfl)) (tb hw 1 rfl) (ty := .boolean) (v' := (.int (1 : Int32))) (by decide) (by decide) rfl (g := (mkF m 68 #[vr ps, vr src, vi (2 : Int32), un] [(.int (1 : Int32)), (.ref ps)])) rfl rfl (hb hby d5_68)
    have h142 : PFs Z h141 ps po (mk + (2 : Int32)) di ma se (0 : Int32) q (9223372036854775807 : Int64) (9223372036854775807 : Int64) (-1 : Int32) (1 : Int32) sl sv := PFs_set_toSources hw W141 h132
    have h143 : Vec Z h141 po .long (2 : Int32) (longs (lst [p0, p1])) := h133.other W141 (ndq ND 5 0 rfl)
    have h144 : Vec Z h141 di .long (2 : Int32) (longs (lst [d0, d1])) := h134.other W141 (ndq ND 6 0 rfl)
    have h145 : Vec Z h141 ma .int (2 : Int32) (ints (lst [m0, m1])) := h135.other W141 (ndq ND 7 0 rfl)
    have h146 : Vec Z h141 se .int (2 : Int32) (ints (lst [s0, s1])) := h136.other W141 (ndq ND 8 0 rfl)
    have h147 : SV Z h141 ps q ks js ss po di ma se kf jf n0 sv w0 w1 := h137.other W141 (mq 0 rfl)
    have h148 : Vec Z h141 src .int (2 : Int32) (ints (lst [u0, u1])) := h138.other W141 (Ne.symm (out_src _ (mq 0 rfl)))
    have h149 : Vec Z h141 ea .long (2 : Int32) (longs (lst [p0, p1])) := h139.other W141 (Ne.symm (out_ea _ (mq 0 rfl)))
    have h150 : QF Z h141 q ks js ss kf jf s2_52 KF JF (0 : Int32) (-9223372036854775808 : Int64) := h140.other W141 (ndq ND 1 0 rfl) (ndq ND 2 0 rfl) (ndq ND 3 0 rfl) (ndq ND 4 0 rfl) N_ps
    have K141 : Lk h0 h141 := K131.wr W141
    have N141 := Fr.snoc X141 N131 G_ps
    refine Go.st st141 ?_
    show Go p e below s Q 1 2 (T141.setTop (mkF m 71 #[vr ps, vr src, vi (2 : Int32), un] []))
    refine gA X141 hx hby rfl d5_71 rfl rfl ?_
    refine gI X141 hx hby rfl d5_72 ?_
    obtain ⟨T151, h151, X151, e151, W151, st151⟩ := putF X141 hx hZ hown (host := "") (Or.inl (tb hw 81 rfl)) Via.refl e141 h142.2.2.2.2.2.2.2.2.2.2.2.2.2.1 h142.1 (Or.inl (tb hw 82 rfl)) (tb hw 1 rfl) (ty := .int) (by decide) rfl rfl (g := (mkF m 73 #[vr ps, vr src, vi (2 : Int32), un] [(.int (0 : Int32)), (.ref ps)])) rfl rfl (hb hby d5_73)
    have h152 : PFs Z h151 ps po (mk + (2 : Int32)) di ma se (0 : Int32) q (9223372036854775807 : Int64) (9223372036854775807 : Int64) (-1 : Int32) (1 : Int32) (0 : Int32) sv := PFs_set_sourcesLeft hw W151 h142
    have h153 : Vec Z h151 po .long (2 : Int32) (longs (lst [p0, p1])) := h143.other W151 (ndq ND 5 0 rfl)
    have h154 : Vec Z h151 di .long (2 : Int32) (longs (lst [d0, d1])) := h144.other W151 (ndq ND 6 0 rfl)
    have h155 : Vec Z h151 ma .int (2 : Int32) (ints (lst [m0, m1])) := h145.other W151 (ndq ND 7 0 rfl)
    have h156 : Vec Z h151 se .int (2 : Int32) (ints (lst [s0, s1])) := h146.other W151 (ndq ND 8 0 rfl)
    have h157 : SV Z h151 ps q ks js ss po di ma se kf jf n0 sv w0 w1 := h147.other W151 (mq 0 rfl)
    have h158 : Vec Z h151 src .int (2 : Int32) (ints (lst [u0, u1])) := h148.other W151 (Ne.symm (out_src _ (mq 0 rfl)))
    have h159 : Vec Z h151 ea .long (2 : Int32) (longs (lst [p0, p1])) := h149.other W151 (Ne.symm (out_ea _ (mq 0 rfl)))
    have h160 : QF Z h151 q ks js ss kf jf s2_52 KF JF (0 : Int32) (-9223372036854775808 : Int64) := h150.other W151 (ndq ND 1 0 rfl) (ndq ND 2 0 rfl) (ndq ND 3 0 rfl) (ndq ND 4 0 rfl) N_ps
    have K151 : Lk h0 h151 := K141.wr W151
    have N151 := Fr.snoc X151 N141 G_ps
    refine Go.st st151 ?_
    show Go p e below s Q 1 2 (T151.setTop (mkF m 76 #[vr ps, vr src, vi (2 : Int32), un] []))
    refine gA X151 hx hby rfl d5_76 rfl rfl ?_
    obtain ⟨T161, X161, e161, st161⟩ := getF X151 hx hZ hown (host := "") (Or.inl (tb hw 79 rfl)) Via.refl e151 h152.2.2.2.2.2.2.2.2.2.2.2.2.1 (g := (mkF m 77 #[vr ps, vr src, vi (2 : Int32), un] [(.ref ps)])) rfl rfl (hb hby d5_77)
    refine Go.st st161 ?_
    refine gY X161 hx hby rfl (pc0 := 80) (pc' := 84) rfl d5_80 rfl ((if0 _ _).trans (feq (neI liI_1 liI_0 (by decide))).2) (by decide) (by decide) ?_
    show Go p e below s Q 1 2 (T161.setTop (mkF m 84 #[vr ps, vr src, vi (2 : Int32), un] []))
    rcases h157.1 with hsv | ⟨so, hsv⟩
    ·
      subst hsv
      show Go p e below s Q 1 2 (T161.setTop (mkF m 84 #[vr ps, vr src, vi (2 : Int32), un] []))
      refine gA X161 hx hby rfl d5_84 rfl rfl ?_
      obtain ⟨T162, X162, e162, st162⟩ := getF X161 hx hZ hown (host := "") (Or.inl (tb hw 153 rfl)) Via.refl e161 h152.2.2.2.2.2.2.2.2.2.2.2.2.2.2 (g := (mkF m 85 #[vr ps, vr src, vi (2 : Int32), un] [(.ref ps)])) rfl rfl (hb hby d5_85)
      refine Go.st st162 ?_
      refine Go.st (fun _ k => XS.ifnonnullNo X162.here hx rfl (hb hby d5_88) rfl k) ?_
      refine gA X162 hx hby rfl d5_91 rfl rfl ?_
      refine gA X162 hx hby rfl d5_92 rfl rfl ?_
      obtain ⟨T163, X163, e163, st163⟩ := getF X162 hx hZ hown (host := "") (Or.inl (tb hw 39 rfl)) Via.refl e162 h152.2.2.2.2.1 (g := (mkF m 93 #[vr ps, vr src, vi (2 : Int32), un] [(.ref ps), (.ref ps)])) rfl rfl (hb hby d5_93)
      refine Go.st st163 ?_
      show Go p e below s Q 1 2 (T163.setTop (mkF m 96 #[vr ps, vr src, vi (2 : Int32), un] [(.ref ma), (.ref ps)]))
      refine Go.st (Vec.len X163 hx hZ e163 h155 (g := (mkF m 96 #[vr ps, vr src, vi (2 : Int32), un] [(.ref ma), (.ref ps)])) rfl rfl (hb hby d5_96)) ?_
      have r166 : 0 ≤ (2 : Int32).toInt := by decide
      have r167 : (2 : Int32).toNatClampNeg ≤ 2 := by decide
      obtain ⟨T165, h165, k165, X165, e165, E165, A165, B165, st165⟩ := newPE X163 hx hZ (tb hw 24 rfl) e163 (g := (mkF m 97 #[vr ps, vr src, vi (2 : Int32), un] [(.int (2 : Int32)), (.ref ps)])) rfl (hb hby d5_97) rfl (not_neg r166) (cap := 2) r167 (by decide) (by decide) (by decide) (ad := "[I") (by decide)
      obtain ⟨b165, g165⟩ : ∃ z, z = h151.size := ⟨_, rfl⟩
      rw [← g165] at A165 B165 st165
      have q168 : Hid (ps ≠ b165) := Nat.ne_of_lt (Nat.lt_of_lt_of_le h152.1.lt (Nat.le_of_eq g165.symm))
      have q169 : Hid (q ≠ b165) := Nat.ne_of_lt (Nat.lt_of_lt_of_le (h160.1).lt (Nat.le_of_eq g165.symm))
      have q170 : Hid (ks ≠ b165) := Nat.ne_of_lt (Nat.lt_of_lt_of_le (h160.2.2.2.2.2.2.1).lt (Nat.le_of_eq g165.symm))
      have q171 : Hid (js ≠ b165) := Nat.ne_of_lt (Nat.lt_of_lt_of_le (h160.2.2.2.2.2.2.2.1).lt (Nat.le_of_eq g165.symm))
      have q172 : Hid (ss ≠ b165) := Nat.ne_of_lt (Nat.lt_of_lt_of_le (h160.2.2.2.2.2.2.2.2.1).lt (Nat.le_of_eq g165.symm))
      have nr_b165 : NR kf jf b165 := nr_new h160.2.2.2.2.2.2.2.2.2.1 h160.2.2.2.2.2.2.2.2.2.2 g165
      have q173 : Hid (po ≠ b165) := Nat.ne_of_lt (Nat.lt_of_lt_of_le h153.lt (Nat.le_of_eq g165.symm))
      have q174 : Hid (di ≠ b165) := Nat.ne_of_lt (Nat.lt_of_lt_of_le h154.lt (Nat.le_of_eq g165.symm))
      have q175 : Hid (ma ≠ b165) := Nat.ne_of_lt (Nat.lt_of_lt_of_le h155.lt (Nat.le_of_eq g165.symm))
      have q176 : Hid (se ≠ b165) := Nat.ne_of_lt (Nat.lt_of_lt_of_le h156.lt (Nat.le_of_eq g165.symm))
      have q177 : Hid (src ≠ b165) := Nat.ne_of_lt (Nat.lt_of_lt_of_le h158.lt (Nat.le_of_eq g165.symm))
      have q178 : Hid (ea ≠ b165) := Nat.ne_of_lt (Nat.lt_of_lt_of_le h159.lt (Nat.le_of_eq g165.symm))
      have h179 : PFs Z h165 ps po (mk + (2 : Int32)) di ma se (0 : Int32) q (9223372036854775807 : Int64) (9223372036854775807 : Int64) (-1 : Int32) (1 : Int32) (0 : Int32) (.null) := h152.ext E165
      have h180 : Vec Z h165 po .long (2 : Int32) (longs (lst [p0, p1])) := h153.ext E165
      have h181 : Vec Z h165 di .long (2 : Int32) (longs (lst [d0, d1])) := h154.ext E165
      have h182 : Vec Z h165 ma .int (2 : Int32) (ints (lst [m0, m1])) := h155.ext E165
      have h183 : Vec Z h165 se .int (2 : Int32) (ints (lst [s0, s1])) := h156.ext E165
      have h184 : Vec Z h165 src .int (2 : Int32) (ints (lst [u0, u1])) := h158.ext E165
      have h185 : Vec Z h165 ea .long (2 : Int32) (longs (lst [p0, p1])) := h159.ext E165
      have h186 : QF Z h165 q ks js ss kf jf s2_52 KF JF (0 : Int32) (-9223372036854775808 : Int64) := h160.ext E165
      have Gb165 : Hid (n0 ≤ b165) := Nat.le_trans (Nat.le_trans Z0 K151.1) (Nat.le_of_eq g165.symm)
      have szb165 : Hid (h0.size ≤ b165) := Nat.le_trans K151.1 (Nat.le_of_eq g165.symm)
      have K165 : Lk h0 h165 := K151.ext E165
      have h187 : Vec Z h165 b165 .int (2 : Int32) (ints (lst [(0 : Int32), (0 : Int32)])) := Vec.zerosI 2 (Vec.new A165 r166)
      refine Go.st st165 ?_
      show Go p e below s Q 1 2 (T165.setTop (mkF m 99 #[vr ps, vr src, vi (2 : Int32), un] [(.ref b165), (.ref ps)]))
      obtain ⟨T188, h188, X188, e188, W188, st188⟩ := putF X165 hx hZ hown (host := "") (Or.inl (tb hw 153 rfl)) Via.refl e165 h179.2.2.2.2.2.2.2.2.2.2.2.2.2.2 h179.1 (Or.inl (tb hw 154 rfl)) (tb hw 1 rfl) (ty := (.array .int)) (by decide) rfl rfl (g := (mkF m 99 #[vr ps, vr src, vi (2 : Int32), un] [(.ref b165), (.ref ps)])) rfl rfl (hb hby d5_99)
      have h189 : PFs Z h188 ps po (mk + (2 : Int32)) di ma se (0 : Int32) q (9223372036854775807 : Int64) (9223372036854775807 : Int64) (-1 : Int32) (1 : Int32) (0 : Int32) (.ref b165) := PFs_set_sourceIn hw W188 h179
      have h190 : Vec Z h188 po .long (2 : Int32) (longs (lst [p0, p1])) := h180.other W188 (ndq ND 5 0 rfl)
      have h191 : Vec Z h188 di .long (2 : Int32) (longs (lst [d0, d1])) := h181.other W188 (ndq ND 6 0 rfl)
      have h192 : Vec Z h188 ma .int (2 : Int32) (ints (lst [m0, m1])) := h182.other W188 (ndq ND 7 0 rfl)
      have h193 : Vec Z h188 se .int (2 : Int32) (ints (lst [s0, s1])) := h183.other W188 (ndq ND 8 0 rfl)
      have h194 : Vec Z h188 src .int (2 : Int32) (ints (lst [u0, u1])) := h184.other W188 (Ne.symm (out_src _ (mq 0 rfl)))
      have h195 : Vec Z h188 ea .long (2 : Int32) (longs (lst [p0, p1])) := h185.other W188 (Ne.symm (out_ea _ (mq 0 rfl)))
      have h196 : QF Z h188 q ks js ss kf jf s2_52 KF JF (0 : Int32) (-9223372036854775808 : Int64) := h186.other W188 (ndq ND 1 0 rfl) (ndq ND 2 0 rfl) (ndq ND 3 0 rfl) (ndq ND 4 0 rfl) N_ps
      have h197 : Exa Z h188 b165 "[I" := B165.wr W188
      have h198 : Vec Z h188 b165 .int (2 : Int32) (ints (lst [(0 : Int32), (0 : Int32)])) := h187.other W188 (Ne.symm q168)
      have K188 : Lk h0 h188 := K165.wr W188
      have N188 := Fr.snoc X188 N151 G_ps
      refine Go.st st188 ?_
      show Go p e below s Q 1 2 (T188.setTop (mkF m 102 #[vr ps, vr src, vi (2 : Int32), un] []))
      refine gI X188 hx hby rfl d5_102 ?_
      refine gT X188 hx hby rfl d5_103 rfl (l' := #[vr ps, vr src, vi (2 : Int32), vi (0 : Int32)]) rfl ?_
      refine gC X188 hx hby rfl d5_104 rfl ?_
      refine gC X188 hx hby rfl d5_105 rfl ?_
      refine gM X188 hx hby rfl d5_106 rfl (tlt (ltI liI_0 liI_2 (by decide))).2.1 ?_
      refine gA X188 hx hby rfl d5_109 rfl rfl ?_
      show Go p e below s Q 1 2 (T188.setTop (mkF m 110 #[vr ps, vr src, vi (2 : Int32), vi (0 : Int32)] [(.ref ps)]))
      obtain ⟨T199, X199, e199, st199⟩ := getF X188 hx hZ hown (host := "") (Or.inl (tb hw 153 rfl)) Via.refl e188 h189.2.2.2.2.2.2.2.2.2.2.2.2.2.2 (g := (mkF m 110 #[vr ps, vr src, vi (2 : Int32), vi (0 : Int32)] [(.ref ps)])) rfl rfl (hb hby d5_110)
      refine Go.st st199 ?_
      refine gA X199 hx hby rfl d5_113 rfl rfl ?_
      refine gC X199 hx hby rfl d5_114 rfl ?_
      refine Go.st (Vec.ildI X199 hx hZ e199 h194 (j := (0 : Int32)) (by decide) (by decide) (g := (mkF m 115 #[vr ps, vr src, vi (2 : Int32), vi (0 : Int32)] [(.int (0 : Int32)), (.ref src), (.ref b165)])) rfl rfl (hb hby d5_115)) ?_
      refine gA X199 hx hby rfl d5_116 rfl rfl ?_
      obtain ⟨T201, X201, e201, st201⟩ := getF X199 hx hZ hown (host := "") (Or.inl (tb hw 55 rfl)) Via.refl e199 h189.2.2.1 (g := (mkF m 117 #[vr ps, vr src, vi (2 : Int32), vi (0 : Int32)] [(.ref ps), (.int u0), (.ref b165)])) rfl rfl (hb hby d5_117)
      refine Go.st st201 ?_
      show Go p e below s Q 1 2 (T201.setTop (mkF m 120 #[vr ps, vr src, vi (2 : Int32), vi (0 : Int32)] [(.int (mk + (2 : Int32))), (.int u0), (.ref b165)]))
      have f203 := rng32 u0
      have r204 : 0 ≤ u0.toInt := by omega
      have r205 : u0.toInt < (2 : Int32).toInt := by omega
      obtain ⟨T202, h202, X202, e202, W202, V202, st202⟩ := Vec.istI X201 hx hZ e201 h198 (j := u0) r204 r205 (g := (mkF m 120 #[vr ps, vr src, vi (2 : Int32), vi (0 : Int32)] [(.int (mk + (2 : Int32))), (.int u0), (.ref b165)])) rfl rfl (hb hby d5_120)
      have h206 : PFs Z h202 ps po (mk + (2 : Int32)) di ma se (0 : Int32) q (9223372036854775807 : Int64) (9223372036854775807 : Int64) (-1 : Int32) (1 : Int32) (0 : Int32) (.ref b165) := h189.other W202 q168
      have h207 : Vec Z h202 po .long (2 : Int32) (longs (lst [p0, p1])) := h190.other W202 q173
      have h208 : Vec Z h202 di .long (2 : Int32) (longs (lst [d0, d1])) := h191.other W202 q174
      have h209 : Vec Z h202 ma .int (2 : Int32) (ints (lst [m0, m1])) := h192.other W202 q175
      have h210 : Vec Z h202 se .int (2 : Int32) (ints (lst [s0, s1])) := h193.other W202 q176
      have h211 : Vec Z h202 src .int (2 : Int32) (ints (lst [u0, u1])) := h194.other W202 q177
      have h212 : Vec Z h202 ea .long (2 : Int32) (longs (lst [p0, p1])) := h195.other W202 q178
      have h213 : QF Z h202 q ks js ss kf jf s2_52 KF JF (0 : Int32) (-9223372036854775808 : Int64) := h196.other W202 q169 q170 q171 q172 nr_b165
      have h214 : Exa Z h202 b165 "[I" := h197.wr W202
      have h215 : Vec Z h202 b165 .int (2 : Int32) (ints (updF (lst [(0 : Int32), (0 : Int32)]) u0.toInt.toNat (mk + (2 : Int32)))) := V202
      have K202 : Lk h0 h202 := K188.wr W202
      have N202 := Fr.snoc X202 N188 Gb165
      refine Go.st st202 ?_
      show Go p e below s Q 1 2 (T202.setTop (mkF m 121 #[vr ps, vr src, vi (2 : Int32), vi (0 : Int32)] []))
      refine gInc X202 hx hby rfl d5_121 rfl (l' := #[vr ps, vr src, vi (2 : Int32), vi (1 : Int32)]) rfl ?_
      refine gG X202 hx hby rfl (pc0 := 124) (pc' := 104) rfl d5_124 (by decide) (by decide) ?_
      refine gC X202 hx hby rfl d5_104 rfl ?_
      refine gC X202 hx hby rfl d5_105 rfl ?_
      refine gM X202 hx hby rfl d5_106 rfl (tlt (ltI liI_1 liI_2 (by decide))).2.1 ?_
      refine gA X202 hx hby rfl d5_109 rfl rfl ?_
      show Go p e below s Q 1 2 (T202.setTop (mkF m 110 #[vr ps, vr src, vi (2 : Int32), vi (1 : Int32)] [(.ref ps)]))
      obtain ⟨T216, X216, e216, st216⟩ := getF X202 hx hZ hown (host := "") (Or.inl (tb hw 153 rfl)) Via.refl e202 h206.2.2.2.2.2.2.2.2.2.2.2.2.2.2 (g := (mkF m 110 #[vr ps, vr src, vi (2 : Int32), vi (1 : Int32)] [(.ref ps)])) rfl rfl (hb hby d5_110)
      refine Go.st st216 ?_
      refine gA X216 hx hby rfl d5_113 rfl rfl ?_
      refine gC X216 hx hby rfl d5_114 rfl ?_
      refine Go.st (Vec.ildI X216 hx hZ e216 h211 (j := (1 : Int32)) (by decide) (by decide) (g := (mkF m 115 #[vr ps, vr src, vi (2 : Int32), vi (1 : Int32)] [(.int (1 : Int32)), (.ref src), (.ref b165)])) rfl rfl (hb hby d5_115)) ?_
      refine gA X216 hx hby rfl d5_116 rfl rfl ?_
      obtain ⟨T218, X218, e218, st218⟩ := getF X216 hx hZ hown (host := "") (Or.inl (tb hw 55 rfl)) Via.refl e216 h206.2.2.1 (g := (mkF m 117 #[vr ps, vr src, vi (2 : Int32), vi (1 : Int32)] [(.ref ps), (.int u1), (.ref b165)])) rfl rfl (hb hby d5_117)
      refine Go.st st218 ?_
      show Go p e below s Q 1 2 (T218.setTop (mkF m 120 #[vr ps, vr src, vi (2 : Int32), vi (1 : Int32)] [(.int (mk + (2 : Int32))), (.int u1), (.ref b165)]))
      have f220 := rng32 u1
      have r221 : 0 ≤ u1.toInt := by omega
      have r222 : u1.toInt < (2 : Int32).toInt := by omega
      obtain ⟨T219, h219, X219, e219, W219, V219, st219⟩ := Vec.istI X218 hx hZ e218 h215 (j := u1) r221 r222 (g := (mkF m 120 #[vr ps, vr src, vi (2 : Int32), vi (1 : Int32)] [(.int (mk + (2 : Int32))), (.int u1), (.ref b165)])) rfl rfl (hb hby d5_120)
      have h223 : PFs Z h219 ps po (mk + (2 : Int32)) di ma se (0 : Int32) q (9223372036854775807 : Int64) (9223372036854775807 : Int64) (-1 : Int32) (1 : Int32) (0 : Int32) (.ref b165) := h206.other W219 q168
      have h224 : Vec Z h219 po .long (2 : Int32) (longs (lst [p0, p1])) := h207.other W219 q173
      have h225 : Vec Z h219 di .long (2 : Int32) (longs (lst [d0, d1])) := h208.other W219 q174
      have h226 : Vec Z h219 ma .int (2 : Int32) (ints (lst [m0, m1])) := h209.other W219 q175
      have h227 : Vec Z h219 se .int (2 : Int32) (ints (lst [s0, s1])) := h210.other W219 q176
      have h228 : Vec Z h219 src .int (2 : Int32) (ints (lst [u0, u1])) := h211.other W219 q177
      have h229 : Vec Z h219 ea .long (2 : Int32) (longs (lst [p0, p1])) := h212.other W219 q178
      have h230 : QF Z h219 q ks js ss kf jf s2_52 KF JF (0 : Int32) (-9223372036854775808 : Int64) := h213.other W219 q169 q170 q171 q172 nr_b165
      have h231 : Exa Z h219 b165 "[I" := h214.wr W219
      have h232 : Vec Z h219 b165 .int (2 : Int32) (ints (updF (updF (lst [(0 : Int32), (0 : Int32)]) u0.toInt.toNat (mk + (2 : Int32))) u1.toInt.toNat (mk + (2 : Int32)))) := V219
      have K219 : Lk h0 h219 := K202.wr W219
      have N219 := Fr.snoc X219 N202 Gb165
      refine Go.st st219 ?_
      show Go p e below s Q 1 2 (T219.setTop (mkF m 121 #[vr ps, vr src, vi (2 : Int32), vi (1 : Int32)] []))
      refine gInc X219 hx hby rfl d5_121 rfl (l' := #[vr ps, vr src, vi (2 : Int32), vi (2 : Int32)]) rfl ?_
      refine gG X219 hx hby rfl (pc0 := 124) (pc' := 104) rfl d5_124 (by decide) (by decide) ?_
      refine gC X219 hx hby rfl d5_104 rfl ?_
      refine gC X219 hx hby rfl d5_105 rfl ?_
      refine gZ X219 hx hby rfl (pc0 := 106) (pc' := 127) rfl d5_106 rfl (flt (nltI liI_2 liI_2 (by decide))).2.1 (by decide) (by decide) ?_
      show Go p e below s Q 1 2 (T219.setTop (mkF m 127 #[vr ps, vr src, vi (2 : Int32), vi (2 : Int32)] []))
      have h233 : Vec Z h219 b165 .int (2 : Int32) (ints (lst [(mk + (2 : Int32)), (mk + (2 : Int32))])) := Vec.of_eq h232 (congrArg ints (two_mk (by omega)))
      refine gA X219 hx hby rfl d5_127 rfl rfl ?_
      refine gC X219 hx hby rfl d5_128 rfl ?_
      obtain ⟨T234, h234, X234, e234, W234, st234⟩ := putF X219 hx hZ hown (host := "") (Or.inl (tb hw 81 rfl)) Via.refl e219 h223.2.2.2.2.2.2.2.2.2.2.2.2.2.1 h223.1 (Or.inl (tb hw 82 rfl)) (tb hw 1 rfl) (ty := .int) (by decide) rfl rfl (g := (mkF m 129 #[vr ps, vr src, vi (2 : Int32), vi (2 : Int32)] [(.int (2 : Int32)), (.ref ps)])) rfl rfl (hb hby d5_129)
      have h235 : PFs Z h234 ps po (mk + (2 : Int32)) di ma se (0 : Int32) q (9223372036854775807 : Int64) (9223372036854775807 : Int64) (-1 : Int32) (1 : Int32) (2 : Int32) (.ref b165) := PFs_set_sourcesLeft hw W234 h223
      have h236 : Vec Z h234 po .long (2 : Int32) (longs (lst [p0, p1])) := h224.other W234 (ndq ND 5 0 rfl)
      have h237 : Vec Z h234 di .long (2 : Int32) (longs (lst [d0, d1])) := h225.other W234 (ndq ND 6 0 rfl)
      have h238 : Vec Z h234 ma .int (2 : Int32) (ints (lst [m0, m1])) := h226.other W234 (ndq ND 7 0 rfl)
      have h239 : Vec Z h234 se .int (2 : Int32) (ints (lst [s0, s1])) := h227.other W234 (ndq ND 8 0 rfl)
      have h240 : Vec Z h234 src .int (2 : Int32) (ints (lst [u0, u1])) := h228.other W234 (Ne.symm (out_src _ (mq 0 rfl)))
      have h241 : Vec Z h234 ea .long (2 : Int32) (longs (lst [p0, p1])) := h229.other W234 (Ne.symm (out_ea _ (mq 0 rfl)))
      have h242 : QF Z h234 q ks js ss kf jf s2_52 KF JF (0 : Int32) (-9223372036854775808 : Int64) := h230.other W234 (ndq ND 1 0 rfl) (ndq ND 2 0 rfl) (ndq ND 3 0 rfl) (ndq ND 4 0 rfl) N_ps
      have h243 : Exa Z h234 b165 "[I" := h231.wr W234
      have h244 : Vec Z h234 b165 .int (2 : Int32) (ints (lst [(mk + (2 : Int32)), (mk + (2 : Int32))])) := h233.other W234 (Ne.symm q168)
      have K234 : Lk h0 h234 := K219.wr W234
      have N234 := Fr.snoc X234 N219 G_ps
      refine Go.st st234 ?_
      show Go p e below s Q 1 2 (T234.setTop (mkF m 132 #[vr ps, vr src, vi (2 : Int32), vi (2 : Int32)] []))
      have hO245 : PSt Z h234 ps q ks js ss po di ma se kf jf (mk + (2 : Int32)) (0 : Int32) (-1 : Int32) (1 : Int32) (2 : Int32) (9223372036854775807 : Int64) (9223372036854775807 : Int64) p0 p1 d0 d1 m0 m1 s0 s1 s2_52 KF JF (0 : Int32) (-9223372036854775808 : Int64) (.ref b165) := ⟨h235, h236, h237, h238, h239, h242⟩
      have hS246 : SV Z h234 ps q ks js ss po di ma se kf jf n0 (.ref b165) (mk + (2 : Int32)) (mk + (2 : Int32)) := ⟨Or.inr ⟨_, rfl⟩, fun so q => by cases q; exact ⟨h244, (ninS (Ne.symm q168) (ninS (Ne.symm q169) (ninS (Ne.symm q170) (ninS (Ne.symm q171) (ninS (Ne.symm q172) (ninS (Ne.symm q173) (ninS (Ne.symm q174) (ninS (Ne.symm q175) (ninS (Ne.symm q176) nin0))))))))), nr_b165, Gb165⟩⟩
      exact Go.retV X234 hx hlk Bd.returns (hb hby d5_132) (by rw [← hQ, e234]; exact ⟨(mk + (2 : Int32)), (-1 : Int32), (1 : Int32), (2 : Int32), s2_52, (.ref b165), (mk + (2 : Int32)), (mk + (2 : Int32)), rfl, N234, (by omega), (by exact f53), (by exact Or.inr ⟨by decide, by decide, by decide⟩), (by exact Or.inr ⟨by decide, by decide⟩), (by exact fun _ => ⟨⟨_, rfl⟩, rfl, rfl⟩), K234, hO245, hS246, h240, h241⟩) (by decide) (by decide)
    ·
      subst hsv
      obtain ⟨V_so, o_so, nr_so, G_so⟩ := h157.2 so rfl
      have out_so : ∀ x ∈ [ps, q, ks, js, ss, po, di, ma, se], x ≠ so := fun x hx e => o_so (e ▸ hx)
      have ns_so : Hid (src ≠ so) := Ne.symm (sv_src so rfl)
      have ne_so : Hid (ea ≠ so) := vec_tne h159 V_so (by decide)
      show Go p e below s Q 1 2 (T161.setTop (mkF m 84 #[vr ps, vr src, vi (2 : Int32), un] []))
      refine gA X161 hx hby rfl d5_84 rfl rfl ?_
      obtain ⟨T247, X247, e247, st247⟩ := getF X161 hx hZ hown (host := "") (Or.inl (tb hw 153 rfl)) Via.refl e161 h152.2.2.2.2.2.2.2.2.2.2.2.2.2.2 (g := (mkF m 85 #[vr ps, vr src, vi (2 : Int32), un] [(.ref ps)])) rfl rfl (hb hby d5_85)
      refine Go.st st247 ?_
      refine Go.st (fun _ k => XS.ifnonnullYes X247.here hx rfl (pc0 := 88) (pc' := 102) rfl (hb hby d5_88) rfl (by decide) (by decide) k) ?_
      refine gI X247 hx hby rfl d5_102 ?_
      refine gT X247 hx hby rfl d5_103 rfl (l' := #[vr ps, vr src, vi (2 : Int32), vi (0 : Int32)]) rfl ?_
      refine gC X247 hx hby rfl d5_104 rfl ?_
      show Go p e below s Q 1 2 (T247.setTop (mkF m 105 #[vr ps, vr src, vi (2 : Int32), vi (0 : Int32)] [(.int (0 : Int32))]))
      refine gC X247 hx hby rfl d5_105 rfl ?_
      refine gM X247 hx hby rfl d5_106 rfl (tlt (ltI liI_0 liI_2 (by decide))).2.1 ?_
      refine gA X247 hx hby rfl d5_109 rfl rfl ?_
      obtain ⟨T248, X248, e248, st248⟩ := getF X247 hx hZ hown (host := "") (Or.inl (tb hw 153 rfl)) Via.refl e247 h152.2.2.2.2.2.2.2.2.2.2.2.2.2.2 (g := (mkF m 110 #[vr ps, vr src, vi (2 : Int32), vi (0 : Int32)] [(.ref ps)])) rfl rfl (hb hby d5_110)
      refine Go.st st248 ?_
      refine gA X248 hx hby rfl d5_113 rfl rfl ?_
      refine gC X248 hx hby rfl d5_114 rfl ?_
      show Go p e below s Q 1 2 (T248.setTop (mkF m 115 #[vr ps, vr src, vi (2 : Int32), vi (0 : Int32)] [(.int (0 : Int32)), (.ref src), (.ref so)]))
      refine Go.st (Vec.ildI X248 hx hZ e248 h158 (j := (0 : Int32)) (by decide) (by decide) (g := (mkF m 115 #[vr ps, vr src, vi (2 : Int32), vi (0 : Int32)] [(.int (0 : Int32)), (.ref src), (.ref so)])) rfl rfl (hb hby d5_115)) ?_
      refine gA X248 hx hby rfl d5_116 rfl rfl ?_
      obtain ⟨T250, X250, e250, st250⟩ := getF X248 hx hZ hown (host := "") (Or.inl (tb hw 55 rfl)) Via.refl e248 h152.2.2.1 (g := (mkF m 117 #[vr ps, vr src, vi (2 : Int32), vi (0 : Int32)] [(.ref ps), (.int u0), (.ref so)])) rfl rfl (hb hby d5_117)
      refine Go.st st250 ?_
      have f252 := rng32 u0
      have r253 : 0 ≤ u0.toInt := by omega
      have r254 : u0.toInt < (2 : Int32).toInt := by omega
      obtain ⟨T251, h251, X251, e251, W251, V251, st251⟩ := Vec.istI X250 hx hZ e250 V_so (j := u0) r253 r254 (g := (mkF m 120 #[vr ps, vr src, vi (2 : Int32), vi (0 : Int32)] [(.int (mk + (2 : Int32))), (.int u0), (.ref so)])) rfl rfl (hb hby d5_120)
      have h255 : PFs Z h251 ps po (mk + (2 : Int32)) di ma se (0 : Int32) q (9223372036854775807 : Int64) (9223372036854775807 : Int64) (-1 : Int32) (1 : Int32) (0 : Int32) (.ref so) := h152.other W251 (out_so _ (mq 0 rfl))
      have h256 : Vec Z h251 po .long (2 : Int32) (longs (lst [p0, p1])) := h153.other W251 (out_so _ (mq 5 rfl))
      have h257 : Vec Z h251 di .long (2 : Int32) (longs (lst [d0, d1])) := h154.other W251 (out_so _ (mq 6 rfl))
      have h258 : Vec Z h251 ma .int (2 : Int32) (ints (lst [m0, m1])) := h155.other W251 (out_so _ (mq 7 rfl))
      have h259 : Vec Z h251 se .int (2 : Int32) (ints (lst [s0, s1])) := h156.other W251 (out_so _ (mq 8 rfl))
      have h260 : Vec Z h251 src .int (2 : Int32) (ints (lst [u0, u1])) := h158.other W251 ns_so
      have h261 : Vec Z h251 ea .long (2 : Int32) (longs (lst [p0, p1])) := h159.other W251 ne_so
      have h262 : QF Z h251 q ks js ss kf jf s2_52 KF JF (0 : Int32) (-9223372036854775808 : Int64) := h160.other W251 (out_so _ (mq 1 rfl)) (out_so _ (mq 2 rfl)) (out_so _ (mq 3 rfl)) (out_so _ (mq 4 rfl)) nr_so
      have h263 : Vec Z h251 so .int (2 : Int32) (ints (updF (lst [w0, w1]) u0.toInt.toNat (mk + (2 : Int32)))) := V251
      have K251 : Lk h0 h251 := K151.wr W251
      have N251 := Fr.snoc X251 N151 G_so
      refine Go.st st251 ?_
      show Go p e below s Q 1 2 (T251.setTop (mkF m 121 #[vr ps, vr src, vi (2 : Int32), vi (0 : Int32)] []))
      refine gInc X251 hx hby rfl d5_121 rfl (l' := #[vr ps, vr src, vi (2 : Int32), vi (1 : Int32)]) rfl ?_
      refine gG X251 hx hby rfl (pc0 := 124) (pc' := 104) rfl d5_124 (by decide) (by decide) ?_
      refine gC X251 hx hby rfl d5_104 rfl ?_
      refine gC X251 hx hby rfl d5_105 rfl ?_
      refine gM X251 hx hby rfl d5_106 rfl (tlt (ltI liI_1 liI_2 (by decide))).2.1 ?_
      refine gA X251 hx hby rfl d5_109 rfl rfl ?_
      show Go p e below s Q 1 2 (T251.setTop (mkF m 110 #[vr ps, vr src, vi (2 : Int32), vi (1 : Int32)] [(.ref ps)]))
      obtain ⟨T264, X264, e264, st264⟩ := getF X251 hx hZ hown (host := "") (Or.inl (tb hw 153 rfl)) Via.refl e251 h255.2.2.2.2.2.2.2.2.2.2.2.2.2.2 (g := (mkF m 110 #[vr ps, vr src, vi (2 : Int32), vi (1 : Int32)] [(.ref ps)])) rfl rfl (hb hby d5_110)
      refine Go.st st264 ?_
      refine gA X264 hx hby rfl d5_113 rfl rfl ?_
      refine gC X264 hx hby rfl d5_114 rfl ?_
      refine Go.st (Vec.ildI X264 hx hZ e264 h260 (j := (1 : Int32)) (by decide) (by decide) (g := (mkF m 115 #[vr ps, vr src, vi (2 : Int32), vi (1 : Int32)] [(.int (1 : Int32)), (.ref src), (.ref so)])) rfl rfl (hb hby d5_115)) ?_
      refine gA X264 hx hby rfl d5_116 rfl rfl ?_
      obtain ⟨T266, X266, e266, st266⟩ := getF X264 hx hZ hown (host := "") (Or.inl (tb hw 55 rfl)) Via.refl e264 h255.2.2.1 (g := (mkF m 117 #[vr ps, vr src, vi (2 : Int32), vi (1 : Int32)] [(.ref ps), (.int u1), (.ref so)])) rfl rfl (hb hby d5_117)
      refine Go.st st266 ?_
      show Go p e below s Q 1 2 (T266.setTop (mkF m 120 #[vr ps, vr src, vi (2 : Int32), vi (1 : Int32)] [(.int (mk + (2 : Int32))), (.int u1), (.ref so)]))
      have f268 := rng32 u1
      have r269 : 0 ≤ u1.toInt := by omega
      have r270 : u1.toInt < (2 : Int32).toInt := by omega
      obtain ⟨T267, h267, X267, e267, W267, V267, st267⟩ := Vec.istI X266 hx hZ e266 h263 (j := u1) r269 r270 (g := (mkF m 120 #[vr ps, vr src, vi (2 : Int32), vi (1 : Int32)] [(.int (mk + (2 : Int32))), (.int u1), (.ref so)])) rfl rfl (hb hby d5_120)
      have h271 : PFs Z h267 ps po (mk + (2 : Int32)) di ma se (0 : Int32) q (9223372036854775807 : Int64) (9223372036854775807 : Int64) (-1 : Int32) (1 : Int32) (0 : Int32) (.ref so) := h255.other W267 (out_so _ (mq 0 rfl))
      have h272 : Vec Z h267 po .long (2 : Int32) (longs (lst [p0, p1])) := h256.other W267 (out_so _ (mq 5 rfl))
      have h273 : Vec Z h267 di .long (2 : Int32) (longs (lst [d0, d1])) := h257.other W267 (out_so _ (mq 6 rfl))
      have h274 : Vec Z h267 ma .int (2 : Int32) (ints (lst [m0, m1])) := h258.other W267 (out_so _ (mq 7 rfl))
      have h275 : Vec Z h267 se .int (2 : Int32) (ints (lst [s0, s1])) := h259.other W267 (out_so _ (mq 8 rfl))
      have h276 : Vec Z h267 src .int (2 : Int32) (ints (lst [u0, u1])) := h260.other W267 ns_so
      have h277 : Vec Z h267 ea .long (2 : Int32) (longs (lst [p0, p1])) := h261.other W267 ne_so
      have h278 : QF Z h267 q ks js ss kf jf s2_52 KF JF (0 : Int32) (-9223372036854775808 : Int64) := h262.other W267 (out_so _ (mq 1 rfl)) (out_so _ (mq 2 rfl)) (out_so _ (mq 3 rfl)) (out_so _ (mq 4 rfl)) nr_so
      have h279 : Vec Z h267 so .int (2 : Int32) (ints (updF (updF (lst [w0, w1]) u0.toInt.toNat (mk + (2 : Int32))) u1.toInt.toNat (mk + (2 : Int32)))) := V267
      have K267 : Lk h0 h267 := K251.wr W267
      have N267 := Fr.snoc X267 N251 G_so
      refine Go.st st267 ?_
      show Go p e below s Q 1 2 (T267.setTop (mkF m 121 #[vr ps, vr src, vi (2 : Int32), vi (1 : Int32)] []))
      refine gInc X267 hx hby rfl d5_121 rfl (l' := #[vr ps, vr src, vi (2 : Int32), vi (2 : Int32)]) rfl ?_
      refine gG X267 hx hby rfl (pc0 := 124) (pc' := 104) rfl d5_124 (by decide) (by decide) ?_
      refine gC X267 hx hby rfl d5_104 rfl ?_
      refine gC X267 hx hby rfl d5_105 rfl ?_
      refine gZ X267 hx hby rfl (pc0 := 106) (pc' := 127) rfl d5_106 rfl (flt (nltI liI_2 liI_2 (by decide))).2.1 (by decide) (by decide) ?_
      show Go p e below s Q 1 2 (T267.setTop (mkF m 127 #[vr ps, vr src, vi (2 : Int32), vi (2 : Int32)] []))
      have h280 : Vec Z h267 so .int (2 : Int32) (ints (lst [(mk + (2 : Int32)), (mk + (2 : Int32))])) := Vec.of_eq h279 (congrArg ints (two_mk (by omega)))
      refine gA X267 hx hby rfl d5_127 rfl rfl ?_
      refine gC X267 hx hby rfl d5_128 rfl ?_
      obtain ⟨T281, h281, X281, e281, W281, st281⟩ := putF X267 hx hZ hown (host := "") (Or.inl (tb hw 81 rfl)) Via.refl e267 h271.2.2.2.2.2.2.2.2.2.2.2.2.2.1 h271.1 (Or.inl (tb hw 82 rfl)) (tb hw 1 rfl) (ty := .int) (by decide) rfl rfl (g := (mkF m 129 #[vr ps, vr src, vi (2 : Int32), vi (2 : Int32)] [(.int (2 : Int32)), (.ref ps)])) rfl rfl (hb hby d5_129)
      have h282 : PFs Z h281 ps po (mk + (2 : Int32)) di ma se (0 : Int32) q (9223372036854775807 : Int64) (9223372036854775807 : Int64) (-1 : Int32) (1 : Int32) (2 : Int32) (.ref so) := PFs_set_sourcesLeft hw W281 h271
      have h283 : Vec Z h281 po .long (2 : Int32) (longs (lst [p0, p1])) := h272.other W281 (ndq ND 5 0 rfl)
      have h284 : Vec Z h281 di .long (2 : Int32) (longs (lst [d0, d1])) := h273.other W281 (ndq ND 6 0 rfl)
      have h285 : Vec Z h281 ma .int (2 : Int32) (ints (lst [m0, m1])) := h274.other W281 (ndq ND 7 0 rfl)
      have h286 : Vec Z h281 se .int (2 : Int32) (ints (lst [s0, s1])) := h275.other W281 (ndq ND 8 0 rfl)
      have h287 : Vec Z h281 src .int (2 : Int32) (ints (lst [u0, u1])) := h276.other W281 (Ne.symm (out_src _ (mq 0 rfl)))
      have h288 : Vec Z h281 ea .long (2 : Int32) (longs (lst [p0, p1])) := h277.other W281 (Ne.symm (out_ea _ (mq 0 rfl)))
      have h289 : QF Z h281 q ks js ss kf jf s2_52 KF JF (0 : Int32) (-9223372036854775808 : Int64) := h278.other W281 (ndq ND 1 0 rfl) (ndq ND 2 0 rfl) (ndq ND 3 0 rfl) (ndq ND 4 0 rfl) N_ps
      have h290 : Vec Z h281 so .int (2 : Int32) (ints (lst [(mk + (2 : Int32)), (mk + (2 : Int32))])) := h280.other W281 (Ne.symm (out_so _ (mq 0 rfl)))
      have K281 : Lk h0 h281 := K267.wr W281
      have N281 := Fr.snoc X281 N267 G_ps
      refine Go.st st281 ?_
      show Go p e below s Q 1 2 (T281.setTop (mkF m 132 #[vr ps, vr src, vi (2 : Int32), vi (2 : Int32)] []))
      have hO291 : PSt Z h281 ps q ks js ss po di ma se kf jf (mk + (2 : Int32)) (0 : Int32) (-1 : Int32) (1 : Int32) (2 : Int32) (9223372036854775807 : Int64) (9223372036854775807 : Int64) p0 p1 d0 d1 m0 m1 s0 s1 s2_52 KF JF (0 : Int32) (-9223372036854775808 : Int64) (.ref so) := ⟨h282, h283, h284, h285, h286, h289⟩
      have hS292 : SV Z h281 ps q ks js ss po di ma se kf jf n0 (.ref so) (mk + (2 : Int32)) (mk + (2 : Int32)) := ⟨Or.inr ⟨_, rfl⟩, fun so q => by cases q; exact ⟨h290, (ninS (Ne.symm (out_so _ (mq 0 rfl))) (ninS (Ne.symm (out_so _ (mq 1 rfl))) (ninS (Ne.symm (out_so _ (mq 2 rfl))) (ninS (Ne.symm (out_so _ (mq 3 rfl))) (ninS (Ne.symm (out_so _ (mq 4 rfl))) (ninS (Ne.symm (out_so _ (mq 5 rfl))) (ninS (Ne.symm (out_so _ (mq 6 rfl))) (ninS (Ne.symm (out_so _ (mq 7 rfl))) (ninS (Ne.symm (out_so _ (mq 8 rfl))) nin0))))))))), nr_so, G_so⟩⟩
      exact Go.retV X281 hx hlk Bd.returns (hb hby d5_132) (by rw [← hQ, e281]; exact ⟨(mk + (2 : Int32)), (-1 : Int32), (1 : Int32), (2 : Int32), s2_52, (.ref so), (mk + (2 : Int32)), (mk + (2 : Int32)), rfl, N281, (by omega), (by exact f53), (by exact Or.inr ⟨by decide, by decide, by decide⟩), (by exact Or.inr ⟨by decide, by decide⟩), (by exact fun _ => ⟨⟨_, rfl⟩, rfl, rfl⟩), K281, hO291, hS292, h287, h288⟩) (by decide) (by decide)
theorem d16_0 : decode kc16 0 = .ok (.aload_n 0, 1) := by decide +kernel
theorem d16_1 : decode kc16 1 = .ok (.getfield 64, 3) := by decide +kernel
theorem d16_4 : decode kc16 4 = .ok (.ifCond .le 35, 3) := by decide +kernel
theorem d16_39 : decode kc16 39 = .ok (.aload_n 0, 1) := by decide +kernel
theorem d16_40 : decode kc16 40 = .ok (.getfield 28, 3) := by decide +kernel
theorem pd_7 : parseMethodDescriptor "()Z" = some ⟨[], some .boolean⟩ := by decide +kernel
theorem d16_43 : decode kc16 43 = .ok (.invokevirtual 96, 3) := by decide +kernel
theorem d16_46 : decode kc16 46 = .ok (.ifCond .ne 36, 3) := by decide +kernel
theorem d16_49 : decode kc16 49 = .ok (.aload_n 0, 1) := by decide +kernel
theorem d16_50 : decode kc16 50 = .ok (.getfield 28, 3) := by decide +kernel
theorem pd_8 : parseMethodDescriptor "()J" = some ⟨[], some .long⟩ := by decide +kernel
theorem d16_53 : decode kc16 53 = .ok (.invokevirtual 100, 3) := by decide +kernel
theorem d16_56 : decode kc16 56 = .ok (.aload_n 0, 1) := by decide +kernel
theorem d16_57 : decode kc16 57 = .ok (.getfield 76, 3) := by decide +kernel
theorem d16_60 : decode kc16 60 = .ok (.lcmp, 1) := by decide +kernel
theorem d16_61 : decode kc16 61 = .ok (.ifCond .ge 21, 3) := by decide +kernel
theorem d16_64 : decode kc16 64 = .ok (.aload_n 0, 1) := by decide +kernel
theorem d16_65 : decode kc16 65 = .ok (.getfield 28, 3) := by decide +kernel
theorem pd_9 : parseMethodDescriptor "()I" = some ⟨[], some .int⟩ := by decide +kernel
theorem d16_68 : decode kc16 68 = .ok (.invokevirtual 104, 3) := by decide +kernel
theorem d16_71 : decode kc16 71 = .ok (.istore_n 1, 1) := by decide +kernel
theorem d16_72 : decode kc16 72 = .ok (.aload_n 0, 1) := by decide +kernel
theorem d16_73 : decode kc16 73 = .ok (.getfield 28, 3) := by decide +kernel
theorem d16_76 : decode kc16 76 = .ok (.invokevirtual 108, 3) := by decide +kernel
theorem d16_79 : decode kc16 79 = .ok (.goto 5, 3) := by decide +kernel
theorem d16_84 : decode kc16 84 = .ok (.aload_n 0, 1) := by decide +kernel
theorem d16_85 : decode kc16 85 = .ok (.getfield 41, 3) := by decide +kernel
theorem d16_88 : decode kc16 88 = .ok (.iload_n 1, 1) := by decide +kernel
theorem d16_89 : decode kc16 89 = .ok (.iaload, 1) := by decide +kernel
theorem d16_90 : decode kc16 90 = .ok (.aload_n 0, 1) := by decide +kernel
theorem d16_91 : decode kc16 91 = .ok (.getfield 57, 3) := by decide +kernel
theorem d16_94 : decode kc16 94 = .ok (.iconst 1, 1) := by decide +kernel
theorem d16_95 : decode kc16 95 = .ok (.iadd, 1) := by decide +kernel
theorem d16_96 : decode kc16 96 = .ok (.if_icmp .ne 6, 3) := by decide +kernel
theorem d16_102 : decode kc16 102 = .ok (.aload_n 0, 1) := by decide +kernel
theorem d16_103 : decode kc16 103 = .ok (.getfield 41, 3) := by decide +kernel
theorem d16_106 : decode kc16 106 = .ok (.iload_n 1, 1) := by decide +kernel
theorem d16_107 : decode kc16 107 = .ok (.aload_n 0, 1) := by decide +kernel
theorem d16_108 : decode kc16 108 = .ok (.getfield 57, 3) := by decide +kernel
theorem d16_111 : decode kc16 111 = .ok (.iconst 1, 1) := by decide +kernel
theorem d16_112 : decode kc16 112 = .ok (.iadd, 1) := by decide +kernel
theorem d16_113 : decode kc16 113 = .ok (.iastore, 1) := by decide +kernel
theorem d16_114 : decode kc16 114 = .ok (.aload_n 0, 1) := by decide +kernel
theorem d16_115 : decode kc16 115 = .ok (.getfield 45, 3) := by decide +kernel
theorem d16_118 : decode kc16 118 = .ok (.aload_n 0, 1) := by decide +kernel
theorem d16_119 : decode kc16 119 = .ok (.dup, 1) := by decide +kernel
theorem d16_120 : decode kc16 120 = .ok (.getfield 61, 3) := by decide +kernel
theorem d16_123 : decode kc16 123 = .ok (.dup_x1, 1) := by decide +kernel
theorem d16_124 : decode kc16 124 = .ok (.iconst 1, 1) := by decide +kernel
theorem d16_125 : decode kc16 125 = .ok (.iadd, 1) := by decide +kernel
theorem d16_126 : decode kc16 126 = .ok (.putfield 61, 3) := by decide +kernel
theorem d16_129 : decode kc16 129 = .ok (.iload_n 1, 1) := by decide +kernel
theorem d16_130 : decode kc16 130 = .ok (.iastore, 1) := by decide +kernel
theorem d16_131 : decode kc16 131 = .ok (.aload_n 0, 1) := by decide +kernel
theorem d16_132 : decode kc16 132 = .ok (.aload_n 0, 1) := by decide +kernel
theorem d16_133 : decode kc16 133 = .ok (.getfield 38, 3) := by decide +kernel
theorem d16_136 : decode kc16 136 = .ok (.iload_n 1, 1) := by decide +kernel
theorem d16_137 : decode kc16 137 = .ok (.laload, 1) := by decide +kernel
theorem d16_138 : decode kc16 138 = .ok (.putfield 72, 3) := by decide +kernel
theorem d16_141 : decode kc16 141 = .ok (.iload_n 1, 1) := by decide +kernel
theorem d16_142 : decode kc16 142 = .ok (.aload_n 0, 1) := by decide +kernel
theorem d16_143 : decode kc16 143 = .ok (.getfield 79, 3) := by decide +kernel
theorem d16_146 : decode kc16 146 = .ok (.if_icmp .ne 16, 3) := by decide +kernel
theorem d16_149 : decode kc16 149 = .ok (.aload_n 0, 1) := by decide +kernel
theorem d16_150 : decode kc16 150 = .ok (.aload_n 0, 1) := by decide +kernel
theorem d16_151 : decode kc16 151 = .ok (.getfield 72, 3) := by decide +kernel
theorem d16_154 : decode kc16 154 = .ok (.lconst 1, 1) := by decide +kernel
theorem d16_155 : decode kc16 155 = .ok (.ladd, 1) := by decide +kernel
theorem liJ_1 : (1 : Int64).toInt = 1 := by decide
theorem d16_156 : decode kc16 156 = .ok (.putfield 76, 3) := by decide +kernel
theorem d16_159 : decode kc16 159 = .ok (.goto 47, 3) := by decide +kernel
theorem d16_206 : decode kc16 206 = .ok (.iload_n 1, 1) := by decide +kernel
theorem d16_207 : decode kc16 207 = .ok (.ireturn, 1) := by decide +kernel
theorem d16_162 : decode kc16 162 = .ok (.aload_n 0, 1) := by decide +kernel
theorem d16_163 : decode kc16 163 = .ok (.getfield 86, 3) := by decide +kernel
theorem d16_166 : decode kc16 166 = .ok (.ifCond .le 40, 3) := by decide +kernel
theorem d16_169 : decode kc16 169 = .ok (.aload_n 0, 1) := by decide +kernel
theorem d16_170 : decode kc16 170 = .ok (.getfield 89, 3) := by decide +kernel
theorem d16_173 : decode kc16 173 = .ok (.iload_n 1, 1) := by decide +kernel
theorem d16_174 : decode kc16 174 = .ok (.iaload, 1) := by decide +kernel
theorem d16_175 : decode kc16 175 = .ok (.aload_n 0, 1) := by decide +kernel
theorem d16_176 : decode kc16 176 = .ok (.getfield 57, 3) := by decide +kernel
theorem d16_179 : decode kc16 179 = .ok (.if_icmp .ne 27, 3) := by decide +kernel
theorem d16_182 : decode kc16 182 = .ok (.aload_n 0, 1) := by decide +kernel
theorem d16_183 : decode kc16 183 = .ok (.dup, 1) := by decide +kernel
theorem d16_184 : decode kc16 184 = .ok (.getfield 86, 3) := by decide +kernel
theorem d16_187 : decode kc16 187 = .ok (.iconst 1, 1) := by decide +kernel
theorem d16_188 : decode kc16 188 = .ok (.isub, 1) := by decide +kernel
theorem d16_189 : decode kc16 189 = .ok (.dup_x1, 1) := by decide +kernel
theorem d16_190 : decode kc16 190 = .ok (.putfield 86, 3) := by decide +kernel
theorem d16_193 : decode kc16 193 = .ok (.ifCond .ne 13, 3) := by decide +kernel
theorem d16_196 : decode kc16 196 = .ok (.aload_n 0, 1) := by decide +kernel
theorem d16_197 : decode kc16 197 = .ok (.aload_n 0, 1) := by decide +kernel
theorem d16_198 : decode kc16 198 = .ok (.getfield 72, 3) := by decide +kernel
theorem d16_201 : decode kc16 201 = .ok (.lconst 1, 1) := by decide +kernel
theorem d16_202 : decode kc16 202 = .ok (.ladd, 1) := by decide +kernel
theorem d16_203 : decode kc16 203 = .ok (.putfield 76, 3) := by decide +kernel
theorem d16_82 : decode kc16 82 = .ok (.iconst (-1), 1) := by decide +kernel
theorem d16_83 : decode kc16 83 = .ok (.ireturn, 1) := by decide +kernel
theorem ef_rmn (m : MethodId) (ps : Addr) : entryFrame m #[(.ref ps)] 2 = mkF m 0 #[vr ps, un] [] := by first | (simp [entryFrame, mkF, argsToLocals, Value.category]; done) | rfl
def Qn (Z : State) (ps q ks js ss po di ma se : Addr) (kf jf : Nat → Addr) (mk sc en ts sl : Int32) (st lm p0 p1 d0 d1 : Int64) (m0 m1 s0 s1 : Int32) (sz : Nat → Int32) (KF : Nat → Nat → Int64) (JF : Nat → Nat → Int32) (sn : Int32) (la : Int64) (sv : Value) (w0 w1 : Int32) (tk : Int64) (ti mo : Int32) (tl : Int64) (tj : Int32) (h0 : Heap) (n0 : Nat) (vv : Option Value) (h : Heap) (LL : List Loc) : Prop := ∃ (scx slx : Int32) (stx lmx : Int64) (m0x m1x s0x s1x : Int32) (szx : Nat → Int32) (KFx : Nat → Nat → Int64) (JFx : Nat → Nat → Int32) (snx : Int32) (lax : Int64) (rr : Int32), vv = some (.int rr) ∧ Fr n0 LL ∧ (Nx mk en sc sl lm m0 m1 s0 s1 sn tk ti mo tl tj scx slx lmx m0x m1x s0x s1x snx szx KFx JFx) ∧ Keep h0 h ([ps, q, ss, po, di, ma, se] ++ rowsOf kf jf) ∧ (PSt Z h ps q ks js ss po di ma se kf jf mk scx en ts slx stx lmx p0 p1 d0 d1 m0x m1x s0x s1x szx KFx JFx snx lax sv)
set_option maxRecDepth 65536 in
set_option maxHeartbeats 40000000 in
theorem rmn (l : Launch) (Z : State) (a0 : Array Value) (hw : ∀ d ∈ tables_1, d.before a0 Z = true) (ws : List Jvm.Cond) (ps q ks js ss po di ma se : Addr) (kf jf : Nat → Addr) (mk sc en ts sl : Int32) (st lm p0 p1 d0 d1 : Int64) (m0 m1 s0 s1 : Int32) (sz : Nat → Int32) (KF : Nat → Nat → Int64) (JF : Nat → Nat → Int32) (sn : Int32) (la : Int64) (sv : Value) (w0 w1 : Int32) (tk : Int64) (ti mo : Int32) (tl : Int64) (tj : Int32) (h0 : Heap) (n0 : Nat) (Z0 : n0 ≤ h0.size) (hO : PSt Z h0 ps q ks js ss po di ma se kf jf mk sc en ts sl st lm p0 p1 d0 d1 m0 m1 s0 s1 sz KF JF sn la sv) (hPs : PSs n0 ps q ks js ss po di ma se kf jf) (hSV : SV Z h0 ps q ks js ss po di ma se kf jf n0 sv w0 w1) (hnp : NP sz KF JF sn mk m0 m1 d0 d1 tk ti mo tl tj) (hbn : 0 ≤ mk.toInt ∧ mk.toInt ≤ 1000 ∧ (sc.toInt = 0 ∨ sc.toInt = 1) ∧ 0 ≤ sl.toInt ∧ sl.toInt ≤ 2 ∧ 0 ≤ sn.toInt) (hsl : Hid (0 < sl.toInt → (∃ so, sv = .ref so) ∧ mk = w0 ∧ mk = w1)) :
    MetFree l (⟨cP, "next", "()I"⟩ : MethodName) (head1 (Jvm.Cond.code (⟨cP, "next", "()I"⟩ : MethodName) kc16 2 (some .int) :: ws) ({ frames := 5, cells := 0, slots := 0, locals := 75 } : Room)) (fun aa UU => aa = #[(.ref ps)] ∧ Z.Warmed39 UU.vm ∧ UU.heap = h0) (fun _ _ _ _ _ => True) (fun _ UU oo UU' => ∃ vv LL, oo = .returned vv ∧ Qn Z ps q ks js ss po di ma se kf jf mk sc en ts sl st lm p0 p1 d0 d1 m0 m1 s0 s1 sz KF JF sn la sv w0 w1 tk ti mo tl tj h0 n0 vv UU'.heap LL ∧ FrameEnd UU oo UU' LL 0 0) := by
  refine MetFree.of_bodySF (plainFor_of_name pn_4) hisR ?_
  intro p e s m args below meth c s₁ Bd hml0 hP hK
  obtain ⟨rfl, hZ, hh⟩ := hP
  have hx := Bd.exec
  have hby := Bd.bytes
  have hlk : meth.locks = false := BodyLoose.notSynchronized Bd
  have hml : c.maxLocals = 2 := hml0
  have hown : s.vm.findClass cP = some m.cls := findClass_of_methodNamed Bd.named
  have hnm := (name_of_methodNamed Bd.named Bd.method).1
  have X0 : Stand p l e ({ frames := 5, cells := 0, slots := 0, locals := 75 } : Room) s m #[(.ref ps)] below meth c s₁ [] 0 0 := Stand.of_body Bd
  have e0 : s₁.heap = h0 := by rw [← hh, Bd.state]; rfl
  have N0 := Fr.nil n0
  have K0 : Keep h0 h0 ([ps, q, ss, po, di, ma, se] ++ rowsOf kf jf) := Keep.refl h0 _
  refine (?_ : Go p e below s (Qn Z ps q ks js ss po di ma se kf jf mk sc en ts sl st lm p0 p1 d0 d1 m0 m1 s0 s1 sz KF JF sn la sv w0 w1 tk ti mo tl tj h0 n0) 0 0 (s₁.setTop (entryFrame m #[(.ref ps)] 2)))
  rw [ef_rmn]
  generalize hQ : Qn Z ps q ks js ss po di ma se kf jf mk sc en ts sl st lm p0 p1 d0 d1 m0 m1 s0 s1 sz KF JF sn la sv w0 w1 tk ti mo tl tj h0 n0 = Q
  obtain ⟨hPF, c_vp, c_vd, c_vm, c_vs, hQF⟩ := hO
  obtain ⟨ND, Ik, Ij, GR, N_ps, N_q, N_ks, N_js, N_ss, N_po, N_di, N_ma, N_se, G_ps, G_q, G_ss, G_po, G_di, G_ma, G_se⟩ := hPs
  show Go p e below s Q 0 0 (s₁.setTop (mkF m 0 #[vr ps, un] []))
  refine gA X0 hx hby rfl d16_0 rfl rfl ?_
  obtain ⟨T1, X1, e1, st1⟩ := getF X0 hx hZ hown (host := "") (Or.inl (tb hw 59 rfl)) Via.refl e0 hPF.2.2.2.2.2.2.2.2.1 (g := (mkF m 1 #[vr ps, un] [(.ref ps)])) rfl rfl (hb hby d16_1)
  refine Go.st st1 ?_
  refine gY X1 hx hby rfl (pc0 := 4) (pc' := 39) rfl d16_4 rfl ((if0 _ _).trans (flt (nltI liI_0 liI_0 (by decide))).2.2.2) (by decide) (by decide) ?_
  refine gA X1 hx hby rfl d16_39 rfl rfl ?_
  obtain ⟨T2, X2, e2, st2⟩ := getF X1 hx hZ hown (host := "") (Or.inl (tb hw 33 rfl)) Via.refl e1 hPF.2.2.2.2.2.2.2.1 (g := (mkF m 40 #[vr ps, un] [(.ref ps)])) rfl rfl (hb hby d16_40)
  refine Go.st st2 ?_
  obtain ⟨h4, h5, h6, h7, h8, h9, h10, h11, h12, h13, h14⟩ := hQF
  have f15 := rng32 sn
  obtain ⟨cq3, kq3, q3a, q3b, q3c⟩ := isOf hZ e2 h4
  obtain ⟨_, _, ⟨T3, L3, k3, n3⟩, -, X3, ⟨Lc3, hQ3, l3, y3, z3⟩, st3⟩ := X2.virtualBack hx (y := (⟨cR, "isEmpty", "()Z"⟩ : MethodName)) (z := (⟨cR, "isEmpty", "()Z"⟩ : MethodName)) hown (mvT hZ (tb hw 124 rfl)) (mvT hZ (tb hw 125 rfl)) (notFace_of_selects (args := #[]) (mvT hZ (tb hw 127 rfl))) (mvT hZ (tb hw 127 rfl)) (mvT hZ (tb hw 126 rfl)) (by decide) (backOf (W := 0) (rm17 l Z a0 hw [] q sn h0 n0 (Nat.le_trans Z0 K0.1) h8) hZ (tb hw 128 rfl) (tb hw 11 rfl) (by decide) (by decide)) q3a q3c (g := (mkF m 43 #[vr ps, un] [(.ref q)])) rfl (by rw [hml]; rfl) (Steps.refl _) (argsL := []) (rest := []) (lenOf pd_7 rfl) rfl (by show 2 * 0 + _ ≤ _; exact Nat.le_of_eq rfl) (hb hby d16_43) (fun _ _ => ⟨rfl, e2, (by decide : 0 + 0 ≤ _), (by decide : 0 + 0 ≤ _)⟩)
  dsimp only [Pt.U, Pt.locs, Pt.cells, Pt.slots] at X3 l3 y3 z3 st3 hQ3
  subst y3 z3
  obtain ⟨rr_16, rfl, N3q, f17, e3⟩ := hQ3
  have N3 : Fr n0 L3 := by rw [l3]; exact Fr.app N0 N3q
  have h18 : QF Z h0 q ks js ss kf jf sz KF JF sn la := ⟨h4, h5, h6, h7, h8, h9, h10, h11, h12, h13, h14⟩
  refine Go.tr  st3 ?_
  show Go p e below s Q 0 0 (T3.setTop (mkF m 46 #[vr ps, un] [(.int rr_16)]))
  have f19 := rng32 rr_16
  have f20 := liI_0
  by_cases c21 : rr_16.toInt = 0
  ·
    refine gN X3 hx hby rfl d16_46 rfl ((if0 _ _).trans (teq (eqI rfl liI_0 c21)).2) ?_
    show Go p e below s Q 0 0 (T3.setTop (mkF m 49 #[vr ps, un] []))
    obtain ⟨hsn, hqt, hit, hk0, hk1, -, -⟩ := Or.resolve_left hnp (by omega)
    have hti : ti.toInt = 0 ∨ ti.toInt = 1 := hit.imp And.left And.left
    have hmv : (lst [m0, m1]) ti.toInt.toNat = mk := pick2 (hit.imp (fun q => ⟨q.1, q.2.1⟩) (fun q => ⟨q.1, q.2.1⟩))
    have hdv : (lst [d0, d1]) ti.toInt.toNat = tk := pick2 (hit.imp (fun q => ⟨q.1, q.2.2⟩) (fun q => ⟨q.1, q.2.2⟩))
    clear hit
    refine gA X3 hx hby rfl d16_49 rfl rfl ?_
    obtain ⟨T22, X22, e22, st22⟩ := getF X3 hx hZ hown (host := "") (Or.inl (tb hw 33 rfl)) Via.refl e3 hPF.2.2.2.2.2.2.2.1 (g := (mkF m 50 #[vr ps, un] [(.ref ps)])) rfl rfl (hb hby d16_50)
    refine Go.st st22 ?_
    obtain ⟨h24, h25, h26, h27, h28, h29, h30, h31, h32, h33, h34⟩ := h18
    have f35 := rng64 la
    have f36 := rng64 tk
    have f37 := rng32 ti
    have f38 := rng32 mo
    have f39 := rng64 tl
    have f40 := rng32 tj
    obtain ⟨cq23, kq23, q23a, q23b, q23c⟩ := isOf hZ e22 h24
    obtain ⟨_, _, ⟨T23, L23, k23, n23⟩, -, X23, ⟨Lc23, hQ23, l23, y23, z23⟩, st23⟩ := X22.virtualBack hx (y := (⟨cR, "topKey", "()J"⟩ : MethodName)) (z := (⟨cR, "topKey", "()J"⟩ : MethodName)) hown (mvT hZ (tb hw 129 rfl)) (mvT hZ (tb hw 130 rfl)) (notFace_of_selects (args := #[]) (mvT hZ (tb hw 132 rfl))) (mvT hZ (tb hw 132 rfl)) (mvT hZ (tb hw 131 rfl)) (by decide) (backOf (W := 0) (rmkt l Z a0 hw [] q ks js ss kf jf sz KF JF sn la tk ti mo tl tj h0 n0 (Nat.le_trans Z0 K0.1) h24 h25 h26 h27 h28 h29 h30 h31 h32 h33 h34 Ik Ij GR G_q G_ss N_q N_ks N_js N_ss (ndq ND 1 4 rfl) (ndq ND 2 4 rfl) (ndq ND 3 4 rfl) (ndq ND 2 1 rfl) (ndq ND 3 1 rfl) hqt) hZ (tb hw 133 rfl) (tb hw 11 rfl) (by decide) (by decide)) q23a q23c (g := (mkF m 53 #[vr ps, un] [(.ref q)])) rfl (by rw [hml]; rfl) (Steps.refl _) (argsL := []) (rest := []) (lenOf pd_8 rfl) rfl (by show 2 * 0 + _ ≤ _; exact Nat.le_of_eq rfl) (hb hby d16_53) (fun _ _ => ⟨rfl, e22, (by decide : 0 + 0 ≤ _), (by decide : 0 + 0 ≤ _)⟩)
    dsimp only [Pt.U, Pt.locs, Pt.cells, Pt.slots] at X23 l23 y23 z23 st23 hQ23
    subst y23 z23
    obtain ⟨s2_41, K2_42, J2_43, l2_44, rr_45, rfl, N23q, f46, f47, K23q, h48, h49, h50, h51, h52, h53, h54, h55, h56, h57, h58⟩ := hQ23
    have N23 : Fr n0 L23 := by rw [l23]; exact Fr.app N3 N23q
    have h59 : PFs Z T23.heap ps po mk di ma se sc q st lm en ts sl sv := hPF.keep K23q (nin_app (ninS (ndq ND 0 1 rfl) (ninS (ndq ND 0 4 rfl) nin0)) (nin_rows N_ps))
    have h60 : Vec Z T23.heap po .long (2 : Int32) (longs (lst [p0, p1])) := c_vp.keep K23q (nin_app (ninS (ndq ND 5 1 rfl) (ninS (ndq ND 5 4 rfl) nin0)) (nin_rows N_po))
    have h61 : Vec Z T23.heap di .long (2 : Int32) (longs (lst [d0, d1])) := c_vd.keep K23q (nin_app (ninS (ndq ND 6 1 rfl) (ninS (ndq ND 6 4 rfl) nin0)) (nin_rows N_di))
    have h62 : Vec Z T23.heap ma .int (2 : Int32) (ints (lst [m0, m1])) := c_vm.keep K23q (nin_app (ninS (ndq ND 7 1 rfl) (ninS (ndq ND 7 4 rfl) nin0)) (nin_rows N_ma))
    have h63 : Vec Z T23.heap se .int (2 : Int32) (ints (lst [s0, s1])) := c_vs.keep K23q (nin_app (ninS (ndq ND 8 1 rfl) (ninS (ndq ND 8 4 rfl) nin0)) (nin_rows N_se))
    have h64 : SV Z T23.heap ps q ks js ss po di ma se kf jf n0 sv w0 w1 := hSV.keep K23q (svA (allS (mq 1 rfl) (allS (mq 4 rfl) all0)))
    have K23 : Keep h0 T23.heap ([ps, q, ss, po, di, ma, se] ++ rowsOf kf jf) := K0.trans K23q (fun x hx => (fun x hx => (List.mem_append.mp hx).elim ((show ∀ x ∈ ([q, ss] : List Addr), x ∈ (([ps, q, ss, po, di, ma, se] ++ rowsOf kf jf) : List Addr) ∨ h0.size ≤ x from (allS (Or.inl (List.mem_append_left _ (List.mem_of_getElem? (i := 1) rfl))) (allS (Or.inl (List.mem_append_left _ (List.mem_of_getElem? (i := 2) rfl))) all0))) x) (fun q => Or.inl (List.mem_append_right _ q))) x hx)
    have h65 : QF Z T23.heap q ks js ss kf jf s2_41 K2_42 J2_43 sn l2_44 := ⟨h48, h49, h50, h51, h52, h53, h54, h55, h56, h57, h58⟩
    refine Go.tr  st23 ?_
    show Go p e below s Q 0 0 (T23.setTop (mkF m 56 #[vr ps, un] [(.long rr_45)]))
    have f66 := rng64 rr_45
    have hQU := f47
    have hrk : rr_45.toInt = tk.toInt := congrArg Int64.toInt f46
    refine gA X23 hx hby rfl d16_56 rfl rfl ?_
    obtain ⟨T67, X67, e67, st67⟩ := getF X23 hx hZ hown (host := "") (Or.inl (tb hw 75 rfl)) Via.refl rfl h59.2.2.2.2.2.2.2.2.2.2.1 (g := (mkF m 57 #[vr ps, un] [(.ref ps), (.long rr_45)])) rfl rfl (hb hby d16_57)
    refine Go.st st67 ?_
    refine gL X67 hx hby rfl d16_60 rfl ?_
    have f68 := rng64 lm
    by_cases c69 : rr_45.toInt < lm.toInt
    ·
      refine gN X67 hx hby rfl d16_61 rfl ((if0 _ _).trans (tlt ((lw_lt rr_45 lm).mpr (ltJ rfl rfl c69))).2.1) ?_
      refine gA X67 hx hby rfl d16_64 rfl rfl ?_
      obtain ⟨T70, X70, e70, st70⟩ := getF X67 hx hZ hown (host := "") (Or.inl (tb hw 33 rfl)) Via.refl e67 h59.2.2.2.2.2.2.2.1 (g := (mkF m 65 #[vr ps, un] [(.ref ps)])) rfl rfl (hb hby d16_65)
      refine Go.st st70 ?_
      show Go p e below s Q 0 0 (T70.setTop (mkF m 68 #[vr ps, un] [(.ref q)]))
      obtain ⟨h72, h73, h74, h75, h76, h77, h78, h79, h80, h81, h82⟩ := h65
      obtain ⟨cq71, kq71, q71a, q71b, q71c⟩ := isOf hZ e70 h72
      obtain ⟨_, _, ⟨T71, L71, k71, n71⟩, -, X71, ⟨Lc71, hQ71, l71, y71, z71⟩, st71⟩ := X70.virtualBack hx (y := (⟨cR, "topId", "()I"⟩ : MethodName)) (z := (⟨cR, "topId", "()I"⟩ : MethodName)) hown (mvT hZ (tb hw 143 rfl)) (mvT hZ (tb hw 144 rfl)) (notFace_of_selects (args := #[]) (mvT hZ (tb hw 146 rfl))) (mvT hZ (tb hw 146 rfl)) (mvT hZ (tb hw 145 rfl)) (by decide) (backOf (W := 0) (rmi0 l Z a0 hw [] q js ss jf s2_41 J2_43 T23.heap n0 (Nat.le_trans Z0 K23.1) h72 h74 h75 h79 h80 h82 hQU.1) hZ (tb hw 147 rfl) (tb hw 11 rfl) (by decide) (by decide)) q71a q71c (g := (mkF m 68 #[vr ps, un] [(.ref q)])) rfl (by rw [hml]; rfl) (Steps.refl _) (argsL := []) (rest := []) (lenOf pd_9 rfl) rfl (by show 2 * 0 + _ ≤ _; exact Nat.le_of_eq rfl) (hb hby d16_68) (fun _ _ => ⟨rfl, e70, (by decide : 0 + 0 ≤ _), (by decide : 0 + 0 ≤ _)⟩)
      dsimp only [Pt.U, Pt.locs, Pt.cells, Pt.slots] at X71 l71 y71 z71 st71 hQ71
      subst y71 z71
      obtain ⟨rr_83, rfl, N71q, f84, e71⟩ := hQ71
      have N71 : Fr n0 L71 := by rw [l71]; exact Fr.app N23 N71q
      have h85 : QF Z T23.heap q ks js ss kf jf s2_41 K2_42 J2_43 sn l2_44 := ⟨h72, h73, h74, h75, h76, h77, h78, h79, h80, h81, h82⟩
      refine Go.tr  st71 ?_
      show Go p e below s Q 0 0 (T71.setTop (mkF m 71 #[vr ps, un] [(.int rr_83)]))
      have f86 := rng32 rr_83
      have hid : ti = rr_83 := (f84.trans hQU.2.2.1).symm
      subst hid
      show Go p e below s Q 0 0 (T71.setTop (mkF m 71 #[vr ps, un] [(.int ti)]))
      refine gT X71 hx hby rfl d16_71 rfl (l' := #[vr ps, vi ti]) rfl ?_
      refine gA X71 hx hby rfl d16_72 rfl rfl ?_
      obtain ⟨T87, X87, e87, st87⟩ := getF X71 hx hZ hown (host := "") (Or.inl (tb hw 33 rfl)) Via.refl e71 h59.2.2.2.2.2.2.2.1 (g := (mkF m 73 #[vr ps, vi ti] [(.ref ps)])) rfl rfl (hb hby d16_73)
      refine Go.st st87 ?_
      obtain ⟨h89, h90, h91, h92, h93, h94, h95, h96, h97, h98, h99⟩ := h85
      have f100 := rng64 l2_44
      obtain ⟨cq88, kq88, q88a, q88b, q88c⟩ := isOf hZ e87 h89
      obtain ⟨_, _, ⟨T88, L88, k88, n88⟩, -, X88, ⟨Lc88, hQ88, l88, y88, z88⟩, st88⟩ := X87.virtualBack hx (y := (⟨cR, "pop", "()V"⟩ : MethodName)) (z := (⟨cR, "pop", "()V"⟩ : MethodName)) hown (mvT hZ (tb hw 148 rfl)) (mvT hZ (tb hw 149 rfl)) (notFace_of_selects (args := #[]) (mvT hZ (tb hw 151 rfl))) (mvT hZ (tb hw 151 rfl)) (mvT hZ (tb hw 150 rfl)) (by decide) (backOf (W := 0) (rm22 l Z a0 hw [] q ks js ss kf jf s2_41 K2_42 J2_43 sn l2_44 T23.heap n0 (Nat.le_trans Z0 K23.1) h89 h90 h91 h92 h93 h94 h95 h96 h97 h98 h99 Ik Ij GR G_q G_ss N_q N_ks N_js N_ss (ndq ND 1 4 rfl) (ndq ND 2 4 rfl) (ndq ND 3 4 rfl) (ndq ND 2 1 rfl) (ndq ND 3 1 rfl) hQU.1) hZ (tb hw 152 rfl) (tb hw 11 rfl) (by decide) (by decide)) q88a q88c (g := (mkF m 76 #[vr ps, vi ti] [(.ref q)])) rfl (by rw [hml]; rfl) (Steps.refl _) (argsL := []) (rest := []) (lenOf pd_5 rfl) rfl (by show 2 * 0 + _ ≤ _; exact Nat.le_of_eq rfl) (hb hby d16_76) (fun _ _ => ⟨rfl, e87, (by decide : 0 + 0 ≤ _), (by decide : 0 + 0 ≤ _)⟩)
      dsimp only [Pt.U, Pt.locs, Pt.cells, Pt.slots] at X88 l88 y88 z88 st88 hQ88
      subst y88 z88
      obtain ⟨rfl, N88q, K88q, h101, h102, h103, h104, h105, h106, h107, h108, h109, h110, h111⟩ := hQ88
      have N88 : Fr n0 L88 := by rw [l88]; exact Fr.app N71 N88q
      have h112 : PFs Z T88.heap ps po mk di ma se sc q st lm en ts sl sv := h59.keep K88q (ninS (ndq ND 0 1 rfl) (ninS (ndq ND 0 4 rfl) nin0))
      have h113 : Vec Z T88.heap po .long (2 : Int32) (longs (lst [p0, p1])) := h60.keep K88q (ninS (ndq ND 5 1 rfl) (ninS (ndq ND 5 4 rfl) nin0))
      have h114 : Vec Z T88.heap di .long (2 : Int32) (longs (lst [d0, d1])) := h61.keep K88q (ninS (ndq ND 6 1 rfl) (ninS (ndq ND 6 4 rfl) nin0))
      have h115 : Vec Z T88.heap ma .int (2 : Int32) (ints (lst [m0, m1])) := h62.keep K88q (ninS (ndq ND 7 1 rfl) (ninS (ndq ND 7 4 rfl) nin0))
      have h116 : Vec Z T88.heap se .int (2 : Int32) (ints (lst [s0, s1])) := h63.keep K88q (ninS (ndq ND 8 1 rfl) (ninS (ndq ND 8 4 rfl) nin0))
      have h117 : SV Z T88.heap ps q ks js ss po di ma se kf jf n0 sv w0 w1 := h64.keep K88q (svB (allS (mq 1 rfl) (allS (mq 4 rfl) all0)))
      have K88 : Keep h0 T88.heap ([ps, q, ss, po, di, ma, se] ++ rowsOf kf jf) := K23.trans K88q (fun x hx => (show ∀ x ∈ ([q, ss] : List Addr), x ∈ (([ps, q, ss, po, di, ma, se] ++ rowsOf kf jf) : List Addr) ∨ h0.size ≤ x from (allS (Or.inl (List.mem_append_left _ (List.mem_of_getElem? (i := 1) rfl))) (allS (Or.inl (List.mem_append_left _ (List.mem_of_getElem? (i := 2) rfl))) all0))) x hx)
      have h118 : QF Z T88.heap q ks js ss kf jf (updF s2_41 0 ((s2_41 0) - (1 : Int32))) K2_42 J2_43 (sn - (1 : Int32)) l2_44 := ⟨h101, h102, h103, h104, h105, h106, h107, h108, h109, h110, h111⟩
      refine Go.tr  st88 ?_
      show Go p e below s Q 0 0 (T88.setTop (mkF m 79 #[vr ps, vi ti] []))
      have hsm : (sn - (1 : Int32)).toInt = sn.toInt - 1 := sub1 _ rfl (by omega)
      refine gG X88 hx hby rfl (pc0 := 79) (pc' := 84) rfl d16_79 (by decide) (by decide) ?_
      refine gA X88 hx hby rfl d16_84 rfl rfl ?_
      obtain ⟨T119, X119, e119, st119⟩ := getF X88 hx hZ hown (host := "") (Or.inl (tb hw 39 rfl)) Via.refl rfl h112.2.2.2.2.1 (g := (mkF m 85 #[vr ps, vi ti] [(.ref ps)])) rfl rfl (hb hby d16_85)
      refine Go.st st119 ?_
      refine gC X119 hx hby rfl d16_88 rfl ?_
      have f121 := liI_2
      have r122 : 0 ≤ ti.toInt := by omega
      have r123 : ti.toInt < (2 : Int32).toInt := by omega
      refine Go.st (Vec.ildI X119 hx hZ e119 h115 (j := ti) r122 r123 (g := (mkF m 89 #[vr ps, vi ti] [(.int ti), (.ref ma)])) rfl rfl (hb hby d16_89)) ?_
      show Go p e below s Q 0 0 (T119.setTop (mkF m 90 #[vr ps, vi ti] [(.int ((lst [m0, m1]) ti.toInt.toNat))]))
      rw [hmv]
      show Go p e below s Q 0 0 (T119.setTop (mkF m 90 #[vr ps, vi ti] [(.int mk)]))
      refine gA X119 hx hby rfl d16_90 rfl rfl ?_
      obtain ⟨T124, X124, e124, st124⟩ := getF X119 hx hZ hown (host := "") (Or.inl (tb hw 55 rfl)) Via.refl e119 h112.2.2.1 (g := (mkF m 91 #[vr ps, vi ti] [(.ref ps), (.int mk)])) rfl rfl (hb hby d16_91)
      refine Go.st st124 ?_
      refine gI X124 hx hby rfl d16_94 ?_
      refine Go.st (fun _ k => XS.iadd X124.here hx rfl (hb hby d16_95) rfl k) ?_
      have f125 := rng32 mk
      have f126 := liI_1
      have f127 := c_iadd mk (1 : Int32)
      have f128 := rng32 (mk + (1 : Int32))
      have c129 : ¬ (mk.toInt = (mk + (1 : Int32)).toInt) := by omega
      refine gZ X124 hx hby rfl (pc0 := 96) (pc' := 102) rfl d16_96 rfl (feq (neI rfl rfl c129)).2 (by decide) (by decide) ?_
      refine gA X124 hx hby rfl d16_102 rfl rfl ?_
      show Go p e below s Q 0 0 (T124.setTop (mkF m 103 #[vr ps, vi ti] [(.ref ps)]))
      obtain ⟨T130, X130, e130, st130⟩ := getF X124 hx hZ hown (host := "") (Or.inl (tb hw 39 rfl)) Via.refl e124 h112.2.2.2.2.1 (g := (mkF m 103 #[vr ps, vi ti] [(.ref ps)])) rfl rfl (hb hby d16_103)
      refine Go.st st130 ?_
      refine gC X130 hx hby rfl d16_106 rfl ?_
      refine gA X130 hx hby rfl d16_107 rfl rfl ?_
      obtain ⟨T131, X131, e131, st131⟩ := getF X130 hx hZ hown (host := "") (Or.inl (tb hw 55 rfl)) Via.refl e130 h112.2.2.1 (g := (mkF m 108 #[vr ps, vi ti] [(.ref ps), (.int ti), (.ref ma)])) rfl rfl (hb hby d16_108)
      refine Go.st st131 ?_
      refine gI X131 hx hby rfl d16_111 ?_
      refine Go.st (fun _ k => XS.iadd X131.here hx rfl (hb hby d16_112) rfl k) ?_
      show Go p e below s Q 0 0 (T131.setTop (mkF m 113 #[vr ps, vi ti] [(.int (mk + (1 : Int32))), (.int ti), (.ref ma)]))
      have r133 : 0 ≤ ti.toInt := by omega
      have r134 : ti.toInt < (2 : Int32).toInt := by omega
      obtain ⟨T132, h132, X132, e132, W132, V132, st132⟩ := Vec.istI X131 hx hZ e131 h115 (j := ti) r133 r134 (g := (mkF m 113 #[vr ps, vi ti] [(.int (mk + (1 : Int32))), (.int ti), (.ref ma)])) rfl rfl (hb hby d16_113)
      have h135 : PFs Z h132 ps po mk di ma se sc q st lm en ts sl sv := h112.other W132 (ndq ND 0 7 rfl)
      have h136 : Vec Z h132 po .long (2 : Int32) (longs (lst [p0, p1])) := h113.other W132 (ndq ND 5 7 rfl)
      have h137 : Vec Z h132 di .long (2 : Int32) (longs (lst [d0, d1])) := h114.other W132 (ndq ND 6 7 rfl)
      have h138 : Vec Z h132 ma .int (2 : Int32) (ints (updF (lst [m0, m1]) ti.toInt.toNat (mk + (1 : Int32)))) := V132
      have h139 : Vec Z h132 se .int (2 : Int32) (ints (lst [s0, s1])) := h116.other W132 (ndq ND 8 7 rfl)
      have h140 : SV Z h132 ps q ks js ss po di ma se kf jf n0 sv w0 w1 := h117.other W132 (mq 7 rfl)
      have h141 : QF Z h132 q ks js ss kf jf (updF s2_41 0 ((s2_41 0) - (1 : Int32))) K2_42 J2_43 (sn - (1 : Int32)) l2_44 := h118.other W132 (ndq ND 1 7 rfl) (ndq ND 2 7 rfl) (ndq ND 3 7 rfl) (ndq ND 4 7 rfl) N_ma
      have K132 : Keep h0 h132 ([ps, q, ss, po, di, ma, se] ++ rowsOf kf jf) := K88.wr W132 (Or.inl (List.mem_append_left _ (List.mem_of_getElem? (i := 5) rfl)))
      have N132 := Fr.snoc X132 N88 G_ma
      refine Go.st st132 ?_
      show Go p e below s Q 0 0 (T132.setTop (mkF m 114 #[vr ps, vi ti] []))
      obtain ⟨m0n, m1n, h_ma, q_ma⟩ := lst2' (a := m0) (b := m1) (v := (mk + (1 : Int32))) hti
      have h142 : Vec Z h132 ma .int (2 : Int32) (ints (lst [m0n, m1n])) := Vec.of_eq h138 (congrArg ints q_ma)
      have hM : (mk + (1 : Int32)).toInt = mk.toInt + 1 := by omega
      refine gA X132 hx hby rfl d16_114 rfl rfl ?_
      obtain ⟨T143, X143, e143, st143⟩ := getF X132 hx hZ hown (host := "") (Or.inl (tb hw 41 rfl)) Via.refl e132 h135.2.2.2.2.2.1 (g := (mkF m 115 #[vr ps, vi ti] [(.ref ps)])) rfl rfl (hb hby d16_115)
      refine Go.st st143 ?_
      refine gA X143 hx hby rfl d16_118 rfl rfl ?_
      refine Go.st (fun _ k => XS.dup X143.here hx rfl (hb hby d16_119) rfl rfl k) ?_
      obtain ⟨T144, X144, e144, st144⟩ := getF X143 hx hZ hown (host := "") (Or.inl (tb hw 57 rfl)) Via.refl e143 h135.2.2.2.2.2.2.1 (g := (mkF m 120 #[vr ps, vi ti] [(.ref ps), (.ref ps), (.ref se)])) rfl rfl (hb hby d16_120)
      refine Go.st st144 ?_
      refine Go.st (fun _ k => XS.dupX1 X144.here hx rfl (hb hby d16_123) rfl rfl rfl k) ?_
      show Go p e below s Q 0 0 (T144.setTop (mkF m 124 #[vr ps, vi ti] [(.int sc), (.ref ps), (.int sc), (.ref se)]))
      refine gI X144 hx hby rfl d16_124 ?_
      refine Go.st (fun _ k => XS.iadd X144.here hx rfl (hb hby d16_125) rfl k) ?_
      show Go p e below s Q 0 0 (T144.setTop (mkF m 126 #[vr ps, vi ti] [(.int (sc + (1 : Int32))), (.ref ps), (.int sc), (.ref se)]))
      have f145 := rng32 sc
      have f146 := c_iadd sc (1 : Int32)
      have f147 := rng32 (sc + (1 : Int32))
      obtain ⟨T148, h148, X148, e148, W148, st148⟩ := putF X144 hx hZ hown (host := "") (Or.inl (tb hw 57 rfl)) Via.refl e144 h135.2.2.2.2.2.2.1 h135.1 (Or.inl (tb hw 58 rfl)) (tb hw 1 rfl) (ty := .int) (by decide) rfl rfl (g := (mkF m 126 #[vr ps, vi ti] [(.int (sc + (1 : Int32))), (.ref ps), (.int sc), (.ref se)])) rfl rfl (hb hby d16_126)
      have h149 : PFs Z h148 ps po mk di ma se (sc + (1 : Int32)) q st lm en ts sl sv := PFs_set_settledCount hw W148 h135
      have h150 : Vec Z h148 po .long (2 : Int32) (longs (lst [p0, p1])) := h136.other W148 (ndq ND 5 0 rfl)
      have h151 : Vec Z h148 di .long (2 : Int32) (longs (lst [d0, d1])) := h137.other W148 (ndq ND 6 0 rfl)
      have h152 : Vec Z h148 ma .int (2 : Int32) (ints (lst [m0n, m1n])) := h142.other W148 (ndq ND 7 0 rfl)
      have h153 : Vec Z h148 se .int (2 : Int32) (ints (lst [s0, s1])) := h139.other W148 (ndq ND 8 0 rfl)
      have h154 : SV Z h148 ps q ks js ss po di ma se kf jf n0 sv w0 w1 := h140.other W148 (mq 0 rfl)
      have h155 : QF Z h148 q ks js ss kf jf (updF s2_41 0 ((s2_41 0) - (1 : Int32))) K2_42 J2_43 (sn - (1 : Int32)) l2_44 := h141.other W148 (ndq ND 1 0 rfl) (ndq ND 2 0 rfl) (ndq ND 3 0 rfl) (ndq ND 4 0 rfl) N_ps
      have K148 : Keep h0 h148 ([ps, q, ss, po, di, ma, se] ++ rowsOf kf jf) := K132.wr W148 (Or.inl (List.mem_append_left _ (List.mem_of_getElem? (i := 0) rfl)))
      have N148 := Fr.snoc X148 N132 G_ps
      refine Go.st st148 ?_
      show Go p e below s Q 0 0 (T148.setTop (mkF m 129 #[vr ps, vi ti] [(.int sc), (.ref se)]))
      refine gC X148 hx hby rfl d16_129 rfl ?_
      have r157 : 0 ≤ sc.toInt := by omega
      have r158 : sc.toInt < (2 : Int32).toInt := by omega
      obtain ⟨T156, h156, X156, e156, W156, V156, st156⟩ := Vec.istI X148 hx hZ e148 h153 (j := sc) r157 r158 (g := (mkF m 130 #[vr ps, vi ti] [(.int ti), (.int sc), (.ref se)])) rfl rfl (hb hby d16_130)
      have h159 : PFs Z h156 ps po mk di ma se (sc + (1 : Int32)) q st lm en ts sl sv := h149.other W156 (ndq ND 0 8 rfl)
      have h160 : Vec Z h156 po .long (2 : Int32) (longs (lst [p0, p1])) := h150.other W156 (ndq ND 5 8 rfl)
      have h161 : Vec Z h156 di .long (2 : Int32) (longs (lst [d0, d1])) := h151.other W156 (ndq ND 6 8 rfl)
      have h162 : Vec Z h156 ma .int (2 : Int32) (ints (lst [m0n, m1n])) := h152.other W156 (ndq ND 7 8 rfl)
      have h163 : Vec Z h156 se .int (2 : Int32) (ints (updF (lst [s0, s1]) sc.toInt.toNat ti)) := V156
      have h164 : SV Z h156 ps q ks js ss po di ma se kf jf n0 sv w0 w1 := h154.other W156 (mq 8 rfl)
      have h165 : QF Z h156 q ks js ss kf jf (updF s2_41 0 ((s2_41 0) - (1 : Int32))) K2_42 J2_43 (sn - (1 : Int32)) l2_44 := h155.other W156 (ndq ND 1 8 rfl) (ndq ND 2 8 rfl) (ndq ND 3 8 rfl) (ndq ND 4 8 rfl) N_se
      have K156 : Keep h0 h156 ([ps, q, ss, po, di, ma, se] ++ rowsOf kf jf) := K148.wr W156 (Or.inl (List.mem_append_left _ (List.mem_of_getElem? (i := 6) rfl)))
      have N156 := Fr.snoc X156 N148 G_se
      refine Go.st st156 ?_
      show Go p e below s Q 0 0 (T156.setTop (mkF m 131 #[vr ps, vi ti] []))
      obtain ⟨s0n, s1n, h_se, q_se⟩ := lst2' (a := s0) (b := s1) (v := ti) hbn.2.2.1
      have h166 : Vec Z h156 se .int (2 : Int32) (ints (lst [s0n, s1n])) := Vec.of_eq h163 (congrArg ints q_se)
      refine gA X156 hx hby rfl d16_131 rfl rfl ?_
      refine gA X156 hx hby rfl d16_132 rfl rfl ?_
      obtain ⟨T167, X167, e167, st167⟩ := getF X156 hx hZ hown (host := "") (Or.inl (tb hw 37 rfl)) Via.refl e156 h159.2.2.2.1 (g := (mkF m 133 #[vr ps, vi ti] [(.ref ps), (.ref ps)])) rfl rfl (hb hby d16_133)
      refine Go.st st167 ?_
      refine gC X167 hx hby rfl d16_136 rfl ?_
      have r169 : 0 ≤ ti.toInt := by omega
      have r170 : ti.toInt < (2 : Int32).toInt := by omega
      refine Go.st (Vec.ildJ X167 hx hZ e167 h161 (j := ti) r169 r170 (g := (mkF m 137 #[vr ps, vi ti] [(.int ti), (.ref di), (.ref ps)])) rfl rfl (hb hby d16_137)) ?_
      show Go p e below s Q 0 0 (T167.setTop (mkF m 138 #[vr ps, vi ti] [(.long ((lst [d0, d1]) ti.toInt.toNat)), (.ref ps)]))
      rw [hdv]
      show Go p e below s Q 0 0 (T167.setTop (mkF m 138 #[vr ps, vi ti] [(.long tk), (.ref ps)]))
      obtain ⟨T171, h171, X171, e171, W171, st171⟩ := putF X167 hx hZ hown (host := "") (Or.inl (tb hw 73 rfl)) Via.refl e167 h159.2.2.2.2.2.2.2.2.2.1 h159.1 (Or.inl (tb hw 74 rfl)) (tb hw 1 rfl) (ty := .long) (by decide) rfl rfl (g := (mkF m 138 #[vr ps, vi ti] [(.long tk), (.ref ps)])) rfl rfl (hb hby d16_138)
      have h172 : PFs Z h171 ps po mk di ma se (sc + (1 : Int32)) q tk lm en ts sl sv := PFs_set_settling hw W171 h159
      have h173 : Vec Z h171 po .long (2 : Int32) (longs (lst [p0, p1])) := h160.other W171 (ndq ND 5 0 rfl)
      have h174 : Vec Z h171 di .long (2 : Int32) (longs (lst [d0, d1])) := h161.other W171 (ndq ND 6 0 rfl)
      have h175 : Vec Z h171 ma .int (2 : Int32) (ints (lst [m0n, m1n])) := h162.other W171 (ndq ND 7 0 rfl)
      have h176 : Vec Z h171 se .int (2 : Int32) (ints (lst [s0n, s1n])) := h166.other W171 (ndq ND 8 0 rfl)
      have h177 : SV Z h171 ps q ks js ss po di ma se kf jf n0 sv w0 w1 := h164.other W171 (mq 0 rfl)
      have h178 : QF Z h171 q ks js ss kf jf (updF s2_41 0 ((s2_41 0) - (1 : Int32))) K2_42 J2_43 (sn - (1 : Int32)) l2_44 := h165.other W171 (ndq ND 1 0 rfl) (ndq ND 2 0 rfl) (ndq ND 3 0 rfl) (ndq ND 4 0 rfl) N_ps
      have K171 : Keep h0 h171 ([ps, q, ss, po, di, ma, se] ++ rowsOf kf jf) := K156.wr W171 (Or.inl (List.mem_append_left _ (List.mem_of_getElem? (i := 0) rfl)))
      have N171 := Fr.snoc X171 N156 G_ps
      refine Go.st st171 ?_
      show Go p e below s Q 0 0 (T171.setTop (mkF m 141 #[vr ps, vi ti] []))
      refine gC X171 hx hby rfl d16_141 rfl ?_
      refine gA X171 hx hby rfl d16_142 rfl rfl ?_
      obtain ⟨T179, X179, e179, st179⟩ := getF X171 hx hZ hown (host := "") (Or.inl (tb hw 77 rfl)) Via.refl e171 h172.2.2.2.2.2.2.2.2.2.2.2.1 (g := (mkF m 143 #[vr ps, vi ti] [(.ref ps), (.int ti)])) rfl rfl (hb hby d16_143)
      refine Go.st st179 ?_
      have f180 := rng32 en
      by_cases c181 : ti.toInt = en.toInt
      ·
        refine gM X179 hx hby rfl d16_146 rfl (teq (eqI rfl rfl c181)).2 ?_
        refine gA X179 hx hby rfl d16_149 rfl rfl ?_
        refine gA X179 hx hby rfl d16_150 rfl rfl ?_
        show Go p e below s Q 0 0 (T179.setTop (mkF m 151 #[vr ps, vi ti] [(.ref ps), (.ref ps)]))
        obtain ⟨T182, X182, e182, st182⟩ := getF X179 hx hZ hown (host := "") (Or.inl (tb hw 73 rfl)) Via.refl e179 h172.2.2.2.2.2.2.2.2.2.1 (g := (mkF m 151 #[vr ps, vi ti] [(.ref ps), (.ref ps)])) rfl rfl (hb hby d16_151)
        refine Go.st st182 ?_
        refine Go.st (fun _ k => XS.lconst X182.here hx rfl (hb hby d16_154) k) ?_
        refine Go.st (fun _ k => XS.ladd X182.here hx rfl (hb hby d16_155) rfl k) ?_
        show Go p e below s Q 0 0 (T182.setTop (mkF m 156 #[vr ps, vi ti] [(.long (tk + (1 : Int64))), (.ref ps)]))
        have f183 := liJ_1
        have f184 := c_ladd tk (1 : Int64)
        have f185 := rng64 (tk + (1 : Int64))
        obtain ⟨T186, h186, X186, e186, W186, st186⟩ := putF X182 hx hZ hown (host := "") (Or.inl (tb hw 75 rfl)) Via.refl e182 h172.2.2.2.2.2.2.2.2.2.2.1 h172.1 (Or.inl (tb hw 76 rfl)) (tb hw 1 rfl) (ty := .long) (by decide) rfl rfl (g := (mkF m 156 #[vr ps, vi ti] [(.long (tk + (1 : Int64))), (.ref ps)])) rfl rfl (hb hby d16_156)
        have h187 : PFs Z h186 ps po mk di ma se (sc + (1 : Int32)) q tk (tk + (1 : Int64)) en ts sl sv := PFs_set_limit hw W186 h172
        have h188 : Vec Z h186 po .long (2 : Int32) (longs (lst [p0, p1])) := h173.other W186 (ndq ND 5 0 rfl)
        have h189 : Vec Z h186 di .long (2 : Int32) (longs (lst [d0, d1])) := h174.other W186 (ndq ND 6 0 rfl)
        have h190 : Vec Z h186 ma .int (2 : Int32) (ints (lst [m0n, m1n])) := h175.other W186 (ndq ND 7 0 rfl)
        have h191 : Vec Z h186 se .int (2 : Int32) (ints (lst [s0n, s1n])) := h176.other W186 (ndq ND 8 0 rfl)
        have h192 : SV Z h186 ps q ks js ss po di ma se kf jf n0 sv w0 w1 := h177.other W186 (mq 0 rfl)
        have h193 : QF Z h186 q ks js ss kf jf (updF s2_41 0 ((s2_41 0) - (1 : Int32))) K2_42 J2_43 (sn - (1 : Int32)) l2_44 := h178.other W186 (ndq ND 1 0 rfl) (ndq ND 2 0 rfl) (ndq ND 3 0 rfl) (ndq ND 4 0 rfl) N_ps
        have K186 : Keep h0 h186 ([ps, q, ss, po, di, ma, se] ++ rowsOf kf jf) := K171.wr W186 (Or.inl (List.mem_append_left _ (List.mem_of_getElem? (i := 0) rfl)))
        have N186 := Fr.snoc X186 N171 G_ps
        refine Go.st st186 ?_
        show Go p e below s Q 0 0 (T186.setTop (mkF m 159 #[vr ps, vi ti] []))
        refine gG X186 hx hby rfl (pc0 := 159) (pc' := 206) rfl d16_159 (by decide) (by decide) ?_
        refine gC X186 hx hby rfl d16_206 rfl ?_
        show Go p e below s Q 0 0 (T186.setTop (mkF m 207 #[vr ps, vi ti] [(.int ti)]))
        have hO194 : PSt Z h186 ps q ks js ss po di ma se kf jf mk (sc + (1 : Int32)) en ts sl tk (tk + (1 : Int64)) p0 p1 d0 d1 m0n m1n s0n s1n (updF s2_41 0 ((s2_41 0) - (1 : Int32))) K2_42 J2_43 (sn - (1 : Int32)) l2_44 sv := ⟨h187, h188, h189, h190, h191, h193⟩
        exact Go.retI X186 hx hlk Bd.returns (hb hby d16_207) (by rw [← hQ, e186]; exact ⟨(sc + (1 : Int32)), sl, tk, (tk + (1 : Int64)), m0n, m1n, s0n, s1n, (updF s2_41 0 ((s2_41 0) - (1 : Int32))), K2_42, J2_43, (sn - (1 : Int32)), l2_44, ti, rfl, N186, (by exact Or.inr ⟨(by omega), (by omega), (by omega), h_ma.imp (fun q => ⟨q.1, by rw [q.2.1]; exact hM, q.2.2⟩) (fun q => ⟨q.1, by rw [q.2.1]; exact hM, q.2.2⟩), h_se, Or.inl ⟨(by omega), (by omega), rfl⟩, hsm, hQU.2.2.2⟩), K186, hO194⟩) (by decide) (by decide)
      ·
        refine gZ X179 hx hby rfl (pc0 := 146) (pc' := 162) rfl d16_146 rfl (feq (neI rfl rfl c181)).2 (by decide) (by decide) ?_
        refine gA X179 hx hby rfl d16_162 rfl rfl ?_
        obtain ⟨T195, X195, e195, st195⟩ := getF X179 hx hZ hown (host := "") (Or.inl (tb hw 81 rfl)) Via.refl e179 h172.2.2.2.2.2.2.2.2.2.2.2.2.2.1 (g := (mkF m 163 #[vr ps, vi ti] [(.ref ps)])) rfl rfl (hb hby d16_163)
        refine Go.st st195 ?_
        show Go p e below s Q 0 0 (T195.setTop (mkF m 166 #[vr ps, vi ti] [(.int sl)]))
        have f196 := rng32 sl
        by_cases c197 : 0 < sl.toInt
        ·
          refine gN X195 hx hby rfl d16_166 rfl ((if0 _ _).trans (tlt (ltI liI_0 rfl c197)).2.2.2) ?_
          show Go p e below s Q 0 0 (T195.setTop (mkF m 169 #[vr ps, vi ti] []))
          obtain ⟨⟨so, hso⟩, hu0, hu1⟩ := hsl (by omega)
          subst hso hu0 hu1
          have V_so := (h177.2 so rfl).1
          show Go p e below s Q 0 0 (T195.setTop (mkF m 169 #[vr ps, vi ti] []))
          refine gA X195 hx hby rfl d16_169 rfl rfl ?_
          obtain ⟨T198, X198, e198, st198⟩ := getF X195 hx hZ hown (host := "") (Or.inl (tb hw 153 rfl)) Via.refl e195 h172.2.2.2.2.2.2.2.2.2.2.2.2.2.2 (g := (mkF m 170 #[vr ps, vi ti] [(.ref ps)])) rfl rfl (hb hby d16_170)
          refine Go.st st198 ?_
          refine gC X198 hx hby rfl d16_173 rfl ?_
          have r200 : 0 ≤ ti.toInt := by omega
          have r201 : ti.toInt < (2 : Int32).toInt := by omega
          refine Go.st (Vec.ildI X198 hx hZ e198 V_so (j := ti) r200 r201 (g := (mkF m 174 #[vr ps, vi ti] [(.int ti), (.ref so)])) rfl rfl (hb hby d16_174)) ?_
          show Go p e below s Q 0 0 (T198.setTop (mkF m 175 #[vr ps, vi ti] [(.int ((lst [mk, mk]) ti.toInt.toNat))]))
          rw [show (lst [mk, mk]) ti.toInt.toNat = mk from pick2 (hti.imp (fun q => ⟨q, rfl⟩) (fun q => ⟨q, rfl⟩))]
          show Go p e below s Q 0 0 (T198.setTop (mkF m 175 #[vr ps, vi ti] [(.int mk)]))
          refine gA X198 hx hby rfl d16_175 rfl rfl ?_
          obtain ⟨T202, X202, e202, st202⟩ := getF X198 hx hZ hown (host := "") (Or.inl (tb hw 55 rfl)) Via.refl e198 h172.2.2.1 (g := (mkF m 176 #[vr ps, vi ti] [(.ref ps), (.int mk)])) rfl rfl (hb hby d16_176)
          refine Go.st st202 ?_
          have c203 : mk.toInt = mk.toInt := by omega
          refine gM X202 hx hby rfl d16_179 rfl (teq (eqI rfl rfl c203)).2 ?_
          refine gA X202 hx hby rfl d16_182 rfl rfl ?_
          refine Go.st (fun _ k => XS.dup X202.here hx rfl (hb hby d16_183) rfl rfl k) ?_
          obtain ⟨T204, X204, e204, st204⟩ := getF X202 hx hZ hown (host := "") (Or.inl (tb hw 81 rfl)) Via.refl e202 h172.2.2.2.2.2.2.2.2.2.2.2.2.2.1 (g := (mkF m 184 #[vr ps, vi ti] [(.ref ps), (.ref ps)])) rfl rfl (hb hby d16_184)
          refine Go.st st204 ?_
          show Go p e below s Q 0 0 (T204.setTop (mkF m 187 #[vr ps, vi ti] [(.int sl), (.ref ps)]))
          refine gI X204 hx hby rfl d16_187 ?_
          refine Go.st (fun _ k => XS.isub X204.here hx rfl (hb hby d16_188) rfl k) ?_
          refine Go.st (fun _ k => XS.dupX1 X204.here hx rfl (hb hby d16_189) rfl rfl rfl k) ?_
          obtain ⟨T205, h205, X205, e205, W205, st205⟩ := putF X204 hx hZ hown (host := "") (Or.inl (tb hw 81 rfl)) Via.refl e204 h172.2.2.2.2.2.2.2.2.2.2.2.2.2.1 h172.1 (Or.inl (tb hw 82 rfl)) (tb hw 1 rfl) (ty := .int) (by decide) rfl rfl (g := (mkF m 190 #[vr ps, vi ti] [(.int (sl - (1 : Int32))), (.ref ps), (.int (sl - (1 : Int32)))])) rfl rfl (hb hby d16_190)
          have h206 : PFs Z h205 ps po mk di ma se (sc + (1 : Int32)) q tk lm en ts (sl - (1 : Int32)) (.ref so) := PFs_set_sourcesLeft hw W205 h172
          have h207 : Vec Z h205 po .long (2 : Int32) (longs (lst [p0, p1])) := h173.other W205 (ndq ND 5 0 rfl)
          have h208 : Vec Z h205 di .long (2 : Int32) (longs (lst [d0, d1])) := h174.other W205 (ndq ND 6 0 rfl)
          have h209 : Vec Z h205 ma .int (2 : Int32) (ints (lst [m0n, m1n])) := h175.other W205 (ndq ND 7 0 rfl)
          have h210 : Vec Z h205 se .int (2 : Int32) (ints (lst [s0n, s1n])) := h176.other W205 (ndq ND 8 0 rfl)
          have h211 : QF Z h205 q ks js ss kf jf (updF s2_41 0 ((s2_41 0) - (1 : Int32))) K2_42 J2_43 (sn - (1 : Int32)) l2_44 := h178.other W205 (ndq ND 1 0 rfl) (ndq ND 2 0 rfl) (ndq ND 3 0 rfl) (ndq ND 4 0 rfl) N_ps
          have K205 : Keep h0 h205 ([ps, q, ss, po, di, ma, se] ++ rowsOf kf jf) := K171.wr W205 (Or.inl (List.mem_append_left _ (List.mem_of_getElem? (i := 0) rfl)))
          have N205 := Fr.snoc X205 N171 G_ps
          refine Go.st st205 ?_
          show Go p e below s Q 0 0 (T205.setTop (mkF m 193 #[vr ps, vi ti] [(.int (sl - (1 : Int32)))]))
          have f212 := c_isub sl (1 : Int32)
          have f213 := rng32 (sl - (1 : Int32))
          by_cases c214 : (sl - (1 : Int32)).toInt = 0
          ·
            refine gN X205 hx hby rfl d16_193 rfl ((if0 _ _).trans (teq (eqI rfl liI_0 c214)).2) ?_
            refine gA X205 hx hby rfl d16_196 rfl rfl ?_
            refine gA X205 hx hby rfl d16_197 rfl rfl ?_
            obtain ⟨T215, X215, e215, st215⟩ := getF X205 hx hZ hown (host := "") (Or.inl (tb hw 73 rfl)) Via.refl e205 h206.2.2.2.2.2.2.2.2.2.1 (g := (mkF m 198 #[vr ps, vi ti] [(.ref ps), (.ref ps)])) rfl rfl (hb hby d16_198)
            refine Go.st st215 ?_
            refine Go.st (fun _ k => XS.lconst X215.here hx rfl (hb hby d16_201) k) ?_
            refine Go.st (fun _ k => XS.ladd X215.here hx rfl (hb hby d16_202) rfl k) ?_
            show Go p e below s Q 0 0 (T215.setTop (mkF m 203 #[vr ps, vi ti] [(.long (tk + (1 : Int64))), (.ref ps)]))
            have f216 := liJ_1
            have f217 := c_ladd tk (1 : Int64)
            have f218 := rng64 (tk + (1 : Int64))
            obtain ⟨T219, h219, X219, e219, W219, st219⟩ := putF X215 hx hZ hown (host := "") (Or.inl (tb hw 75 rfl)) Via.refl e215 h206.2.2.2.2.2.2.2.2.2.2.1 h206.1 (Or.inl (tb hw 76 rfl)) (tb hw 1 rfl) (ty := .long) (by decide) rfl rfl (g := (mkF m 203 #[vr ps, vi ti] [(.long (tk + (1 : Int64))), (.ref ps)])) rfl rfl (hb hby d16_203)
            have h220 : PFs Z h219 ps po mk di ma se (sc + (1 : Int32)) q tk (tk + (1 : Int64)) en ts (sl - (1 : Int32)) (.ref so) := PFs_set_limit hw W219 h206
            have h221 : Vec Z h219 po .long (2 : Int32) (longs (lst [p0, p1])) := h207.other W219 (ndq ND 5 0 rfl)
            have h222 : Vec Z h219 di .long (2 : Int32) (longs (lst [d0, d1])) := h208.other W219 (ndq ND 6 0 rfl)
            have h223 : Vec Z h219 ma .int (2 : Int32) (ints (lst [m0n, m1n])) := h209.other W219 (ndq ND 7 0 rfl)
            have h224 : Vec Z h219 se .int (2 : Int32) (ints (lst [s0n, s1n])) := h210.other W219 (ndq ND 8 0 rfl)
            have h225 : QF Z h219 q ks js ss kf jf (updF s2_41 0 ((s2_41 0) - (1 : Int32))) K2_42 J2_43 (sn - (1 : Int32)) l2_44 := h211.other W219 (ndq ND 1 0 rfl) (ndq ND 2 0 rfl) (ndq ND 3 0 rfl) (ndq ND 4 0 rfl) N_ps
            have K219 : Keep h0 h219 ([ps, q, ss, po, di, ma, se] ++ rowsOf kf jf) := K205.wr W219 (Or.inl (List.mem_append_left _ (List.mem_of_getElem? (i := 0) rfl)))
            have N219 := Fr.snoc X219 N205 G_ps
            refine Go.st st219 ?_
            show Go p e below s Q 0 0 (T219.setTop (mkF m 206 #[vr ps, vi ti] []))
            refine gC X219 hx hby rfl d16_206 rfl ?_
            show Go p e below s Q 0 0 (T219.setTop (mkF m 207 #[vr ps, vi ti] [(.int ti)]))
            have hO226 : PSt Z h219 ps q ks js ss po di ma se kf jf mk (sc + (1 : Int32)) en ts (sl - (1 : Int32)) tk (tk + (1 : Int64)) p0 p1 d0 d1 m0n m1n s0n s1n (updF s2_41 0 ((s2_41 0) - (1 : Int32))) K2_42 J2_43 (sn - (1 : Int32)) l2_44 (.ref so) := ⟨h220, h221, h222, h223, h224, h225⟩
            exact Go.retI X219 hx hlk Bd.returns (hb hby d16_207) (by rw [← hQ, e219]; exact ⟨(sc + (1 : Int32)), (sl - (1 : Int32)), tk, (tk + (1 : Int64)), m0n, m1n, s0n, s1n, (updF s2_41 0 ((s2_41 0) - (1 : Int32))), K2_42, J2_43, (sn - (1 : Int32)), l2_44, ti, rfl, N219, (by exact Or.inr ⟨(by omega), (by omega), (by omega), h_ma.imp (fun q => ⟨q.1, by rw [q.2.1]; exact hM, q.2.2⟩) (fun q => ⟨q.1, by rw [q.2.1]; exact hM, q.2.2⟩), h_se, Or.inr (Or.inr ⟨(by omega), (by omega), (by omega), Or.inl ⟨(by omega), (by omega)⟩⟩), hsm, hQU.2.2.2⟩), K219, (by have hh := hO226; first | exact hh | simpa using hh)⟩) (by decide) (by decide)
          ·
            refine gY X205 hx hby rfl (pc0 := 193) (pc' := 206) rfl d16_193 rfl ((if0 _ _).trans (feq (neI rfl liI_0 c214)).2) (by decide) (by decide) ?_
            refine gC X205 hx hby rfl d16_206 rfl ?_
            show Go p e below s Q 0 0 (T205.setTop (mkF m 207 #[vr ps, vi ti] [(.int ti)]))
            have hO227 : PSt Z h205 ps q ks js ss po di ma se kf jf mk (sc + (1 : Int32)) en ts (sl - (1 : Int32)) tk lm p0 p1 d0 d1 m0n m1n s0n s1n (updF s2_41 0 ((s2_41 0) - (1 : Int32))) K2_42 J2_43 (sn - (1 : Int32)) l2_44 (.ref so) := ⟨h206, h207, h208, h209, h210, h211⟩
            exact Go.retI X205 hx hlk Bd.returns (hb hby d16_207) (by rw [← hQ, e205]; exact ⟨(sc + (1 : Int32)), (sl - (1 : Int32)), tk, lm, m0n, m1n, s0n, s1n, (updF s2_41 0 ((s2_41 0) - (1 : Int32))), K2_42, J2_43, (sn - (1 : Int32)), l2_44, ti, rfl, N205, (by exact Or.inr ⟨(by omega), (by omega), (by omega), h_ma.imp (fun q => ⟨q.1, by rw [q.2.1]; exact hM, q.2.2⟩) (fun q => ⟨q.1, by rw [q.2.1]; exact hM, q.2.2⟩), h_se, Or.inr (Or.inr ⟨(by omega), (by omega), (by omega), Or.inr ⟨(by omega), rfl⟩⟩), hsm, hQU.2.2.2⟩), K205, (by have hh := hO227; first | exact hh | simpa using hh)⟩) (by decide) (by decide)
        ·
          refine gY X195 hx hby rfl (pc0 := 166) (pc' := 206) rfl d16_166 rfl ((if0 _ _).trans (flt (nltI liI_0 rfl c197)).2.2.2) (by decide) (by decide) ?_
          refine gC X195 hx hby rfl d16_206 rfl ?_
          show Go p e below s Q 0 0 (T195.setTop (mkF m 207 #[vr ps, vi ti] [(.int ti)]))
          have hO228 : PSt Z h171 ps q ks js ss po di ma se kf jf mk (sc + (1 : Int32)) en ts sl tk lm p0 p1 d0 d1 m0n m1n s0n s1n (updF s2_41 0 ((s2_41 0) - (1 : Int32))) K2_42 J2_43 (sn - (1 : Int32)) l2_44 sv := ⟨h172, h173, h174, h175, h176, h178⟩
          exact Go.retI X195 hx hlk Bd.returns (hb hby d16_207) (by rw [← hQ, e195]; exact ⟨(sc + (1 : Int32)), sl, tk, lm, m0n, m1n, s0n, s1n, (updF s2_41 0 ((s2_41 0) - (1 : Int32))), K2_42, J2_43, (sn - (1 : Int32)), l2_44, ti, rfl, N171, (by exact Or.inr ⟨(by omega), (by omega), (by omega), h_ma.imp (fun q => ⟨q.1, by rw [q.2.1]; exact hM, q.2.2⟩) (fun q => ⟨q.1, by rw [q.2.1]; exact hM, q.2.2⟩), h_se, Or.inr (Or.inl ⟨(by omega), (by omega), rfl, rfl⟩), hsm, hQU.2.2.2⟩), K171, hO228⟩) (by decide) (by decide)
    ·
      refine gY X67 hx hby rfl (pc0 := 61) (pc' := 82) rfl d16_61 rfl ((if0 _ _).trans (flt (fun q => (nltJ rfl rfl c69) ((lw_lt rr_45 lm).mp q))).2.1) (by decide) (by decide) ?_
      refine gI X67 hx hby rfl d16_82 ?_
      show Go p e below s Q 0 0 (T67.setTop (mkF m 83 #[vr ps, un] [(.int (-1 : Int32))]))
      have hO229 : PSt Z T23.heap ps q ks js ss po di ma se kf jf mk sc en ts sl st lm p0 p1 d0 d1 m0 m1 s0 s1 s2_41 K2_42 J2_43 sn l2_44 sv := ⟨h59, h60, h61, h62, h63, h65⟩
      have f230 := liI_m1
      exact Go.retI X67 hx hlk Bd.returns (hb hby d16_83) (by rw [← hQ, e67]; exact ⟨sc, sl, st, lm, m0, m1, s0, s1, s2_41, K2_42, J2_43, sn, l2_44, (-1 : Int32), rfl, N23, (by exact Or.inl ⟨rfl, rfl, rfl, rfl, rfl, rfl, rfl, Or.inr ⟨by omega, by omega⟩⟩), K23, hO229⟩) (by decide) (by decide)
  ·
    refine gY X3 hx hby rfl (pc0 := 46) (pc' := 82) rfl d16_46 rfl ((if0 _ _).trans (feq (neI rfl liI_0 c21)).2) (by decide) (by decide) ?_
    refine gI X3 hx hby rfl d16_82 ?_
    show Go p e below s Q 0 0 (T3.setTop (mkF m 83 #[vr ps, un] [(.int (-1 : Int32))]))
    have hO231 : PSt Z h0 ps q ks js ss po di ma se kf jf mk sc en ts sl st lm p0 p1 d0 d1 m0 m1 s0 s1 sz KF JF sn la sv := ⟨hPF, c_vp, c_vd, c_vm, c_vs, h18⟩
    have f232 := liI_m1
    exact Go.retI X3 hx hlk Bd.returns (hb hby d16_83) (by rw [← hQ, e3]; exact ⟨sc, sl, st, lm, m0, m1, s0, s1, sz, KF, JF, sn, la, (-1 : Int32), rfl, N3, (by exact Or.inl ⟨rfl, rfl, rfl, rfl, rfl, rfl, rfl, Or.inl ⟨by omega, by omega⟩⟩), K0, hO231⟩) (by decide) (by decide)
theorem d8_0 : decode kc8 0 = .ok (.aload_n 0, 1) := by decide +kernel
theorem d8_1 : decode kc8 1 = .ok (.getfield 82, 3) := by decide +kernel
theorem d8_4 : decode kc8 4 = .ok (.ifCond .eq 18, 3) := by decide +kernel
theorem d8_22 : decode kc8 22 = .ok (.aload_n 0, 1) := by decide +kernel
theorem d8_23 : decode kc8 23 = .ok (.getfield 41, 3) := by decide +kernel
theorem d8_26 : decode kc8 26 = .ok (.aload_n 0, 1) := by decide +kernel
theorem d8_27 : decode kc8 27 = .ok (.getfield 79, 3) := by decide +kernel
theorem d8_30 : decode kc8 30 = .ok (.iaload, 1) := by decide +kernel
theorem d8_31 : decode kc8 31 = .ok (.aload_n 0, 1) := by decide +kernel
theorem d8_32 : decode kc8 32 = .ok (.getfield 57, 3) := by decide +kernel
theorem d8_35 : decode kc8 35 = .ok (.iconst 1, 1) := by decide +kernel
theorem d8_36 : decode kc8 36 = .ok (.iadd, 1) := by decide +kernel
theorem d8_37 : decode kc8 37 = .ok (.if_icmp .ne 7, 3) := by decide +kernel
theorem d8_40 : decode kc8 40 = .ok (.iconst 1, 1) := by decide +kernel
theorem d8_41 : decode kc8 41 = .ok (.goto 4, 3) := by decide +kernel
theorem d8_44 : decode kc8 44 = .ok (.iconst 0, 1) := by decide +kernel
theorem d8_7 : decode kc8 7 = .ok (.aload_n 0, 1) := by decide +kernel
theorem d8_8 : decode kc8 8 = .ok (.getfield 86, 3) := by decide +kernel
theorem d8_11 : decode kc8 11 = .ok (.ifCond .ne 7, 3) := by decide +kernel
theorem d8_14 : decode kc8 14 = .ok (.iconst 1, 1) := by decide +kernel
theorem d8_15 : decode kc8 15 = .ok (.goto 30, 3) := by decide +kernel
theorem d8_18 : decode kc8 18 = .ok (.iconst 0, 1) := by decide +kernel
theorem d8_19 : decode kc8 19 = .ok (.goto 26, 3) := by decide +kernel
theorem d8_45 : decode kc8 45 = .ok (.istore_n 1, 1) := by decide +kernel
theorem d8_46 : decode kc8 46 = .ok (.iload_n 1, 1) := by decide +kernel
theorem d8_47 : decode kc8 47 = .ok (.ifCond .ne 5, 3) := by decide +kernel
theorem d8_50 : decode kc8 50 = .ok (.iconst 0, 1) := by decide +kernel
theorem d8_51 : decode kc8 51 = .ok (.ireturn, 1) := by decide +kernel
theorem d8_52 : decode kc8 52 = .ok (.aload_n 0, 1) := by decide +kernel
theorem d8_53 : decode kc8 53 = .ok (.getfield 76, 3) := by decide +kernel
theorem d8_56 : decode kc8 56 = .ok (.lstore_n 2, 1) := by decide +kernel
theorem d8_57 : decode kc8 57 = .ok (.iconst 0, 1) := by decide +kernel
theorem d8_58 : decode kc8 58 = .ok (.istore 4, 2) := by decide +kernel
theorem d8_60 : decode kc8 60 = .ok (.iload 4, 2) := by decide +kernel
theorem d8_62 : decode kc8 62 = .ok (.aload_n 0, 1) := by decide +kernel
theorem d8_63 : decode kc8 63 = .ok (.getfield 34, 3) := by decide +kernel
theorem d8_66 : decode kc8 66 = .ok (.arraylength, 1) := by decide +kernel
theorem d8_67 : decode kc8 67 = .ok (.if_icmp .ge 20, 3) := by decide +kernel
theorem d8_70 : decode kc8 70 = .ok (.aload_n 0, 1) := by decide +kernel
theorem d8_71 : decode kc8 71 = .ok (.getfield 34, 3) := by decide +kernel
theorem d8_74 : decode kc8 74 = .ok (.iload 4, 2) := by decide +kernel
theorem d8_76 : decode kc8 76 = .ok (.dup2, 1) := by decide +kernel
theorem d8_77 : decode kc8 77 = .ok (.laload, 1) := by decide +kernel
theorem d8_78 : decode kc8 78 = .ok (.lload_n 2, 1) := by decide +kernel
theorem d8_79 : decode kc8 79 = .ok (.lsub, 1) := by decide +kernel
theorem d8_80 : decode kc8 80 = .ok (.lastore, 1) := by decide +kernel
theorem d8_81 : decode kc8 81 = .ok (.iinc 4 1, 3) := by decide +kernel
theorem d8_84 : decode kc8 84 = .ok (.goto (-24), 3) := by decide +kernel
theorem d8_87 : decode kc8 87 = .ok (.iconst 0, 1) := by decide +kernel
theorem d8_88 : decode kc8 88 = .ok (.istore 4, 2) := by decide +kernel
theorem d8_90 : decode kc8 90 = .ok (.iload 4, 2) := by decide +kernel
theorem d8_92 : decode kc8 92 = .ok (.aload_n 0, 1) := by decide +kernel
theorem d8_93 : decode kc8 93 = .ok (.getfield 61, 3) := by decide +kernel
theorem d8_96 : decode kc8 96 = .ok (.if_icmp .ge 38, 3) := by decide +kernel
theorem d8_99 : decode kc8 99 = .ok (.aload_n 0, 1) := by decide +kernel
theorem d8_100 : decode kc8 100 = .ok (.getfield 34, 3) := by decide +kernel
theorem d8_103 : decode kc8 103 = .ok (.aload_n 0, 1) := by decide +kernel
theorem d8_104 : decode kc8 104 = .ok (.getfield 45, 3) := by decide +kernel
theorem d8_107 : decode kc8 107 = .ok (.iload 4, 2) := by decide +kernel
theorem d8_109 : decode kc8 109 = .ok (.iaload, 1) := by decide +kernel
theorem d8_110 : decode kc8 110 = .ok (.dup2, 1) := by decide +kernel
theorem d8_111 : decode kc8 111 = .ok (.laload, 1) := by decide +kernel
theorem d8_112 : decode kc8 112 = .ok (.lload_n 2, 1) := by decide +kernel
theorem d8_113 : decode kc8 113 = .ok (.aload_n 0, 1) := by decide +kernel
theorem d8_114 : decode kc8 114 = .ok (.getfield 38, 3) := by decide +kernel
theorem d8_117 : decode kc8 117 = .ok (.aload_n 0, 1) := by decide +kernel
theorem d8_118 : decode kc8 118 = .ok (.getfield 45, 3) := by decide +kernel
theorem d8_121 : decode kc8 121 = .ok (.iload 4, 2) := by decide +kernel
theorem d8_123 : decode kc8 123 = .ok (.iaload, 1) := by decide +kernel
theorem d8_124 : decode kc8 124 = .ok (.laload, 1) := by decide +kernel
theorem d8_125 : decode kc8 125 = .ok (.lsub, 1) := by decide +kernel
theorem d8_126 : decode kc8 126 = .ok (.ladd, 1) := by decide +kernel
theorem d8_127 : decode kc8 127 = .ok (.lastore, 1) := by decide +kernel
theorem d8_128 : decode kc8 128 = .ok (.iinc 4 1, 3) := by decide +kernel
theorem d8_131 : decode kc8 131 = .ok (.goto (-41), 3) := by decide +kernel
theorem d8_134 : decode kc8 134 = .ok (.iconst 1, 1) := by decide +kernel
theorem d8_135 : decode kc8 135 = .ok (.ireturn, 1) := by decide +kernel
theorem ef_rmfb (m : MethodId) (ps : Addr) : entryFrame m #[(.ref ps)] 5 = mkF m 0 #[vr ps, un, un, un, un] [] := by first | (simp [entryFrame, mkF, argsToLocals, Value.category]; done) | rfl
def Qfb (Z : State) (ps q ks js ss po di ma se : Addr) (kf jf : Nat → Addr) (mk sc en ts sl : Int32) (st lm p0 p1 d0 d1 : Int64) (m0 m1 s0 s1 : Int32) (sz : Nat → Int32) (KF : Nat → Nat → Int64) (JF : Nat → Nat → Int32) (sn : Int32) (la : Int64) (sv : Value) (h0 : Heap) (n0 : Nat) (vv : Option Value) (h : Heap) (LL : List Loc) : Prop := ∃ (p0x p1x : Int64) (rr : Int32), vv = some (.int rr) ∧ Fr n0 LL ∧ (Fb en ts sl mk sc m0 m1 s0 s1 lm d0 d1 p0 p1 rr p0x p1x) ∧ Keep h0 h ([ps, q, ss, po, di, ma, se] ++ rowsOf kf jf) ∧ (PSt Z h ps q ks js ss po di ma se kf jf mk sc en ts sl st lm p0x p1x d0 d1 m0 m1 s0 s1 sz KF JF sn la sv)
set_option maxRecDepth 65536 in
set_option maxHeartbeats 40000000 in
theorem rmfb (l : Launch) (Z : State) (a0 : Array Value) (hw : ∀ d ∈ tables_1, d.before a0 Z = true) (ws : List Jvm.Cond) (ps q ks js ss po di ma se : Addr) (kf jf : Nat → Addr) (mk sc en ts sl : Int32) (st lm p0 p1 d0 d1 : Int64) (m0 m1 s0 s1 : Int32) (sz : Nat → Int32) (KF : Nat → Nat → Int64) (JF : Nat → Nat → Int32) (sn : Int32) (la : Int64) (sv : Value) (h0 : Heap) (n0 : Nat) (Z0 : n0 ≤ h0.size) (hO : PSt Z h0 ps q ks js ss po di ma se kf jf mk sc en ts sl st lm p0 p1 d0 d1 m0 m1 s0 s1 sz KF JF sn la sv) (hPs : PSs n0 ps q ks js ss po di ma se kf jf) (hkd : (ts.toInt = 0 ∧ (en.toInt = 0 ∨ en.toInt = 1)) ∨ ts.toInt = 1) (hbd : 0 ≤ mk.toInt ∧ mk.toInt ≤ 1000) (hsd : Hid (Rch en ts sl mk m0 m1 → Sd sc s0 s1)) :
    MetFree l (⟨cP, "finishBack", "()Z"⟩ : MethodName) (head1 (Jvm.Cond.code (⟨cP, "finishBack", "()Z"⟩ : MethodName) kc8 5 (some .boolean) :: ws) ({ frames := 0, cells := 0, slots := 0, locals := 0 } : Room)) (fun aa UU => aa = #[(.ref ps)] ∧ Z.Warmed39 UU.vm ∧ UU.heap = h0) (fun _ _ _ _ _ => True) (fun _ UU oo UU' => ∃ vv LL, oo = .returned vv ∧ Qfb Z ps q ks js ss po di ma se kf jf mk sc en ts sl st lm p0 p1 d0 d1 m0 m1 s0 s1 sz KF JF sn la sv h0 n0 vv UU'.heap LL ∧ FrameEnd UU oo UU' LL 0 0) := by
  refine MetFree.of_bodySF (plainFor_of_name pn_4) hisR ?_
  intro p e s m args below meth c s₁ Bd hml0 hP hK
  obtain ⟨rfl, hZ, hh⟩ := hP
  have hx := Bd.exec
  have hby := Bd.bytes
  have hlk : meth.locks = false := BodyLoose.notSynchronized Bd
  have hml : c.maxLocals = 5 := hml0
  have hown : s.vm.findClass cP = some m.cls := findClass_of_methodNamed Bd.named
  have hnm := (name_of_methodNamed Bd.named Bd.method).1
  have X0 : Stand p l e ({ frames := 0, cells := 0, slots := 0, locals := 0 } : Room) s m #[(.ref ps)] below meth c s₁ [] 0 0 := Stand.of_body Bd
  have e0 : s₁.heap = h0 := by rw [← hh, Bd.state]; rfl
  have N0 := Fr.nil n0
  have K0 : Keep h0 h0 ([ps, q, ss, po, di, ma, se] ++ rowsOf kf jf) := Keep.refl h0 _
  refine (?_ : Go p e below s (Qfb Z ps q ks js ss po di ma se kf jf mk sc en ts sl st lm p0 p1 d0 d1 m0 m1 s0 s1 sz KF JF sn la sv h0 n0) 0 0 (s₁.setTop (entryFrame m #[(.ref ps)] 5)))
  rw [ef_rmfb]
  generalize hQ : Qfb Z ps q ks js ss po di ma se kf jf mk sc en ts sl st lm p0 p1 d0 d1 m0 m1 s0 s1 sz KF JF sn la sv h0 n0 = Q
  obtain ⟨hPF, c_vp, c_vd, c_vm, c_vs, hQF⟩ := hO
  obtain ⟨ND, Ik, Ij, GR, N_ps, N_q, N_ks, N_js, N_ss, N_po, N_di, N_ma, N_se, G_ps, G_q, G_ss, G_po, G_di, G_ma, G_se⟩ := hPs
  show Go p e below s Q 0 0 (s₁.setTop (mkF m 0 #[vr ps, un, un, un, un] []))
  suffices J2 : ∀ (Tg1 : State) (hg1 : Heap) (Lgg1 : List Loc) (Xg1 : Stand p l e ({ frames := 0, cells := 0, slots := 0, locals := 0 } : Room) s m #[(.ref ps)] below meth c Tg1 Lgg1 0 0) (eg1 : Tg1.heap = hg1) (Ng1 : Fr n0 Lgg1) (Kg1 : Keep h0 hg1 ([ps, q, ss, po, di, ma, se] ++ rowsOf kf jf)) (jr : Int32) (hfg1_0 : PFs Z hg1 ps po mk di ma se sc q st lm en ts sl sv) (hfg1_1 : Vec Z hg1 po .long (2 : Int32) (longs (lst [p0, p1]))) (hfg1_2 : Vec Z hg1 di .long (2 : Int32) (longs (lst [d0, d1]))) (hfg1_3 : Vec Z hg1 ma .int (2 : Int32) (ints (lst [m0, m1]))) (hfg1_4 : Vec Z hg1 se .int (2 : Int32) (ints (lst [s0, s1]))) (hfg1_5 : QF Z hg1 q ks js ss kf jf sz KF JF sn la) (hpg1_0 : (jr.toInt = 1 ∧ Rch en ts sl mk m0 m1) ∨ (jr.toInt = 0 ∧ ¬ Rch en ts sl mk m0 m1)), Go p e below s Q 0 0 (Tg1.setTop (mkF m 45 #[vr ps, un, un, un, un] [(.int jr)])) by
    refine gA X0 hx hby rfl d8_0 rfl rfl ?_
    obtain ⟨T3, X3, e3, st3⟩ := getF X0 hx hZ hown (host := "") (Or.inl (tb hw 79 rfl)) Via.refl e0 hPF.2.2.2.2.2.2.2.2.2.2.2.2.1 (g := (mkF m 1 #[vr ps, un, un, un, un] [(.ref ps)])) rfl rfl (hb hby d8_1)
    refine Go.st st3 ?_
    have f4 := rng32 ts
    have f5 := liI_0
    by_cases c6 : ts.toInt = 0
    ·
      refine gY X3 hx hby rfl (pc0 := 4) (pc' := 22) rfl d8_4 rfl ((if0 _ _).trans (teq (eqI rfl liI_0 c6)).1) (by decide) (by decide) ?_
      refine gA X3 hx hby rfl d8_22 rfl rfl ?_
      obtain ⟨T7, X7, e7, st7⟩ := getF X3 hx hZ hown (host := "") (Or.inl (tb hw 39 rfl)) Via.refl e3 hPF.2.2.2.2.1 (g := (mkF m 23 #[vr ps, un, un, un, un] [(.ref ps)])) rfl rfl (hb hby d8_23)
      refine Go.st st7 ?_
      refine gA X7 hx hby rfl d8_26 rfl rfl ?_
      show Go p e below s Q 0 0 (T7.setTop (mkF m 27 #[vr ps, un, un, un, un] [(.ref ps), (.ref ma)]))
      obtain ⟨T8, X8, e8, st8⟩ := getF X7 hx hZ hown (host := "") (Or.inl (tb hw 77 rfl)) Via.refl e7 hPF.2.2.2.2.2.2.2.2.2.2.2.1 (g := (mkF m 27 #[vr ps, un, un, un, un] [(.ref ps), (.ref ma)])) rfl rfl (hb hby d8_27)
      refine Go.st st8 ?_
      have f10 := rng32 en
      have f11 := liI_2
      have r12 : 0 ≤ en.toInt := by omega
      have r13 : en.toInt < (2 : Int32).toInt := by omega
      refine Go.st (Vec.ildI X8 hx hZ e8 c_vm (j := en) r12 r13 (g := (mkF m 30 #[vr ps, un, un, un, un] [(.int en), (.ref ma)])) rfl rfl (hb hby d8_30)) ?_
      show Go p e below s Q 0 0 (T8.setTop (mkF m 31 #[vr ps, un, un, un, un] [(.int ((lst [m0, m1]) en.toInt.toNat))]))
      have f14 := rng32 ((lst [m0, m1]) en.toInt.toNat)
      generalize hv_v15 : ((lst [m0, m1]) en.toInt.toNat) = v15 at f14 ⊢
      have hme := pick3 hv_v15 (by omega)
      refine gA X8 hx hby rfl d8_31 rfl rfl ?_
      obtain ⟨T16, X16, e16, st16⟩ := getF X8 hx hZ hown (host := "") (Or.inl (tb hw 55 rfl)) Via.refl e8 hPF.2.2.1 (g := (mkF m 32 #[vr ps, un, un, un, un] [(.ref ps), (.int v15)])) rfl rfl (hb hby d8_32)
      refine Go.st st16 ?_
      refine gI X16 hx hby rfl d8_35 ?_
      refine Go.st (fun _ k => XS.iadd X16.here hx rfl (hb hby d8_36) rfl k) ?_
      have f17 := rng32 mk
      have f18 := liI_1
      have f19 := c_iadd mk (1 : Int32)
      have f20 := rng32 (mk + (1 : Int32))
      by_cases c21 : v15.toInt = (mk + (1 : Int32)).toInt
      ·
        refine gM X16 hx hby rfl d8_37 rfl (teq (eqI rfl rfl c21)).2 ?_
        refine gI X16 hx hby rfl d8_40 ?_
        show Go p e below s Q 0 0 (T16.setTop (mkF m 41 #[vr ps, un, un, un, un] [(.int (1 : Int32))]))
        refine gG X16 hx hby rfl (pc0 := 41) (pc' := 45) rfl d8_41 (by decide) (by decide) ?_
        show Go p e below s Q 0 0 (T16.setTop (mkF m 45 #[vr ps, un, un, un, un] [(.int (1 : Int32))]))
        exact J2 T16 h0 _ (up X16 (by decide) (by decide)) e16 N0 K0 (1 : Int32) hPF c_vp c_vd c_vm c_vs hQF (by simp only [Rch]; omega)
      ·
        refine gZ X16 hx hby rfl (pc0 := 37) (pc' := 44) rfl d8_37 rfl (feq (neI rfl rfl c21)).2 (by decide) (by decide) ?_
        refine gI X16 hx hby rfl d8_44 ?_
        show Go p e below s Q 0 0 (T16.setTop (mkF m 45 #[vr ps, un, un, un, un] [(.int (0 : Int32))]))
        exact J2 T16 h0 _ (up X16 (by decide) (by decide)) e16 N0 K0 (0 : Int32) hPF c_vp c_vd c_vm c_vs hQF (by simp only [Rch]; omega)
    ·
      refine gN X3 hx hby rfl d8_4 rfl ((if0 _ _).trans (feq (neI rfl liI_0 c6)).1) ?_
      refine gA X3 hx hby rfl d8_7 rfl rfl ?_
      obtain ⟨T22, X22, e22, st22⟩ := getF X3 hx hZ hown (host := "") (Or.inl (tb hw 81 rfl)) Via.refl e3 hPF.2.2.2.2.2.2.2.2.2.2.2.2.2.1 (g := (mkF m 8 #[vr ps, un, un, un, un] [(.ref ps)])) rfl rfl (hb hby d8_8)
      refine Go.st st22 ?_
      have f23 := rng32 sl
      by_cases c24 : sl.toInt = 0
      ·
        refine gN X22 hx hby rfl d8_11 rfl ((if0 _ _).trans (teq (eqI rfl liI_0 c24)).2) ?_
        show Go p e below s Q 0 0 (T22.setTop (mkF m 14 #[vr ps, un, un, un, un] []))
        refine gI X22 hx hby rfl d8_14 ?_
        refine gG X22 hx hby rfl (pc0 := 15) (pc' := 45) rfl d8_15 (by decide) (by decide) ?_
        show Go p e below s Q 0 0 (T22.setTop (mkF m 45 #[vr ps, un, un, un, un] [(.int (1 : Int32))]))
        have f25 := liI_1
        exact J2 T22 h0 _ (up X22 (by decide) (by decide)) e22 N0 K0 (1 : Int32) hPF c_vp c_vd c_vm c_vs hQF (by simp only [Rch]; omega)
      ·
        refine gY X22 hx hby rfl (pc0 := 11) (pc' := 18) rfl d8_11 rfl ((if0 _ _).trans (feq (neI rfl liI_0 c24)).2) (by decide) (by decide) ?_
        show Go p e below s Q 0 0 (T22.setTop (mkF m 18 #[vr ps, un, un, un, un] []))
        refine gI X22 hx hby rfl d8_18 ?_
        refine gG X22 hx hby rfl (pc0 := 19) (pc' := 45) rfl d8_19 (by decide) (by decide) ?_
        show Go p e below s Q 0 0 (T22.setTop (mkF m 45 #[vr ps, un, un, un, un] [(.int (0 : Int32))]))
        exact J2 T22 h0 _ (up X22 (by decide) (by decide)) e22 N0 K0 (0 : Int32) hPF c_vp c_vd c_vm c_vs hQF (by simp only [Rch]; omega)
  intro Tg1 hg1 Lgg1 Xg1 eg1 Ng1 Kg1 jr hfg1_0 hfg1_1 hfg1_2 hfg1_3 hfg1_4 hfg1_5 hpg1_0
  have f26 := rng32 jr
  show Go p e below s Q 0 0 (Tg1.setTop (mkF m 45 #[vr ps, un, un, un, un] [(.int jr)]))
  refine gT Xg1 hx hby rfl d8_45 rfl (l' := #[vr ps, vi jr, un, un, un]) rfl ?_
  refine gC Xg1 hx hby rfl d8_46 rfl ?_
  have f27 := liI_0
  by_cases c28 : jr.toInt = 0
  ·
    refine gN Xg1 hx hby rfl d8_47 rfl ((if0 _ _).trans (teq (eqI rfl liI_0 c28)).2) ?_
    show Go p e below s Q 0 0 (Tg1.setTop (mkF m 50 #[vr ps, vi jr, un, un, un] []))
    have hnR : ¬ Rch en ts sl mk m0 m1 := (Or.resolve_left hpg1_0 (fun q => absurd q.1 (by omega))).2
    refine gI Xg1 hx hby rfl d8_50 ?_
    show Go p e below s Q 0 0 (Tg1.setTop (mkF m 51 #[vr ps, vi jr, un, un, un] [(.int (0 : Int32))]))
    have hO29 : PSt Z hg1 ps q ks js ss po di ma se kf jf mk sc en ts sl st lm p0 p1 d0 d1 m0 m1 s0 s1 sz KF JF sn la sv := ⟨hfg1_0, hfg1_1, hfg1_2, hfg1_3, hfg1_4, hfg1_5⟩
    exact Go.retN Xg1 hx hlk (by simp) Bd.returns (hb hby d8_51) (z' := (0 : Int32)) (by decide) (by rw [← hQ, eg1]; exact ⟨p0, p1, (0 : Int32), rfl, Ng1, (by exact Or.inl ⟨by decide, hnR, rfl, rfl⟩), Kg1, hO29⟩) (by decide) (by decide)
  ·
    refine gY Xg1 hx hby rfl (pc0 := 47) (pc' := 52) rfl d8_47 rfl ((if0 _ _).trans (feq (neI rfl liI_0 c28)).2) (by decide) (by decide) ?_
    show Go p e below s Q 0 0 (Tg1.setTop (mkF m 52 #[vr ps, vi jr, un, un, un] []))
    have hRR : Rch en ts sl mk m0 m1 := (Or.resolve_right hpg1_0 (fun q => absurd q.1 (by omega))).2
    have hS : (sc.toInt = 1 ∧ (s0.toInt = 0 ∨ s0.toInt = 1)) ∨ (sc.toInt = 2 ∧ ((s0.toInt = 0 ∧ s1.toInt = 1) ∨ (s0.toInt = 1 ∧ s1.toInt = 0))) := hsd hRR
    refine gA Xg1 hx hby rfl d8_52 rfl rfl ?_
    obtain ⟨T30, X30, e30, st30⟩ := getF Xg1 hx hZ hown (host := "") (Or.inl (tb hw 75 rfl)) Via.refl eg1 hfg1_0.2.2.2.2.2.2.2.2.2.2.1 (g := (mkF m 53 #[vr ps, vi jr, un, un, un] [(.ref ps)])) rfl rfl (hb hby d8_53)
    refine Go.st st30 ?_
    refine Go.st (fun _ k => XS.lstoreN X30.here hx rfl (hb hby d8_56) rfl (l' := #[vr ps, vi jr, vj lm, sd, un]) rfl k) ?_
    refine gI X30 hx hby rfl d8_57 ?_
    refine gS X30 hx hby rfl d8_58 rfl (l' := #[vr ps, vi jr, vj lm, sd, vi (0 : Int32)]) rfl ?_
    refine gD X30 hx hby rfl d8_60 rfl ?_
    show Go p e below s Q 0 0 (T30.setTop (mkF m 62 #[vr ps, vi jr, vj lm, sd, vi (0 : Int32)] [(.int (0 : Int32))]))
    refine gA X30 hx hby rfl d8_62 rfl rfl ?_
    obtain ⟨T31, X31, e31, st31⟩ := getF X30 hx hZ hown (host := "") (Or.inl (tb hw 35 rfl)) Via.refl e30 hfg1_0.2.1 (g := (mkF m 63 #[vr ps, vi jr, vj lm, sd, vi (0 : Int32)] [(.ref ps), (.int (0 : Int32))])) rfl rfl (hb hby d8_63)
    refine Go.st st31 ?_
    refine Go.st (Vec.len X31 hx hZ e31 hfg1_1 (g := (mkF m 66 #[vr ps, vi jr, vj lm, sd, vi (0 : Int32)] [(.ref po), (.int (0 : Int32))])) rfl rfl (hb hby d8_66)) ?_
    refine gM X31 hx hby rfl d8_67 rfl (tlt (ltI liI_0 liI_2 (by decide))).2.1 ?_
    refine gA X31 hx hby rfl d8_70 rfl rfl ?_
    obtain ⟨T33, X33, e33, st33⟩ := getF X31 hx hZ hown (host := "") (Or.inl (tb hw 35 rfl)) Via.refl e31 hfg1_0.2.1 (g := (mkF m 71 #[vr ps, vi jr, vj lm, sd, vi (0 : Int32)] [(.ref ps)])) rfl rfl (hb hby d8_71)
    refine Go.st st33 ?_
    show Go p e below s Q 0 0 (T33.setTop (mkF m 74 #[vr ps, vi jr, vj lm, sd, vi (0 : Int32)] [(.ref po)]))
    refine gD X33 hx hby rfl d8_74 rfl ?_
    refine Go.st (fun _ k => XT.dup2 X33.here hx rfl (hb hby d8_76) rfl rfl rfl k) ?_
    refine Go.st (Vec.ildJ X33 hx hZ e33 hfg1_1 (j := (0 : Int32)) (by decide) (by decide) (g := (mkF m 77 #[vr ps, vi jr, vj lm, sd, vi (0 : Int32)] [(.int (0 : Int32)), (.ref po), (.int (0 : Int32)), (.ref po)])) rfl rfl (hb hby d8_77)) ?_
    refine gE X33 hx hby rfl d8_78 rfl ?_
    refine Go.st (fun _ k => XS.lsub X33.here hx rfl (hb hby d8_79) rfl k) ?_
    obtain ⟨T35, h35, X35, e35, W35, V35, st35⟩ := Vec.istJ X33 hx hZ e33 hfg1_1 (j := (0 : Int32)) (by decide) (by decide) (g := (mkF m 80 #[vr ps, vi jr, vj lm, sd, vi (0 : Int32)] [(.long (p0 - lm)), (.int (0 : Int32)), (.ref po)])) rfl rfl (hb hby d8_80)
    have h36 : PFs Z h35 ps po mk di ma se sc q st lm en ts sl sv := hfg1_0.other W35 (ndq ND 0 5 rfl)
    have h37 : Vec Z h35 po .long (2 : Int32) (longs (lst [(p0 - lm), p1])) := Vec.of_eq V35 (congrArg longs (upd_lst _ 0 _ (Nat.le_of_ble_eq_true rfl)))
    have h38 : Vec Z h35 di .long (2 : Int32) (longs (lst [d0, d1])) := hfg1_2.other W35 (ndq ND 6 5 rfl)
    have h39 : Vec Z h35 ma .int (2 : Int32) (ints (lst [m0, m1])) := hfg1_3.other W35 (ndq ND 7 5 rfl)
    have h40 : Vec Z h35 se .int (2 : Int32) (ints (lst [s0, s1])) := hfg1_4.other W35 (ndq ND 8 5 rfl)
    have h41 : QF Z h35 q ks js ss kf jf sz KF JF sn la := hfg1_5.other W35 (ndq ND 1 5 rfl) (ndq ND 2 5 rfl) (ndq ND 3 5 rfl) (ndq ND 4 5 rfl) N_po
    have K35 : Keep h0 h35 ([ps, q, ss, po, di, ma, se] ++ rowsOf kf jf) := Kg1.wr W35 (Or.inl (List.mem_append_left _ (List.mem_of_getElem? (i := 3) rfl)))
    have N35 := Fr.snoc X35 Ng1 G_po
    refine Go.st st35 ?_
    show Go p e below s Q 0 0 (T35.setTop (mkF m 81 #[vr ps, vi jr, vj lm, sd, vi (0 : Int32)] []))
    refine gInc X35 hx hby rfl d8_81 rfl (l' := #[vr ps, vi jr, vj lm, sd, vi (1 : Int32)]) rfl ?_
    refine gG X35 hx hby rfl (pc0 := 84) (pc' := 60) rfl d8_84 (by decide) (by decide) ?_
    refine gD X35 hx hby rfl d8_60 rfl ?_
    refine gA X35 hx hby rfl d8_62 rfl rfl ?_
    obtain ⟨T42, X42, e42, st42⟩ := getF X35 hx hZ hown (host := "") (Or.inl (tb hw 35 rfl)) Via.refl e35 h36.2.1 (g := (mkF m 63 #[vr ps, vi jr, vj lm, sd, vi (1 : Int32)] [(.ref ps), (.int (1 : Int32))])) rfl rfl (hb hby d8_63)
    refine Go.st st42 ?_
    refine Go.st (Vec.len X42 hx hZ e42 h37 (g := (mkF m 66 #[vr ps, vi jr, vj lm, sd, vi (1 : Int32)] [(.ref po), (.int (1 : Int32))])) rfl rfl (hb hby d8_66)) ?_
    show Go p e below s Q 0 0 (T42.setTop (mkF m 67 #[vr ps, vi jr, vj lm, sd, vi (1 : Int32)] [(.int (2 : Int32)), (.int (1 : Int32))]))
    refine gM X42 hx hby rfl d8_67 rfl (tlt (ltI liI_1 liI_2 (by decide))).2.1 ?_
    refine gA X42 hx hby rfl d8_70 rfl rfl ?_
    obtain ⟨T44, X44, e44, st44⟩ := getF X42 hx hZ hown (host := "") (Or.inl (tb hw 35 rfl)) Via.refl e42 h36.2.1 (g := (mkF m 71 #[vr ps, vi jr, vj lm, sd, vi (1 : Int32)] [(.ref ps)])) rfl rfl (hb hby d8_71)
    refine Go.st st44 ?_
    refine gD X44 hx hby rfl d8_74 rfl ?_
    refine Go.st (fun _ k => XT.dup2 X44.here hx rfl (hb hby d8_76) rfl rfl rfl k) ?_
    refine Go.st (Vec.ildJ X44 hx hZ e44 h37 (j := (1 : Int32)) (by decide) (by decide) (g := (mkF m 77 #[vr ps, vi jr, vj lm, sd, vi (1 : Int32)] [(.int (1 : Int32)), (.ref po), (.int (1 : Int32)), (.ref po)])) rfl rfl (hb hby d8_77)) ?_
    show Go p e below s Q 0 0 (T44.setTop (mkF m 78 #[vr ps, vi jr, vj lm, sd, vi (1 : Int32)] [(.long p1), (.int (1 : Int32)), (.ref po)]))
    refine gE X44 hx hby rfl d8_78 rfl ?_
    refine Go.st (fun _ k => XS.lsub X44.here hx rfl (hb hby d8_79) rfl k) ?_
    obtain ⟨T46, h46, X46, e46, W46, V46, st46⟩ := Vec.istJ X44 hx hZ e44 h37 (j := (1 : Int32)) (by decide) (by decide) (g := (mkF m 80 #[vr ps, vi jr, vj lm, sd, vi (1 : Int32)] [(.long (p1 - lm)), (.int (1 : Int32)), (.ref po)])) rfl rfl (hb hby d8_80)
    have h47 : PFs Z h46 ps po mk di ma se sc q st lm en ts sl sv := h36.other W46 (ndq ND 0 5 rfl)
    have h48 : Vec Z h46 po .long (2 : Int32) (longs (lst [(p0 - lm), (p1 - lm)])) := Vec.of_eq V46 (congrArg longs (upd_lst _ 1 _ (Nat.le_of_ble_eq_true rfl)))
    have h49 : Vec Z h46 di .long (2 : Int32) (longs (lst [d0, d1])) := h38.other W46 (ndq ND 6 5 rfl)
    have h50 : Vec Z h46 ma .int (2 : Int32) (ints (lst [m0, m1])) := h39.other W46 (ndq ND 7 5 rfl)
    have h51 : Vec Z h46 se .int (2 : Int32) (ints (lst [s0, s1])) := h40.other W46 (ndq ND 8 5 rfl)
    have h52 : QF Z h46 q ks js ss kf jf sz KF JF sn la := h41.other W46 (ndq ND 1 5 rfl) (ndq ND 2 5 rfl) (ndq ND 3 5 rfl) (ndq ND 4 5 rfl) N_po
    have K46 : Keep h0 h46 ([ps, q, ss, po, di, ma, se] ++ rowsOf kf jf) := K35.wr W46 (Or.inl (List.mem_append_left _ (List.mem_of_getElem? (i := 3) rfl)))
    have N46 := Fr.snoc X46 N35 G_po
    refine Go.st st46 ?_
    show Go p e below s Q 0 0 (T46.setTop (mkF m 81 #[vr ps, vi jr, vj lm, sd, vi (1 : Int32)] []))
    refine gInc X46 hx hby rfl d8_81 rfl (l' := #[vr ps, vi jr, vj lm, sd, vi (2 : Int32)]) rfl ?_
    refine gG X46 hx hby rfl (pc0 := 84) (pc' := 60) rfl d8_84 (by decide) (by decide) ?_
    refine gD X46 hx hby rfl d8_60 rfl ?_
    refine gA X46 hx hby rfl d8_62 rfl rfl ?_
    obtain ⟨T53, X53, e53, st53⟩ := getF X46 hx hZ hown (host := "") (Or.inl (tb hw 35 rfl)) Via.refl e46 h47.2.1 (g := (mkF m 63 #[vr ps, vi jr, vj lm, sd, vi (2 : Int32)] [(.ref ps), (.int (2 : Int32))])) rfl rfl (hb hby d8_63)
    refine Go.st st53 ?_
    refine Go.st (Vec.len X53 hx hZ e53 h48 (g := (mkF m 66 #[vr ps, vi jr, vj lm, sd, vi (2 : Int32)] [(.ref po), (.int (2 : Int32))])) rfl rfl (hb hby d8_66)) ?_
    show Go p e below s Q 0 0 (T53.setTop (mkF m 67 #[vr ps, vi jr, vj lm, sd, vi (2 : Int32)] [(.int (2 : Int32)), (.int (2 : Int32))]))
    refine gZ X53 hx hby rfl (pc0 := 67) (pc' := 87) rfl d8_67 rfl (flt (nltI liI_2 liI_2 (by decide))).2.1 (by decide) (by decide) ?_
    refine gI X53 hx hby rfl d8_87 ?_
    refine gS X53 hx hby rfl d8_88 rfl (l' := #[vr ps, vi jr, vj lm, sd, vi (0 : Int32)]) rfl ?_
    refine gD X53 hx hby rfl d8_90 rfl ?_
    refine gA X53 hx hby rfl d8_92 rfl rfl ?_
    obtain ⟨T55, X55, e55, st55⟩ := getF X53 hx hZ hown (host := "") (Or.inl (tb hw 57 rfl)) Via.refl e53 h47.2.2.2.2.2.2.1 (g := (mkF m 93 #[vr ps, vi jr, vj lm, sd, vi (0 : Int32)] [(.ref ps), (.int (0 : Int32))])) rfl rfl (hb hby d8_93)
    refine Go.st st55 ?_
    show Go p e below s Q 0 0 (T55.setTop (mkF m 96 #[vr ps, vi jr, vj lm, sd, vi (0 : Int32)] [(.int sc), (.int (0 : Int32))]))
    have f56 := rng32 sc
    have c57 : 0 < sc.toInt := by omega
    refine gM X55 hx hby rfl d8_96 rfl (tlt (ltI liI_0 rfl c57)).2.1 ?_
    refine gA X55 hx hby rfl d8_99 rfl rfl ?_
    obtain ⟨T58, X58, e58, st58⟩ := getF X55 hx hZ hown (host := "") (Or.inl (tb hw 35 rfl)) Via.refl e55 h47.2.1 (g := (mkF m 100 #[vr ps, vi jr, vj lm, sd, vi (0 : Int32)] [(.ref ps)])) rfl rfl (hb hby d8_100)
    refine Go.st st58 ?_
    refine gA X58 hx hby rfl d8_103 rfl rfl ?_
    obtain ⟨T59, X59, e59, st59⟩ := getF X58 hx hZ hown (host := "") (Or.inl (tb hw 41 rfl)) Via.refl e58 h47.2.2.2.2.2.1 (g := (mkF m 104 #[vr ps, vi jr, vj lm, sd, vi (0 : Int32)] [(.ref ps), (.ref po)])) rfl rfl (hb hby d8_104)
    refine Go.st st59 ?_
    refine gD X59 hx hby rfl d8_107 rfl ?_
    show Go p e below s Q 0 0 (T59.setTop (mkF m 109 #[vr ps, vi jr, vj lm, sd, vi (0 : Int32)] [(.int (0 : Int32)), (.ref se), (.ref po)]))
    refine Go.st (Vec.ildI X59 hx hZ e59 h51 (j := (0 : Int32)) (by decide) (by decide) (g := (mkF m 109 #[vr ps, vi jr, vj lm, sd, vi (0 : Int32)] [(.int (0 : Int32)), (.ref se), (.ref po)])) rfl rfl (hb hby d8_109)) ?_
    refine Go.st (fun _ k => XT.dup2 X59.here hx rfl (hb hby d8_110) rfl rfl rfl k) ?_
    have f62 := rng32 s0
    have f63 := liI_2
    have r64 : 0 ≤ s0.toInt := by omega
    have r65 : s0.toInt < (2 : Int32).toInt := by omega
    refine Go.st (Vec.ildJ X59 hx hZ e59 h48 (j := s0) r64 r65 (g := (mkF m 111 #[vr ps, vi jr, vj lm, sd, vi (0 : Int32)] [(.int s0), (.ref po), (.int s0), (.ref po)])) rfl rfl (hb hby d8_111)) ?_
    refine gE X59 hx hby rfl d8_112 rfl ?_
    refine gA X59 hx hby rfl d8_113 rfl rfl ?_
    obtain ⟨T66, X66, e66, st66⟩ := getF X59 hx hZ hown (host := "") (Or.inl (tb hw 37 rfl)) Via.refl e59 h47.2.2.2.1 (g := (mkF m 114 #[vr ps, vi jr, vj lm, sd, vi (0 : Int32)] [(.ref ps), (.long lm), (.long ((lst [(p0 - lm), (p1 - lm)]) s0.toInt.toNat)), (.int s0), (.ref po)])) rfl rfl (hb hby d8_114)
    refine Go.st st66 ?_
    show Go p e below s Q 0 0 (T66.setTop (mkF m 117 #[vr ps, vi jr, vj lm, sd, vi (0 : Int32)] [(.ref di), (.long lm), (.long ((lst [(p0 - lm), (p1 - lm)]) s0.toInt.toNat)), (.int s0), (.ref po)]))
    refine gA X66 hx hby rfl d8_117 rfl rfl ?_
    obtain ⟨T67, X67, e67, st67⟩ := getF X66 hx hZ hown (host := "") (Or.inl (tb hw 41 rfl)) Via.refl e66 h47.2.2.2.2.2.1 (g := (mkF m 118 #[vr ps, vi jr, vj lm, sd, vi (0 : Int32)] [(.ref ps), (.ref di), (.long lm), (.long ((lst [(p0 - lm), (p1 - lm)]) s0.toInt.toNat)), (.int s0), (.ref po)])) rfl rfl (hb hby d8_118)
    refine Go.st st67 ?_
    refine gD X67 hx hby rfl d8_121 rfl ?_
    refine Go.st (Vec.ildI X67 hx hZ e67 h51 (j := (0 : Int32)) (by decide) (by decide) (g := (mkF m 123 #[vr ps, vi jr, vj lm, sd, vi (0 : Int32)] [(.int (0 : Int32)), (.ref se), (.ref di), (.long lm), (.long ((lst [(p0 - lm), (p1 - lm)]) s0.toInt.toNat)), (.int s0), (.ref po)])) rfl rfl (hb hby d8_123)) ?_
    have r70 : 0 ≤ s0.toInt := by omega
    have r71 : s0.toInt < (2 : Int32).toInt := by omega
    refine Go.st (Vec.ildJ X67 hx hZ e67 h49 (j := s0) r70 r71 (g := (mkF m 124 #[vr ps, vi jr, vj lm, sd, vi (0 : Int32)] [(.int s0), (.ref di), (.long lm), (.long ((lst [(p0 - lm), (p1 - lm)]) s0.toInt.toNat)), (.int s0), (.ref po)])) rfl rfl (hb hby d8_124)) ?_
    refine Go.st (fun _ k => XS.lsub X67.here hx rfl (hb hby d8_125) rfl k) ?_
    show Go p e below s Q 0 0 (T67.setTop (mkF m 126 #[vr ps, vi jr, vj lm, sd, vi (0 : Int32)] [(.long (lm - ((lst [d0, d1]) s0.toInt.toNat))), (.long ((lst [(p0 - lm), (p1 - lm)]) s0.toInt.toNat)), (.int s0), (.ref po)]))
    refine Go.st (fun _ k => XS.ladd X67.here hx rfl (hb hby d8_126) rfl k) ?_
    have r73 : 0 ≤ s0.toInt := by omega
    have r74 : s0.toInt < (2 : Int32).toInt := by omega
    obtain ⟨T72, h72, X72, e72, W72, V72, st72⟩ := Vec.istJ X67 hx hZ e67 h48 (j := s0) r73 r74 (g := (mkF m 127 #[vr ps, vi jr, vj lm, sd, vi (0 : Int32)] [(.long (((lst [(p0 - lm), (p1 - lm)]) s0.toInt.toNat) + (lm - ((lst [d0, d1]) s0.toInt.toNat)))), (.int s0), (.ref po)])) rfl rfl (hb hby d8_127)
    have h75 : PFs Z h72 ps po mk di ma se sc q st lm en ts sl sv := h47.other W72 (ndq ND 0 5 rfl)
    have h76 : Vec Z h72 po .long (2 : Int32) (longs (updF (lst [(p0 - lm), (p1 - lm)]) s0.toInt.toNat (((lst [(p0 - lm), (p1 - lm)]) s0.toInt.toNat) + (lm - ((lst [d0, d1]) s0.toInt.toNat))))) := V72
    have h77 : Vec Z h72 di .long (2 : Int32) (longs (lst [d0, d1])) := h49.other W72 (ndq ND 6 5 rfl)
    have h78 : Vec Z h72 ma .int (2 : Int32) (ints (lst [m0, m1])) := h50.other W72 (ndq ND 7 5 rfl)
    have h79 : Vec Z h72 se .int (2 : Int32) (ints (lst [s0, s1])) := h51.other W72 (ndq ND 8 5 rfl)
    have h80 : QF Z h72 q ks js ss kf jf sz KF JF sn la := h52.other W72 (ndq ND 1 5 rfl) (ndq ND 2 5 rfl) (ndq ND 3 5 rfl) (ndq ND 4 5 rfl) N_po
    have K72 : Keep h0 h72 ([ps, q, ss, po, di, ma, se] ++ rowsOf kf jf) := K46.wr W72 (Or.inl (List.mem_append_left _ (List.mem_of_getElem? (i := 3) rfl)))
    have N72 := Fr.snoc X72 N46 G_po
    refine Go.st st72 ?_
    show Go p e below s Q 0 0 (T72.setTop (mkF m 128 #[vr ps, vi jr, vj lm, sd, vi (0 : Int32)] []))
    obtain ⟨A0, B0, hp0, q0⟩ := fin2 (A := (p0 - lm)) (B := (p1 - lm)) (l := lm) (e0 := d0) (e1 := d1) (i := s0) (by omega)
    have h81 : Vec Z h72 po .long (2 : Int32) (longs (lst [A0, B0])) := Vec.of_eq h76 (congrArg longs q0)
    refine gInc X72 hx hby rfl d8_128 rfl (l' := #[vr ps, vi jr, vj lm, sd, vi (1 : Int32)]) rfl ?_
    refine gG X72 hx hby rfl (pc0 := 131) (pc' := 90) rfl d8_131 (by decide) (by decide) ?_
    refine gD X72 hx hby rfl d8_90 rfl ?_
    refine gA X72 hx hby rfl d8_92 rfl rfl ?_
    obtain ⟨T82, X82, e82, st82⟩ := getF X72 hx hZ hown (host := "") (Or.inl (tb hw 57 rfl)) Via.refl e72 h75.2.2.2.2.2.2.1 (g := (mkF m 93 #[vr ps, vi jr, vj lm, sd, vi (1 : Int32)] [(.ref ps), (.int (1 : Int32))])) rfl rfl (hb hby d8_93)
    refine Go.st st82 ?_
    have f83 := liI_1
    by_cases c84 : 1 < sc.toInt
    ·
      refine gM X82 hx hby rfl d8_96 rfl (tlt (ltI liI_1 rfl c84)).2.1 ?_
      show Go p e below s Q 0 0 (T82.setTop (mkF m 99 #[vr ps, vi jr, vj lm, sd, vi (1 : Int32)] []))
      refine gA X82 hx hby rfl d8_99 rfl rfl ?_
      obtain ⟨T85, X85, e85, st85⟩ := getF X82 hx hZ hown (host := "") (Or.inl (tb hw 35 rfl)) Via.refl e82 h75.2.1 (g := (mkF m 100 #[vr ps, vi jr, vj lm, sd, vi (1 : Int32)] [(.ref ps)])) rfl rfl (hb hby d8_100)
      refine Go.st st85 ?_
      refine gA X85 hx hby rfl d8_103 rfl rfl ?_
      obtain ⟨T86, X86, e86, st86⟩ := getF X85 hx hZ hown (host := "") (Or.inl (tb hw 41 rfl)) Via.refl e85 h75.2.2.2.2.2.1 (g := (mkF m 104 #[vr ps, vi jr, vj lm, sd, vi (1 : Int32)] [(.ref ps), (.ref po)])) rfl rfl (hb hby d8_104)
      refine Go.st st86 ?_
      refine gD X86 hx hby rfl d8_107 rfl ?_
      refine Go.st (Vec.ildI X86 hx hZ e86 h79 (j := (1 : Int32)) (by decide) (by decide) (g := (mkF m 109 #[vr ps, vi jr, vj lm, sd, vi (1 : Int32)] [(.int (1 : Int32)), (.ref se), (.ref po)])) rfl rfl (hb hby d8_109)) ?_
      show Go p e below s Q 0 0 (T86.setTop (mkF m 110 #[vr ps, vi jr, vj lm, sd, vi (1 : Int32)] [(.int s1), (.ref po)]))
      refine Go.st (fun _ k => XT.dup2 X86.here hx rfl (hb hby d8_110) rfl rfl rfl k) ?_
      have f89 := rng32 s1
      have r90 : 0 ≤ s1.toInt := by omega
      have r91 : s1.toInt < (2 : Int32).toInt := by omega
      refine Go.st (Vec.ildJ X86 hx hZ e86 h81 (j := s1) r90 r91 (g := (mkF m 111 #[vr ps, vi jr, vj lm, sd, vi (1 : Int32)] [(.int s1), (.ref po), (.int s1), (.ref po)])) rfl rfl (hb hby d8_111)) ?_
      refine gE X86 hx hby rfl d8_112 rfl ?_
      refine gA X86 hx hby rfl d8_113 rfl rfl ?_
      obtain ⟨T92, X92, e92, st92⟩ := getF X86 hx hZ hown (host := "") (Or.inl (tb hw 37 rfl)) Via.refl e86 h75.2.2.2.1 (g := (mkF m 114 #[vr ps, vi jr, vj lm, sd, vi (1 : Int32)] [(.ref ps), (.long lm), (.long ((lst [A0, B0]) s1.toInt.toNat)), (.int s1), (.ref po)])) rfl rfl (hb hby d8_114)
      refine Go.st st92 ?_
      refine gA X92 hx hby rfl d8_117 rfl rfl ?_
      show Go p e below s Q 0 0 (T92.setTop (mkF m 118 #[vr ps, vi jr, vj lm, sd, vi (1 : Int32)] [(.ref ps), (.ref di), (.long lm), (.long ((lst [A0, B0]) s1.toInt.toNat)), (.int s1), (.ref po)]))
      obtain ⟨T93, X93, e93, st93⟩ := getF X92 hx hZ hown (host := "") (Or.inl (tb hw 41 rfl)) Via.refl e92 h75.2.2.2.2.2.1 (g := (mkF m 118 #[vr ps, vi jr, vj lm, sd, vi (1 : Int32)] [(.ref ps), (.ref di), (.long lm), (.long ((lst [A0, B0]) s1.toInt.toNat)), (.int s1), (.ref po)])) rfl rfl (hb hby d8_118)
      refine Go.st st93 ?_
      refine gD X93 hx hby rfl d8_121 rfl ?_
      refine Go.st (Vec.ildI X93 hx hZ e93 h79 (j := (1 : Int32)) (by decide) (by decide) (g := (mkF m 123 #[vr ps, vi jr, vj lm, sd, vi (1 : Int32)] [(.int (1 : Int32)), (.ref se), (.ref di), (.long lm), (.long ((lst [A0, B0]) s1.toInt.toNat)), (.int s1), (.ref po)])) rfl rfl (hb hby d8_123)) ?_
      have r96 : 0 ≤ s1.toInt := by omega
      have r97 : s1.toInt < (2 : Int32).toInt := by omega
      refine Go.st (Vec.ildJ X93 hx hZ e93 h77 (j := s1) r96 r97 (g := (mkF m 124 #[vr ps, vi jr, vj lm, sd, vi (1 : Int32)] [(.int s1), (.ref di), (.long lm), (.long ((lst [A0, B0]) s1.toInt.toNat)), (.int s1), (.ref po)])) rfl rfl (hb hby d8_124)) ?_
      refine Go.st (fun _ k => XS.lsub X93.here hx rfl (hb hby d8_125) rfl k) ?_
      refine Go.st (fun _ k => XS.ladd X93.here hx rfl (hb hby d8_126) rfl k) ?_
      show Go p e below s Q 0 0 (T93.setTop (mkF m 127 #[vr ps, vi jr, vj lm, sd, vi (1 : Int32)] [(.long (((lst [A0, B0]) s1.toInt.toNat) + (lm - ((lst [d0, d1]) s1.toInt.toNat)))), (.int s1), (.ref po)]))
      have r99 : 0 ≤ s1.toInt := by omega
      have r100 : s1.toInt < (2 : Int32).toInt := by omega
      obtain ⟨T98, h98, X98, e98, W98, V98, st98⟩ := Vec.istJ X93 hx hZ e93 h81 (j := s1) r99 r100 (g := (mkF m 127 #[vr ps, vi jr, vj lm, sd, vi (1 : Int32)] [(.long (((lst [A0, B0]) s1.toInt.toNat) + (lm - ((lst [d0, d1]) s1.toInt.toNat)))), (.int s1), (.ref po)])) rfl rfl (hb hby d8_127)
      have h101 : PFs Z h98 ps po mk di ma se sc q st lm en ts sl sv := h75.other W98 (ndq ND 0 5 rfl)
      have h102 : Vec Z h98 po .long (2 : Int32) (longs (updF (lst [A0, B0]) s1.toInt.toNat (((lst [A0, B0]) s1.toInt.toNat) + (lm - ((lst [d0, d1]) s1.toInt.toNat))))) := V98
      have h103 : Vec Z h98 di .long (2 : Int32) (longs (lst [d0, d1])) := h77.other W98 (ndq ND 6 5 rfl)
      have h104 : Vec Z h98 ma .int (2 : Int32) (ints (lst [m0, m1])) := h78.other W98 (ndq ND 7 5 rfl)
      have h105 : Vec Z h98 se .int (2 : Int32) (ints (lst [s0, s1])) := h79.other W98 (ndq ND 8 5 rfl)
      have h106 : QF Z h98 q ks js ss kf jf sz KF JF sn la := h80.other W98 (ndq ND 1 5 rfl) (ndq ND 2 5 rfl) (ndq ND 3 5 rfl) (ndq ND 4 5 rfl) N_po
      have K98 : Keep h0 h98 ([ps, q, ss, po, di, ma, se] ++ rowsOf kf jf) := K72.wr W98 (Or.inl (List.mem_append_left _ (List.mem_of_getElem? (i := 3) rfl)))
      have N98 := Fr.snoc X98 N72 G_po
      refine Go.st st98 ?_
      show Go p e below s Q 0 0 (T98.setTop (mkF m 128 #[vr ps, vi jr, vj lm, sd, vi (1 : Int32)] []))
      obtain ⟨A1, B1, hp1, q1⟩ := fin2 (A := A0) (B := B0) (l := lm) (e0 := d0) (e1 := d1) (i := s1) (by omega)
      have h107 : Vec Z h98 po .long (2 : Int32) (longs (lst [A1, B1])) := Vec.of_eq h102 (congrArg longs q1)
      refine gInc X98 hx hby rfl d8_128 rfl (l' := #[vr ps, vi jr, vj lm, sd, vi (2 : Int32)]) rfl ?_
      refine gG X98 hx hby rfl (pc0 := 131) (pc' := 90) rfl d8_131 (by decide) (by decide) ?_
      refine gD X98 hx hby rfl d8_90 rfl ?_
      refine gA X98 hx hby rfl d8_92 rfl rfl ?_
      obtain ⟨T108, X108, e108, st108⟩ := getF X98 hx hZ hown (host := "") (Or.inl (tb hw 57 rfl)) Via.refl e98 h101.2.2.2.2.2.2.1 (g := (mkF m 93 #[vr ps, vi jr, vj lm, sd, vi (2 : Int32)] [(.ref ps), (.int (2 : Int32))])) rfl rfl (hb hby d8_93)
      refine Go.st st108 ?_
      have c109 : ¬ (2 < sc.toInt) := by omega
      refine gZ X108 hx hby rfl (pc0 := 96) (pc' := 134) rfl d8_96 rfl (flt (nltI liI_2 rfl c109)).2.1 (by decide) (by decide) ?_
      show Go p e below s Q 0 0 (T108.setTop (mkF m 134 #[vr ps, vi jr, vj lm, sd, vi (2 : Int32)] []))
      refine gI X108 hx hby rfl d8_134 ?_
      show Go p e below s Q 0 0 (T108.setTop (mkF m 135 #[vr ps, vi jr, vj lm, sd, vi (2 : Int32)] [(.int (1 : Int32))]))
      have hO110 : PSt Z h98 ps q ks js ss po di ma se kf jf mk sc en ts sl st lm A1 B1 d0 d1 m0 m1 s0 s1 sz KF JF sn la sv := ⟨h101, h107, h103, h104, h105, h106⟩
      exact Go.retN X108 hx hlk (by simp) Bd.returns (hb hby d8_135) (z' := (1 : Int32)) (by decide) (by rw [← hQ, e108]; exact ⟨A1, B1, (1 : Int32), rfl, N98, (by exact Fb.two (by decide) hRR (by omega) (by omega) hp0 hp1), K98, hO110⟩) (by decide) (by decide)
    ·
      refine gZ X82 hx hby rfl (pc0 := 96) (pc' := 134) rfl d8_96 rfl (flt (nltI liI_1 rfl c84)).2.1 (by decide) (by decide) ?_
      show Go p e below s Q 0 0 (T82.setTop (mkF m 134 #[vr ps, vi jr, vj lm, sd, vi (1 : Int32)] []))
      refine gI X82 hx hby rfl d8_134 ?_
      show Go p e below s Q 0 0 (T82.setTop (mkF m 135 #[vr ps, vi jr, vj lm, sd, vi (1 : Int32)] [(.int (1 : Int32))]))
      have hO111 : PSt Z h72 ps q ks js ss po di ma se kf jf mk sc en ts sl st lm A0 B0 d0 d1 m0 m1 s0 s1 sz KF JF sn la sv := ⟨h75, h81, h77, h78, h79, h80⟩
      exact Go.retN X82 hx hlk (by simp) Bd.returns (hb hby d8_135) (z' := (1 : Int32)) (by decide) (by rw [← hQ, e82]; exact ⟨A0, B0, (1 : Int32), rfl, N72, (by exact Fb.one (by decide) hRR (by omega) hp0), K72, hO111⟩) (by decide) (by decide)
theorem d1_0 : decode kc1 0 = .ok (.aload_n 0, 1) := by decide +kernel
theorem d1_1 : decode kc1 1 = .ok (.invokespecial 20, 3) := by decide +kernel
theorem d1_4 : decode kc1 4 = .ok (.aload_n 0, 1) := by decide +kernel
theorem d1_5 : decode kc1 5 = .ok (.new 25, 3) := by decide +kernel
theorem d1_8 : decode kc1 8 = .ok (.dup, 1) := by decide +kernel
theorem d1_9 : decode kc1 9 = .ok (.invokespecial 27, 3) := by decide +kernel
theorem d1_12 : decode kc1 12 = .ok (.putfield 28, 3) := by decide +kernel
theorem d1_15 : decode kc1 15 = .ok (.aload_n 0, 1) := by decide +kernel
theorem d1_16 : decode kc1 16 = .ok (.iload_n 1, 1) := by decide +kernel
theorem d1_17 : decode kc1 17 = .ok (.newarray .long, 2) := by decide +kernel
theorem d1_19 : decode kc1 19 = .ok (.putfield 34, 3) := by decide +kernel
theorem d1_22 : decode kc1 22 = .ok (.aload_n 0, 1) := by decide +kernel
theorem d1_23 : decode kc1 23 = .ok (.iload_n 1, 1) := by decide +kernel
theorem d1_24 : decode kc1 24 = .ok (.newarray .long, 2) := by decide +kernel
theorem d1_26 : decode kc1 26 = .ok (.putfield 38, 3) := by decide +kernel
theorem d1_29 : decode kc1 29 = .ok (.aload_n 0, 1) := by decide +kernel
theorem d1_30 : decode kc1 30 = .ok (.iload_n 1, 1) := by decide +kernel
theorem d1_31 : decode kc1 31 = .ok (.newarray .int, 2) := by decide +kernel
theorem d1_33 : decode kc1 33 = .ok (.putfield 41, 3) := by decide +kernel
theorem d1_36 : decode kc1 36 = .ok (.aload_n 0, 1) := by decide +kernel
theorem d1_37 : decode kc1 37 = .ok (.iload_n 1, 1) := by decide +kernel
theorem d1_38 : decode kc1 38 = .ok (.newarray .int, 2) := by decide +kernel
theorem d1_40 : decode kc1 40 = .ok (.putfield 45, 3) := by decide +kernel
theorem d1_43 : decode kc1 43 = .ok (.aload_n 0, 1) := by decide +kernel
theorem d1_44 : decode kc1 44 = .ok (.iload_n 1, 1) := by decide +kernel
theorem d1_45 : decode kc1 45 = .ok (.newarray .int, 2) := by decide +kernel
theorem d1_47 : decode kc1 47 = .ok (.putfield 48, 3) := by decide +kernel
theorem d1_50 : decode kc1 50 = .ok (.return_, 1) := by decide +kernel
theorem ef_rm1 (m : MethodId) (ps : Addr) : entryFrame m #[(.ref ps), (.int (2 : Int32))] 2 = mkF m 0 #[vr ps, vi (2 : Int32)] [] := by first | (simp [entryFrame, mkF, argsToLocals, Value.category]; done) | rfl
def Q1 (Z : State) (ps : Addr) (h0 : Heap) (n0 : Nat) (vv : Option Value) (h : Heap) (LL : List Loc) : Prop := ∃ (q ks js ss po di ma se : Addr) (kf jf : Nat → Addr), vv = none ∧ Fr n0 LL ∧ Keep h0 h [ps] ∧ (PSt Z h ps q ks js ss po di ma se kf jf (0 : Int32) (0 : Int32) (0 : Int32) (0 : Int32) (0 : Int32) (0 : Int64) (0 : Int64) (0 : Int64) (0 : Int64) (0 : Int64) (0 : Int64) (0 : Int32) (0 : Int32) (0 : Int32) (0 : Int32) (fun _ => (0 : Int32)) (fun _ _ => (0 : Int64)) (fun _ _ => (0 : Int32)) (0 : Int32) (-9223372036854775808 : Int64) (.null)) ∧ (PSs n0 ps q ks js ss po di ma se kf jf)
set_option maxRecDepth 65536 in
set_option maxHeartbeats 40000000 in
theorem rm1 (l : Launch) (Z : State) (a0 : Array Value) (hw : ∀ d ∈ tables_1, d.before a0 Z = true) (ws : List Jvm.Cond) (ps : Addr) (h0 : Heap) (n0 : Nat) (Z0 : n0 ≤ h0.size) (E_ps : Exa Z h0 ps cP) (G_ps : n0 ≤ ps) (f_potential : Fld Z h0 ps cP "potential" "[J" .null) (f_mark : Fld Z h0 ps cP "mark" "I" (.int (0 : Int32))) (f_distance : Fld Z h0 ps cP "distance" "[J" .null) (f_marks : Fld Z h0 ps cP "marks" "[I" .null) (f_settled : Fld Z h0 ps cP "settled" "[I" .null) (f_settledCount : Fld Z h0 ps cP "settledCount" "I" (.int (0 : Int32))) (f_queue : Fld Z h0 ps cP "queue" "Lcom/example/rackwise/rackwise/RadixHeap;" .null) (f_ready : Fld Z h0 ps cP "ready" "[I" .null) (f_readyCount : Fld Z h0 ps cP "readyCount" "I" (.int (0 : Int32))) (f_settling : Fld Z h0 ps cP "settling" "J" (.long (0 : Int64))) (f_limit : Fld Z h0 ps cP "limit" "J" (.long (0 : Int64))) (f_end : Fld Z h0 ps cP "end" "I" (.int (0 : Int32))) (f_toSources : Fld Z h0 ps cP "toSources" "Z" (.int (0 : Int32))) (f_sourcesLeft : Fld Z h0 ps cP "sourcesLeft" "I" (.int (0 : Int32))) (f_sourceIn : Fld Z h0 ps cP "sourceIn" "[I" .null) :
    MetFree l (⟨cP, "<init>", "(I)V"⟩ : MethodName) (head1 (Jvm.Cond.code (⟨cP, "<init>", "(I)V"⟩ : MethodName) kc1 2 none :: ws) ({ frames := 2, cells := 139, slots := 730, locals := 35 } : Room)) (fun aa UU => aa = #[(.ref ps), (.int (2 : Int32))] ∧ Z.Warmed39 UU.vm ∧ UU.heap = h0) (fun _ _ _ _ _ => True) (fun _ UU oo UU' => ∃ vv LL, oo = .returned vv ∧ Q1 Z ps h0 n0 vv UU'.heap LL ∧ FrameEnd UU oo UU' LL 139 730) := by
  refine MetFree.of_bodySF (plainFor_of_name pn_4) hisR ?_
  intro p e s m args below meth c s₁ Bd hml0 hP hK
  obtain ⟨rfl, hZ, hh⟩ := hP
  have hx := Bd.exec
  have hby := Bd.bytes
  have hlk : meth.locks = false := BodyLoose.notSynchronized Bd
  have hml : c.maxLocals = 2 := hml0
  have hown : s.vm.findClass cP = some m.cls := findClass_of_methodNamed Bd.named
  have hnm := (name_of_methodNamed Bd.named Bd.method).1
  have X0 : Stand p l e ({ frames := 2, cells := 139, slots := 730, locals := 35 } : Room) s m #[(.ref ps), (.int (2 : Int32))] below meth c s₁ [] 0 0 := Stand.of_body Bd
  have e0 : s₁.heap = h0 := by rw [← hh, Bd.state]; rfl
  have N0 := Fr.nil n0
  have K0 : Keep h0 h0 [ps] := Keep.refl h0 _
  refine (?_ : Go p e below s (Q1 Z ps h0 n0) 139 730 (s₁.setTop (entryFrame m #[(.ref ps), (.int (2 : Int32))] 2)))
  rw [ef_rm1]
  generalize hQ : Q1 Z ps h0 n0 = Q
  show Go p e below s Q 139 730 (s₁.setTop (mkF m 0 #[vr ps, vi (2 : Int32)] []))
  have f1 := liI_2
  refine gA X0 hx hby rfl d1_0 rfl rfl ?_
  obtain ⟨T2, X2, e2, st2⟩ := initO X0 hx hZ hown (tb hw 6 rfl) (tb hw 7 rfl) (tb hw 8 rfl) e0 (g := (mkF m 1 #[vr ps, vi (2 : Int32)] [(.ref ps)])) rfl (by rw [hml]; rfl) rfl (hb hby d1_1) (by decide) (W := 0) (by show 2 * 0 + _ ≤ _; exact Nat.le_of_eq rfl) (by decide)
  refine Go.st st2 ?_
  show Go p e below s Q 139 730 (T2.setTop (mkF m 4 #[vr ps, vi (2 : Int32)] []))
  refine gA X2 hx hby rfl d1_4 rfl rfl ?_
  obtain ⟨T3, h3, X3, e3, E3, A3, D3, -, st3⟩ := newO X2 hx hZ hown (tb hw 9 rfl) (tb hw 10 rfl) (tb hw 11 rfl) e2 (g := (mkF m 5 #[vr ps, vi (2 : Int32)] [(.ref ps)])) rfl (hb hby d1_5) (by decide) (by decide)
  obtain ⟨b3, g3⟩ : ∃ z, z = h0.size := ⟨_, rfl⟩
  rw [← g3] at A3 D3 st3
  have q4 : Hid (ps ≠ b3) := Nat.ne_of_lt (Nat.lt_of_lt_of_le E_ps.lt (Nat.le_of_eq g3.symm))
  have h5 : Exa Z h3 ps cP := E_ps.ext E3
  have h6 : Fld Z h3 ps cP "potential" "[J" .null := f_potential.ext E3
  have h7 : Fld Z h3 ps cP "mark" "I" (.int (0 : Int32)) := f_mark.ext E3
  have h8 : Fld Z h3 ps cP "distance" "[J" .null := f_distance.ext E3
  have h9 : Fld Z h3 ps cP "marks" "[I" .null := f_marks.ext E3
  have h10 : Fld Z h3 ps cP "settled" "[I" .null := f_settled.ext E3
  have h11 : Fld Z h3 ps cP "settledCount" "I" (.int (0 : Int32)) := f_settledCount.ext E3
  have h12 : Fld Z h3 ps cP "queue" "Lcom/example/rackwise/rackwise/RadixHeap;" .null := f_queue.ext E3
  have h13 : Fld Z h3 ps cP "ready" "[I" .null := f_ready.ext E3
  have h14 : Fld Z h3 ps cP "readyCount" "I" (.int (0 : Int32)) := f_readyCount.ext E3
  have h15 : Fld Z h3 ps cP "settling" "J" (.long (0 : Int64)) := f_settling.ext E3
  have h16 : Fld Z h3 ps cP "limit" "J" (.long (0 : Int64)) := f_limit.ext E3
  have h17 : Fld Z h3 ps cP "end" "I" (.int (0 : Int32)) := f_end.ext E3
  have h18 : Fld Z h3 ps cP "toSources" "Z" (.int (0 : Int32)) := f_toSources.ext E3
  have h19 : Fld Z h3 ps cP "sourcesLeft" "I" (.int (0 : Int32)) := f_sourcesLeft.ext E3
  have h20 : Fld Z h3 ps cP "sourceIn" "[I" .null := f_sourceIn.ext E3
  have Gb3 : Hid (n0 ≤ b3) := Nat.le_trans (Nat.le_trans Z0 K0.1) (Nat.le_of_eq g3.symm)
  have szb3 : Hid (h0.size ≤ b3) := Nat.le_trans K0.1 (Nat.le_of_eq g3.symm)
  have K3 : Keep h0 h3 [ps] := K0.ext E3
  have h21 : Fld Z h3 b3 cR "keys" "[[J" .null := D3 (Or.inr (tb hw 19 rfl)) (ty := (.array (.array .long))) (by decide)
  have h22 : Fld Z h3 b3 cR "ids" "[[I" .null := D3 (Or.inr (tb hw 23 rfl)) (ty := (.array (.array .int))) (by decide)
  have h23 : Fld Z h3 b3 cR "sizes" "[I" .null := D3 (Or.inr (tb hw 26 rfl)) (ty := (.array .int)) (by decide)
  have h24 : Fld Z h3 b3 cR "last" "J" (.long (0 : Int64)) := D3 (Or.inl (tb hw 29 rfl)) (ty := .long) (by decide)
  have h25 : Fld Z h3 b3 cR "size" "I" (.int (0 : Int32)) := D3 (Or.inl (tb hw 71 rfl)) (ty := .int) (by decide)
  refine Go.st st3 ?_
  show Go p e below s Q 139 730 (T3.setTop (mkF m 8 #[vr ps, vi (2 : Int32)] [(.ref b3), (.ref ps)]))
  refine Go.st (fun _ k => XS.dup X3.here hx rfl (hb hby d1_8) rfl rfl k) ?_
  show Go p e below s Q 139 730 (T3.setTop (mkF m 9 #[vr ps, vi (2 : Int32)] [(.ref b3), (.ref b3), (.ref ps)]))
  obtain ⟨_, _, ⟨T26, L26, k26, n26⟩, -, X26, ⟨Lc26, hQ26, l26, y26, z26⟩, st26⟩ := X3.specialBack hx (y := (⟨cR, "<init>", "()V"⟩ : MethodName)) rfl hown (mvT hZ (tb hw 12 rfl)) (mvT hZ (tb hw 13 rfl)) (mvT hZ (tb hw 14 rfl)) (by decide) (backOf (W := 2) (rm3 l Z a0 hw [] b3 h3 n0 (Nat.le_trans Z0 K3.1) A3 Gb3 h21 h22 h23 h25 h24) hZ (tb hw 14 rfl) (tb hw 11 rfl) (by decide) (by decide)) (g := (mkF m 9 #[vr ps, vi (2 : Int32)] [(.ref b3), (.ref b3), (.ref ps)])) rfl (by rw [hml]; rfl) (Steps.refl _) (a := b3) (argsL := []) (rest := [(.ref b3), (.ref ps)]) (lenOf pd_5 rfl) rfl (by show 2 * 0 + _ ≤ _; exact Nat.le_of_eq rfl) (hb hby d1_9) (fun _ _ => ⟨rfl, e3, (by decide : 1 + 133 ≤ _), (by decide : 5 + 715 ≤ _)⟩)
  dsimp only [Pt.U, Pt.locs, Pt.cells, Pt.slots] at X26 l26 y26 z26 st26 hQ26
  subst y26 z26
  obtain ⟨ks_27, js_28, ss_29, kf_30, jf_31, rfl, N26q, K26q, h32, h33, h34, h35, h36, h37, h38, h39, h40, h41, h42, h43, h44, h45, h46, h47, h48, h49, h50, h51, h52, h53, h54, h55, h56, h57, h58⟩ := hQ26
  have N26 : Fr n0 L26 := by rw [l26]; exact Fr.app N0 N26q
  have h59 : Exa Z T26.heap ps cP := h5.keep K26q
  have h60 : Fld Z T26.heap ps cP "potential" "[J" .null := h6.keep K26q (ninS q4 nin0)
  have h61 : Fld Z T26.heap ps cP "mark" "I" (.int (0 : Int32)) := h7.keep K26q (ninS q4 nin0)
  have h62 : Fld Z T26.heap ps cP "distance" "[J" .null := h8.keep K26q (ninS q4 nin0)
  have h63 : Fld Z T26.heap ps cP "marks" "[I" .null := h9.keep K26q (ninS q4 nin0)
  have h64 : Fld Z T26.heap ps cP "settled" "[I" .null := h10.keep K26q (ninS q4 nin0)
  have h65 : Fld Z T26.heap ps cP "settledCount" "I" (.int (0 : Int32)) := h11.keep K26q (ninS q4 nin0)
  have h66 : Fld Z T26.heap ps cP "queue" "Lcom/example/rackwise/rackwise/RadixHeap;" .null := h12.keep K26q (ninS q4 nin0)
  have h67 : Fld Z T26.heap ps cP "ready" "[I" .null := h13.keep K26q (ninS q4 nin0)
  have h68 : Fld Z T26.heap ps cP "readyCount" "I" (.int (0 : Int32)) := h14.keep K26q (ninS q4 nin0)
  have h69 : Fld Z T26.heap ps cP "settling" "J" (.long (0 : Int64)) := h15.keep K26q (ninS q4 nin0)
  have h70 : Fld Z T26.heap ps cP "limit" "J" (.long (0 : Int64)) := h16.keep K26q (ninS q4 nin0)
  have h71 : Fld Z T26.heap ps cP "end" "I" (.int (0 : Int32)) := h17.keep K26q (ninS q4 nin0)
  have h72 : Fld Z T26.heap ps cP "toSources" "Z" (.int (0 : Int32)) := h18.keep K26q (ninS q4 nin0)
  have h73 : Fld Z T26.heap ps cP "sourcesLeft" "I" (.int (0 : Int32)) := h19.keep K26q (ninS q4 nin0)
  have h74 : Fld Z T26.heap ps cP "sourceIn" "[I" .null := h20.keep K26q (ninS q4 nin0)
  have K26 : Keep h0 T26.heap [ps] := K3.trans K26q (fun x hx => (show ∀ x ∈ ([b3] : List Addr), x ∈ ([ps] : List Addr) ∨ h0.size ≤ x from (allS (Or.inr szb3) all0)) x hx)
  have q75 : Hid (ps ≠ ks_27) := Nat.ne_of_lt (Nat.lt_of_lt_of_le h5.lt h50)
  have q76 : Hid (b3 ≠ ks_27) := Nat.ne_of_lt (Nat.lt_of_lt_of_le A3.lt h50)
  have szks_27 : h0.size ≤ ks_27 := Nat.le_trans K3.1 h50
  have q77 : Hid (ps ≠ js_28) := Nat.ne_of_lt (Nat.lt_of_lt_of_le h5.lt h51)
  have q78 : Hid (b3 ≠ js_28) := Nat.ne_of_lt (Nat.lt_of_lt_of_le A3.lt h51)
  have szjs_28 : h0.size ≤ js_28 := Nat.le_trans K3.1 h51
  have q79 : Hid (ps ≠ ss_29) := Nat.ne_of_lt (Nat.lt_of_lt_of_le h5.lt h52)
  have q80 : Hid (b3 ≠ ss_29) := Nat.ne_of_lt (Nat.lt_of_lt_of_le A3.lt h52)
  have szss_29 : h0.size ≤ ss_29 := Nat.le_trans K3.1 h52
  refine Go.tr  st26 ?_
  show Go p e below s Q 139 730 (T26.setTop (mkF m 12 #[vr ps, vi (2 : Int32)] [(.ref b3), (.ref ps)]))
  have nr_ps : NR kf_30 jf_31 ps := fun b hb => ⟨Ne.symm (Nat.ne_of_lt (Nat.lt_of_lt_of_le h5.lt (h45 b hb).1)), Ne.symm (Nat.ne_of_lt (Nat.lt_of_lt_of_le h5.lt (h45 b hb).2))⟩
  have h81 : QF Z T26.heap b3 ks_27 js_28 ss_29 kf_30 jf_31 (fun _ => (0 : Int32)) (fun _ _ => (0 : Int64)) (fun _ _ => (0 : Int32)) (0 : Int32) (-9223372036854775808 : Int64) := ⟨h32, h33, h34, h35, h36, h37, h38, h39, h40, h41, h42⟩
  obtain ⟨T82, h82, X82, e82, W82, st82⟩ := putF X26 hx hZ hown (host := "") (Or.inl (tb hw 33 rfl)) Via.refl rfl h66 h59 (Or.inr ⟨(tb hw 34 rfl), rfl, hnm⟩) (tb hw 1 rfl) (ty := (.object cR)) (by decide) rfl rfl (g := (mkF m 12 #[vr ps, vi (2 : Int32)] [(.ref b3), (.ref ps)])) rfl rfl (hb hby d1_12)
  have h83 : Exa Z h82 ps cP := h59.wr W82
  have h84 : Fld Z h82 ps cP "potential" "[J" .null := h60.other W82 (Or.inr (ndq (sl_1 hw) 1 0 rfl))
  have h85 : Fld Z h82 ps cP "mark" "I" (.int (0 : Int32)) := h61.other W82 (Or.inr (ndq (sl_1 hw) 6 0 rfl))
  have h86 : Fld Z h82 ps cP "distance" "[J" .null := h62.other W82 (Or.inr (ndq (sl_1 hw) 2 0 rfl))
  have h87 : Fld Z h82 ps cP "marks" "[I" .null := h63.other W82 (Or.inr (ndq (sl_1 hw) 3 0 rfl))
  have h88 : Fld Z h82 ps cP "settled" "[I" .null := h64.other W82 (Or.inr (ndq (sl_1 hw) 4 0 rfl))
  have h89 : Fld Z h82 ps cP "settledCount" "I" (.int (0 : Int32)) := h65.other W82 (Or.inr (ndq (sl_1 hw) 7 0 rfl))
  have h90 : Fld Z h82 ps cP "queue" "Lcom/example/rackwise/rackwise/RadixHeap;" (.ref b3) := h66.same W82
  have h91 : Fld Z h82 ps cP "ready" "[I" .null := h67.other W82 (Or.inr (ndq (sl_1 hw) 5 0 rfl))
  have h92 : Fld Z h82 ps cP "readyCount" "I" (.int (0 : Int32)) := h68.other W82 (Or.inr (ndq (sl_1 hw) 8 0 rfl))
  have h93 : Fld Z h82 ps cP "settling" "J" (.long (0 : Int64)) := h69.other W82 (Or.inr (ndq (sl_1 hw) 9 0 rfl))
  have h94 : Fld Z h82 ps cP "limit" "J" (.long (0 : Int64)) := h70.other W82 (Or.inr (ndq (sl_1 hw) 10 0 rfl))
  have h95 : Fld Z h82 ps cP "end" "I" (.int (0 : Int32)) := h71.other W82 (Or.inr (ndq (sl_1 hw) 11 0 rfl))
  have h96 : Fld Z h82 ps cP "toSources" "Z" (.int (0 : Int32)) := h72.other W82 (Or.inr (ndq (sl_1 hw) 12 0 rfl))
  have h97 : Fld Z h82 ps cP "sourcesLeft" "I" (.int (0 : Int32)) := h73.other W82 (Or.inr (ndq (sl_1 hw) 13 0 rfl))
  have h98 : Fld Z h82 ps cP "sourceIn" "[I" .null := h74.other W82 (Or.inr (ndq (sl_1 hw) 14 0 rfl))
  have h99 : QF Z h82 b3 ks_27 js_28 ss_29 kf_30 jf_31 (fun _ => (0 : Int32)) (fun _ _ => (0 : Int64)) (fun _ _ => (0 : Int32)) (0 : Int32) (-9223372036854775808 : Int64) := h81.other W82 (Ne.symm q4) (Ne.symm q75) (Ne.symm q77) (Ne.symm q79) nr_ps
  have K82 : Keep h0 h82 [ps] := K26.wr W82 (Or.inl (List.mem_of_getElem? (i := 0) rfl))
  have N82 := Fr.snoc X82 N26 G_ps
  refine Go.st st82 ?_
  show Go p e below s Q 139 730 (T82.setTop (mkF m 15 #[vr ps, vi (2 : Int32)] []))
  refine gA X82 hx hby rfl d1_15 rfl rfl ?_
  refine gC X82 hx hby rfl d1_16 rfl ?_
  have r101 : 0 ≤ (2 : Int32).toInt := by decide
  have r102 : (2 : Int32).toNatClampNeg ≤ 2 := by decide
  obtain ⟨T100, h100, k100, X100, e100, E100, A100, B100, st100⟩ := newPE X82 hx hZ (tb hw 30 rfl) e82 (g := (mkF m 17 #[vr ps, vi (2 : Int32)] [(.int (2 : Int32)), (.ref ps)])) rfl (hb hby d1_17) rfl (not_neg r101) (cap := 2) r102 (by decide) (by decide) (by decide) (ad := "[J") (by decide)
  obtain ⟨b100, g100⟩ : ∃ z, z = h82.size := ⟨_, rfl⟩
  rw [← g100] at A100 B100 st100
  have q103 : Hid (b3 ≠ b100) := Nat.ne_of_lt (Nat.lt_of_lt_of_le (h99.1).lt (Nat.le_of_eq g100.symm))
  have q104 : Hid (ks_27 ≠ b100) := Nat.ne_of_lt (Nat.lt_of_lt_of_le (h99.2.2.2.2.2.2.1).lt (Nat.le_of_eq g100.symm))
  have q105 : Hid (js_28 ≠ b100) := Nat.ne_of_lt (Nat.lt_of_lt_of_le (h99.2.2.2.2.2.2.2.1).lt (Nat.le_of_eq g100.symm))
  have q106 : Hid (ss_29 ≠ b100) := Nat.ne_of_lt (Nat.lt_of_lt_of_le (h99.2.2.2.2.2.2.2.2.1).lt (Nat.le_of_eq g100.symm))
  have nr_b100 : NR kf_30 jf_31 b100 := nr_new h99.2.2.2.2.2.2.2.2.2.1 h99.2.2.2.2.2.2.2.2.2.2 g100
  have q107 : Hid (ps ≠ b100) := Nat.ne_of_lt (Nat.lt_of_lt_of_le h83.lt (Nat.le_of_eq g100.symm))
  have h108 : Exa Z h100 ps cP := h83.ext E100
  have h109 : Fld Z h100 ps cP "potential" "[J" .null := h84.ext E100
  have h110 : Fld Z h100 ps cP "mark" "I" (.int (0 : Int32)) := h85.ext E100
  have h111 : Fld Z h100 ps cP "distance" "[J" .null := h86.ext E100
  have h112 : Fld Z h100 ps cP "marks" "[I" .null := h87.ext E100
  have h113 : Fld Z h100 ps cP "settled" "[I" .null := h88.ext E100
  have h114 : Fld Z h100 ps cP "settledCount" "I" (.int (0 : Int32)) := h89.ext E100
  have h115 : Fld Z h100 ps cP "queue" "Lcom/example/rackwise/rackwise/RadixHeap;" (.ref b3) := h90.ext E100
  have h116 : Fld Z h100 ps cP "ready" "[I" .null := h91.ext E100
  have h117 : Fld Z h100 ps cP "readyCount" "I" (.int (0 : Int32)) := h92.ext E100
  have h118 : Fld Z h100 ps cP "settling" "J" (.long (0 : Int64)) := h93.ext E100
  have h119 : Fld Z h100 ps cP "limit" "J" (.long (0 : Int64)) := h94.ext E100
  have h120 : Fld Z h100 ps cP "end" "I" (.int (0 : Int32)) := h95.ext E100
  have h121 : Fld Z h100 ps cP "toSources" "Z" (.int (0 : Int32)) := h96.ext E100
  have h122 : Fld Z h100 ps cP "sourcesLeft" "I" (.int (0 : Int32)) := h97.ext E100
  have h123 : Fld Z h100 ps cP "sourceIn" "[I" .null := h98.ext E100
  have h124 : QF Z h100 b3 ks_27 js_28 ss_29 kf_30 jf_31 (fun _ => (0 : Int32)) (fun _ _ => (0 : Int64)) (fun _ _ => (0 : Int32)) (0 : Int32) (-9223372036854775808 : Int64) := h99.ext E100
  have Gb100 : Hid (n0 ≤ b100) := Nat.le_trans (Nat.le_trans Z0 K82.1) (Nat.le_of_eq g100.symm)
  have szb100 : Hid (h0.size ≤ b100) := Nat.le_trans K82.1 (Nat.le_of_eq g100.symm)
  have K100 : Keep h0 h100 [ps] := K82.ext E100
  have h125 : Vec Z h100 b100 .long (2 : Int32) (longs (lst [(0 : Int64), (0 : Int64)])) := Vec.zerosJ 2 (Vec.new A100 r101)
  refine Go.st st100 ?_
  show Go p e below s Q 139 730 (T100.setTop (mkF m 19 #[vr ps, vi (2 : Int32)] [(.ref b100), (.ref ps)]))
  obtain ⟨T126, h126, X126, e126, W126, st126⟩ := putF X100 hx hZ hown (host := "") (Or.inl (tb hw 35 rfl)) Via.refl e100 h109 h108 (Or.inr ⟨(tb hw 36 rfl), rfl, hnm⟩) (tb hw 1 rfl) (ty := (.array .long)) (by decide) rfl rfl (g := (mkF m 19 #[vr ps, vi (2 : Int32)] [(.ref b100), (.ref ps)])) rfl rfl (hb hby d1_19)
  have h127 : Exa Z h126 ps cP := h108.wr W126
  have h128 : Fld Z h126 ps cP "potential" "[J" (.ref b100) := h109.same W126
  have h129 : Fld Z h126 ps cP "mark" "I" (.int (0 : Int32)) := h110.other W126 (Or.inr (ndq (sl_1 hw) 6 1 rfl))
  have h130 : Fld Z h126 ps cP "distance" "[J" .null := h111.other W126 (Or.inr (ndq (sl_1 hw) 2 1 rfl))
  have h131 : Fld Z h126 ps cP "marks" "[I" .null := h112.other W126 (Or.inr (ndq (sl_1 hw) 3 1 rfl))
  have h132 : Fld Z h126 ps cP "settled" "[I" .null := h113.other W126 (Or.inr (ndq (sl_1 hw) 4 1 rfl))
  have h133 : Fld Z h126 ps cP "settledCount" "I" (.int (0 : Int32)) := h114.other W126 (Or.inr (ndq (sl_1 hw) 7 1 rfl))
  have h134 : Fld Z h126 ps cP "queue" "Lcom/example/rackwise/rackwise/RadixHeap;" (.ref b3) := h115.other W126 (Or.inr (ndq (sl_1 hw) 0 1 rfl))
  have h135 : Fld Z h126 ps cP "ready" "[I" .null := h116.other W126 (Or.inr (ndq (sl_1 hw) 5 1 rfl))
  have h136 : Fld Z h126 ps cP "readyCount" "I" (.int (0 : Int32)) := h117.other W126 (Or.inr (ndq (sl_1 hw) 8 1 rfl))
  have h137 : Fld Z h126 ps cP "settling" "J" (.long (0 : Int64)) := h118.other W126 (Or.inr (ndq (sl_1 hw) 9 1 rfl))
  have h138 : Fld Z h126 ps cP "limit" "J" (.long (0 : Int64)) := h119.other W126 (Or.inr (ndq (sl_1 hw) 10 1 rfl))
  have h139 : Fld Z h126 ps cP "end" "I" (.int (0 : Int32)) := h120.other W126 (Or.inr (ndq (sl_1 hw) 11 1 rfl))
  have h140 : Fld Z h126 ps cP "toSources" "Z" (.int (0 : Int32)) := h121.other W126 (Or.inr (ndq (sl_1 hw) 12 1 rfl))
  have h141 : Fld Z h126 ps cP "sourcesLeft" "I" (.int (0 : Int32)) := h122.other W126 (Or.inr (ndq (sl_1 hw) 13 1 rfl))
  have h142 : Fld Z h126 ps cP "sourceIn" "[I" .null := h123.other W126 (Or.inr (ndq (sl_1 hw) 14 1 rfl))
  have h143 : QF Z h126 b3 ks_27 js_28 ss_29 kf_30 jf_31 (fun _ => (0 : Int32)) (fun _ _ => (0 : Int64)) (fun _ _ => (0 : Int32)) (0 : Int32) (-9223372036854775808 : Int64) := h124.other W126 (Ne.symm q4) (Ne.symm q75) (Ne.symm q77) (Ne.symm q79) nr_ps
  have h144 : Exa Z h126 b100 "[J" := B100.wr W126
  have h145 : Vec Z h126 b100 .long (2 : Int32) (longs (lst [(0 : Int64), (0 : Int64)])) := h125.other W126 (Ne.symm q107)
  have K126 : Keep h0 h126 [ps] := K100.wr W126 (Or.inl (List.mem_of_getElem? (i := 0) rfl))
  have N126 := Fr.snoc X126 N82 G_ps
  refine Go.st st126 ?_
  show Go p e below s Q 139 730 (T126.setTop (mkF m 22 #[vr ps, vi (2 : Int32)] []))
  refine gA X126 hx hby rfl d1_22 rfl rfl ?_
  refine gC X126 hx hby rfl d1_23 rfl ?_
  have r147 : 0 ≤ (2 : Int32).toInt := by decide
  have r148 : (2 : Int32).toNatClampNeg ≤ 2 := by decide
  obtain ⟨T146, h146, k146, X146, e146, E146, A146, B146, st146⟩ := newPE X126 hx hZ (tb hw 30 rfl) e126 (g := (mkF m 24 #[vr ps, vi (2 : Int32)] [(.int (2 : Int32)), (.ref ps)])) rfl (hb hby d1_24) rfl (not_neg r147) (cap := 2) r148 (by decide) (by decide) (by decide) (ad := "[J") (by decide)
  obtain ⟨b146, g146⟩ : ∃ z, z = h126.size := ⟨_, rfl⟩
  rw [← g146] at A146 B146 st146
  have q149 : Hid (b3 ≠ b146) := Nat.ne_of_lt (Nat.lt_of_lt_of_le (h143.1).lt (Nat.le_of_eq g146.symm))
  have q150 : Hid (ks_27 ≠ b146) := Nat.ne_of_lt (Nat.lt_of_lt_of_le (h143.2.2.2.2.2.2.1).lt (Nat.le_of_eq g146.symm))
  have q151 : Hid (js_28 ≠ b146) := Nat.ne_of_lt (Nat.lt_of_lt_of_le (h143.2.2.2.2.2.2.2.1).lt (Nat.le_of_eq g146.symm))
  have q152 : Hid (ss_29 ≠ b146) := Nat.ne_of_lt (Nat.lt_of_lt_of_le (h143.2.2.2.2.2.2.2.2.1).lt (Nat.le_of_eq g146.symm))
  have nr_b146 : NR kf_30 jf_31 b146 := nr_new h143.2.2.2.2.2.2.2.2.2.1 h143.2.2.2.2.2.2.2.2.2.2 g146
  have q153 : Hid (ps ≠ b146) := Nat.ne_of_lt (Nat.lt_of_lt_of_le h127.lt (Nat.le_of_eq g146.symm))
  have q154 : Hid (b100 ≠ b146) := Nat.ne_of_lt (Nat.lt_of_lt_of_le h144.lt (Nat.le_of_eq g146.symm))
  have h155 : Exa Z h146 ps cP := h127.ext E146
  have h156 : Fld Z h146 ps cP "potential" "[J" (.ref b100) := h128.ext E146
  have h157 : Fld Z h146 ps cP "mark" "I" (.int (0 : Int32)) := h129.ext E146
  have h158 : Fld Z h146 ps cP "distance" "[J" .null := h130.ext E146
  have h159 : Fld Z h146 ps cP "marks" "[I" .null := h131.ext E146
  have h160 : Fld Z h146 ps cP "settled" "[I" .null := h132.ext E146
  have h161 : Fld Z h146 ps cP "settledCount" "I" (.int (0 : Int32)) := h133.ext E146
  have h162 : Fld Z h146 ps cP "queue" "Lcom/example/rackwise/rackwise/RadixHeap;" (.ref b3) := h134.ext E146
  have h163 : Fld Z h146 ps cP "ready" "[I" .null := h135.ext E146
  have h164 : Fld Z h146 ps cP "readyCount" "I" (.int (0 : Int32)) := h136.ext E146
  have h165 : Fld Z h146 ps cP "settling" "J" (.long (0 : Int64)) := h137.ext E146
  have h166 : Fld Z h146 ps cP "limit" "J" (.long (0 : Int64)) := h138.ext E146
  have h167 : Fld Z h146 ps cP "end" "I" (.int (0 : Int32)) := h139.ext E146
  have h168 : Fld Z h146 ps cP "toSources" "Z" (.int (0 : Int32)) := h140.ext E146
  have h169 : Fld Z h146 ps cP "sourcesLeft" "I" (.int (0 : Int32)) := h141.ext E146
  have h170 : Fld Z h146 ps cP "sourceIn" "[I" .null := h142.ext E146
  have h171 : QF Z h146 b3 ks_27 js_28 ss_29 kf_30 jf_31 (fun _ => (0 : Int32)) (fun _ _ => (0 : Int64)) (fun _ _ => (0 : Int32)) (0 : Int32) (-9223372036854775808 : Int64) := h143.ext E146
  have h172 : Exa Z h146 b100 "[J" := h144.ext E146
  have h173 : Vec Z h146 b100 .long (2 : Int32) (longs (lst [(0 : Int64), (0 : Int64)])) := h145.ext E146
  have Gb146 : Hid (n0 ≤ b146) := Nat.le_trans (Nat.le_trans Z0 K126.1) (Nat.le_of_eq g146.symm)
  have szb146 : Hid (h0.size ≤ b146) := Nat.le_trans K126.1 (Nat.le_of_eq g146.symm)
  have K146 : Keep h0 h146 [ps] := K126.ext E146
  have h174 : Vec Z h146 b146 .long (2 : Int32) (longs (lst [(0 : Int64), (0 : Int64)])) := Vec.zerosJ 2 (Vec.new A146 r147)
  refine Go.st st146 ?_
  show Go p e below s Q 139 730 (T146.setTop (mkF m 26 #[vr ps, vi (2 : Int32)] [(.ref b146), (.ref ps)]))
  obtain ⟨T175, h175, X175, e175, W175, st175⟩ := putF X146 hx hZ hown (host := "") (Or.inl (tb hw 37 rfl)) Via.refl e146 h158 h155 (Or.inr ⟨(tb hw 38 rfl), rfl, hnm⟩) (tb hw 1 rfl) (ty := (.array .long)) (by decide) rfl rfl (g := (mkF m 26 #[vr ps, vi (2 : Int32)] [(.ref b146), (.ref ps)])) rfl rfl (hb hby d1_26)
  have h176 : Exa Z h175 ps cP := h155.wr W175
  have h177 : Fld Z h175 ps cP "potential" "[J" (.ref b100) := h156.other W175 (Or.inr (ndq (sl_1 hw) 1 2 rfl))
  have h178 : Fld Z h175 ps cP "mark" "I" (.int (0 : Int32)) := h157.other W175 (Or.inr (ndq (sl_1 hw) 6 2 rfl))
  have h179 : Fld Z h175 ps cP "distance" "[J" (.ref b146) := h158.same W175
  have h180 : Fld Z h175 ps cP "marks" "[I" .null := h159.other W175 (Or.inr (ndq (sl_1 hw) 3 2 rfl))
  have h181 : Fld Z h175 ps cP "settled" "[I" .null := h160.other W175 (Or.inr (ndq (sl_1 hw) 4 2 rfl))
  have h182 : Fld Z h175 ps cP "settledCount" "I" (.int (0 : Int32)) := h161.other W175 (Or.inr (ndq (sl_1 hw) 7 2 rfl))
  have h183 : Fld Z h175 ps cP "queue" "Lcom/example/rackwise/rackwise/RadixHeap;" (.ref b3) := h162.other W175 (Or.inr (ndq (sl_1 hw) 0 2 rfl))
  have h184 : Fld Z h175 ps cP "ready" "[I" .null := h163.other W175 (Or.inr (ndq (sl_1 hw) 5 2 rfl))
  have h185 : Fld Z h175 ps cP "readyCount" "I" (.int (0 : Int32)) := h164.other W175 (Or.inr (ndq (sl_1 hw) 8 2 rfl))
  have h186 : Fld Z h175 ps cP "settling" "J" (.long (0 : Int64)) := h165.other W175 (Or.inr (ndq (sl_1 hw) 9 2 rfl))
  have h187 : Fld Z h175 ps cP "limit" "J" (.long (0 : Int64)) := h166.other W175 (Or.inr (ndq (sl_1 hw) 10 2 rfl))
  have h188 : Fld Z h175 ps cP "end" "I" (.int (0 : Int32)) := h167.other W175 (Or.inr (ndq (sl_1 hw) 11 2 rfl))
  have h189 : Fld Z h175 ps cP "toSources" "Z" (.int (0 : Int32)) := h168.other W175 (Or.inr (ndq (sl_1 hw) 12 2 rfl))
  have h190 : Fld Z h175 ps cP "sourcesLeft" "I" (.int (0 : Int32)) := h169.other W175 (Or.inr (ndq (sl_1 hw) 13 2 rfl))
  have h191 : Fld Z h175 ps cP "sourceIn" "[I" .null := h170.other W175 (Or.inr (ndq (sl_1 hw) 14 2 rfl))
  have h192 : QF Z h175 b3 ks_27 js_28 ss_29 kf_30 jf_31 (fun _ => (0 : Int32)) (fun _ _ => (0 : Int64)) (fun _ _ => (0 : Int32)) (0 : Int32) (-9223372036854775808 : Int64) := h171.other W175 (Ne.symm q4) (Ne.symm q75) (Ne.symm q77) (Ne.symm q79) nr_ps
  have h193 : Exa Z h175 b100 "[J" := h172.wr W175
  have h194 : Vec Z h175 b100 .long (2 : Int32) (longs (lst [(0 : Int64), (0 : Int64)])) := h173.other W175 (Ne.symm q107)
  have h195 : Exa Z h175 b146 "[J" := B146.wr W175
  have h196 : Vec Z h175 b146 .long (2 : Int32) (longs (lst [(0 : Int64), (0 : Int64)])) := h174.other W175 (Ne.symm q153)
  have K175 : Keep h0 h175 [ps] := K146.wr W175 (Or.inl (List.mem_of_getElem? (i := 0) rfl))
  have N175 := Fr.snoc X175 N126 G_ps
  refine Go.st st175 ?_
  show Go p e below s Q 139 730 (T175.setTop (mkF m 29 #[vr ps, vi (2 : Int32)] []))
  refine gA X175 hx hby rfl d1_29 rfl rfl ?_
  refine gC X175 hx hby rfl d1_30 rfl ?_
  have r198 : 0 ≤ (2 : Int32).toInt := by decide
  have r199 : (2 : Int32).toNatClampNeg ≤ 2 := by decide
  obtain ⟨T197, h197, k197, X197, e197, E197, A197, B197, st197⟩ := newPE X175 hx hZ (tb hw 24 rfl) e175 (g := (mkF m 31 #[vr ps, vi (2 : Int32)] [(.int (2 : Int32)), (.ref ps)])) rfl (hb hby d1_31) rfl (not_neg r198) (cap := 2) r199 (by decide) (by decide) (by decide) (ad := "[I") (by decide)
  obtain ⟨b197, g197⟩ : ∃ z, z = h175.size := ⟨_, rfl⟩
  rw [← g197] at A197 B197 st197
  have q200 : Hid (b3 ≠ b197) := Nat.ne_of_lt (Nat.lt_of_lt_of_le (h192.1).lt (Nat.le_of_eq g197.symm))
  have q201 : Hid (ks_27 ≠ b197) := Nat.ne_of_lt (Nat.lt_of_lt_of_le (h192.2.2.2.2.2.2.1).lt (Nat.le_of_eq g197.symm))
  have q202 : Hid (js_28 ≠ b197) := Nat.ne_of_lt (Nat.lt_of_lt_of_le (h192.2.2.2.2.2.2.2.1).lt (Nat.le_of_eq g197.symm))
  have q203 : Hid (ss_29 ≠ b197) := Nat.ne_of_lt (Nat.lt_of_lt_of_le (h192.2.2.2.2.2.2.2.2.1).lt (Nat.le_of_eq g197.symm))
  have nr_b197 : NR kf_30 jf_31 b197 := nr_new h192.2.2.2.2.2.2.2.2.2.1 h192.2.2.2.2.2.2.2.2.2.2 g197
  have q204 : Hid (ps ≠ b197) := Nat.ne_of_lt (Nat.lt_of_lt_of_le h176.lt (Nat.le_of_eq g197.symm))
  have q205 : Hid (b100 ≠ b197) := Nat.ne_of_lt (Nat.lt_of_lt_of_le h193.lt (Nat.le_of_eq g197.symm))
  have q206 : Hid (b146 ≠ b197) := Nat.ne_of_lt (Nat.lt_of_lt_of_le h195.lt (Nat.le_of_eq g197.symm))
  have h207 : Exa Z h197 ps cP := h176.ext E197
  have h208 : Fld Z h197 ps cP "potential" "[J" (.ref b100) := h177.ext E197
  have h209 : Fld Z h197 ps cP "mark" "I" (.int (0 : Int32)) := h178.ext E197
  have h210 : Fld Z h197 ps cP "distance" "[J" (.ref b146) := h179.ext E197
  have h211 : Fld Z h197 ps cP "marks" "[I" .null := h180.ext E197
  have h212 : Fld Z h197 ps cP "settled" "[I" .null := h181.ext E197
  have h213 : Fld Z h197 ps cP "settledCount" "I" (.int (0 : Int32)) := h182.ext E197
  have h214 : Fld Z h197 ps cP "queue" "Lcom/example/rackwise/rackwise/RadixHeap;" (.ref b3) := h183.ext E197
  have h215 : Fld Z h197 ps cP "ready" "[I" .null := h184.ext E197
  have h216 : Fld Z h197 ps cP "readyCount" "I" (.int (0 : Int32)) := h185.ext E197
  have h217 : Fld Z h197 ps cP "settling" "J" (.long (0 : Int64)) := h186.ext E197
  have h218 : Fld Z h197 ps cP "limit" "J" (.long (0 : Int64)) := h187.ext E197
  have h219 : Fld Z h197 ps cP "end" "I" (.int (0 : Int32)) := h188.ext E197
  have h220 : Fld Z h197 ps cP "toSources" "Z" (.int (0 : Int32)) := h189.ext E197
  have h221 : Fld Z h197 ps cP "sourcesLeft" "I" (.int (0 : Int32)) := h190.ext E197
  have h222 : Fld Z h197 ps cP "sourceIn" "[I" .null := h191.ext E197
  have h223 : QF Z h197 b3 ks_27 js_28 ss_29 kf_30 jf_31 (fun _ => (0 : Int32)) (fun _ _ => (0 : Int64)) (fun _ _ => (0 : Int32)) (0 : Int32) (-9223372036854775808 : Int64) := h192.ext E197
  have h224 : Exa Z h197 b100 "[J" := h193.ext E197
  have h225 : Vec Z h197 b100 .long (2 : Int32) (longs (lst [(0 : Int64), (0 : Int64)])) := h194.ext E197
  have h226 : Exa Z h197 b146 "[J" := h195.ext E197
  have h227 : Vec Z h197 b146 .long (2 : Int32) (longs (lst [(0 : Int64), (0 : Int64)])) := h196.ext E197
  have Gb197 : Hid (n0 ≤ b197) := Nat.le_trans (Nat.le_trans Z0 K175.1) (Nat.le_of_eq g197.symm)
  have szb197 : Hid (h0.size ≤ b197) := Nat.le_trans K175.1 (Nat.le_of_eq g197.symm)
  have K197 : Keep h0 h197 [ps] := K175.ext E197
  have h228 : Vec Z h197 b197 .int (2 : Int32) (ints (lst [(0 : Int32), (0 : Int32)])) := Vec.zerosI 2 (Vec.new A197 r198)
  refine Go.st st197 ?_
  show Go p e below s Q 139 730 (T197.setTop (mkF m 33 #[vr ps, vi (2 : Int32)] [(.ref b197), (.ref ps)]))
  obtain ⟨T229, h229, X229, e229, W229, st229⟩ := putF X197 hx hZ hown (host := "") (Or.inl (tb hw 39 rfl)) Via.refl e197 h211 h207 (Or.inr ⟨(tb hw 40 rfl), rfl, hnm⟩) (tb hw 1 rfl) (ty := (.array .int)) (by decide) rfl rfl (g := (mkF m 33 #[vr ps, vi (2 : Int32)] [(.ref b197), (.ref ps)])) rfl rfl (hb hby d1_33)
  have h230 : Exa Z h229 ps cP := h207.wr W229
  have h231 : Fld Z h229 ps cP "potential" "[J" (.ref b100) := h208.other W229 (Or.inr (ndq (sl_1 hw) 1 3 rfl))
  have h232 : Fld Z h229 ps cP "mark" "I" (.int (0 : Int32)) := h209.other W229 (Or.inr (ndq (sl_1 hw) 6 3 rfl))
  have h233 : Fld Z h229 ps cP "distance" "[J" (.ref b146) := h210.other W229 (Or.inr (ndq (sl_1 hw) 2 3 rfl))
  have h234 : Fld Z h229 ps cP "marks" "[I" (.ref b197) := h211.same W229
  have h235 : Fld Z h229 ps cP "settled" "[I" .null := h212.other W229 (Or.inr (ndq (sl_1 hw) 4 3 rfl))
  have h236 : Fld Z h229 ps cP "settledCount" "I" (.int (0 : Int32)) := h213.other W229 (Or.inr (ndq (sl_1 hw) 7 3 rfl))
  have h237 : Fld Z h229 ps cP "queue" "Lcom/example/rackwise/rackwise/RadixHeap;" (.ref b3) := h214.other W229 (Or.inr (ndq (sl_1 hw) 0 3 rfl))
  have h238 : Fld Z h229 ps cP "ready" "[I" .null := h215.other W229 (Or.inr (ndq (sl_1 hw) 5 3 rfl))
  have h239 : Fld Z h229 ps cP "readyCount" "I" (.int (0 : Int32)) := h216.other W229 (Or.inr (ndq (sl_1 hw) 8 3 rfl))
  have h240 : Fld Z h229 ps cP "settling" "J" (.long (0 : Int64)) := h217.other W229 (Or.inr (ndq (sl_1 hw) 9 3 rfl))
  have h241 : Fld Z h229 ps cP "limit" "J" (.long (0 : Int64)) := h218.other W229 (Or.inr (ndq (sl_1 hw) 10 3 rfl))
  have h242 : Fld Z h229 ps cP "end" "I" (.int (0 : Int32)) := h219.other W229 (Or.inr (ndq (sl_1 hw) 11 3 rfl))
  have h243 : Fld Z h229 ps cP "toSources" "Z" (.int (0 : Int32)) := h220.other W229 (Or.inr (ndq (sl_1 hw) 12 3 rfl))
  have h244 : Fld Z h229 ps cP "sourcesLeft" "I" (.int (0 : Int32)) := h221.other W229 (Or.inr (ndq (sl_1 hw) 13 3 rfl))
  have h245 : Fld Z h229 ps cP "sourceIn" "[I" .null := h222.other W229 (Or.inr (ndq (sl_1 hw) 14 3 rfl))
  have h246 : QF Z h229 b3 ks_27 js_28 ss_29 kf_30 jf_31 (fun _ => (0 : Int32)) (fun _ _ => (0 : Int64)) (fun _ _ => (0 : Int32)) (0 : Int32) (-9223372036854775808 : Int64) := h223.other W229 (Ne.symm q4) (Ne.symm q75) (Ne.symm q77) (Ne.symm q79) nr_ps
  have h247 : Exa Z h229 b100 "[J" := h224.wr W229
  have h248 : Vec Z h229 b100 .long (2 : Int32) (longs (lst [(0 : Int64), (0 : Int64)])) := h225.other W229 (Ne.symm q107)
  have h249 : Exa Z h229 b146 "[J" := h226.wr W229
  have h250 : Vec Z h229 b146 .long (2 : Int32) (longs (lst [(0 : Int64), (0 : Int64)])) := h227.other W229 (Ne.symm q153)
  have h251 : Exa Z h229 b197 "[I" := B197.wr W229
  have h252 : Vec Z h229 b197 .int (2 : Int32) (ints (lst [(0 : Int32), (0 : Int32)])) := h228.other W229 (Ne.symm q204)
  have K229 : Keep h0 h229 [ps] := K197.wr W229 (Or.inl (List.mem_of_getElem? (i := 0) rfl))
  have N229 := Fr.snoc X229 N175 G_ps
  refine Go.st st229 ?_
  show Go p e below s Q 139 730 (T229.setTop (mkF m 36 #[vr ps, vi (2 : Int32)] []))
  refine gA X229 hx hby rfl d1_36 rfl rfl ?_
  refine gC X229 hx hby rfl d1_37 rfl ?_
  have r254 : 0 ≤ (2 : Int32).toInt := by decide
  have r255 : (2 : Int32).toNatClampNeg ≤ 2 := by decide
  obtain ⟨T253, h253, k253, X253, e253, E253, A253, B253, st253⟩ := newPE X229 hx hZ (tb hw 24 rfl) e229 (g := (mkF m 38 #[vr ps, vi (2 : Int32)] [(.int (2 : Int32)), (.ref ps)])) rfl (hb hby d1_38) rfl (not_neg r254) (cap := 2) r255 (by decide) (by decide) (by decide) (ad := "[I") (by decide)
  obtain ⟨b253, g253⟩ : ∃ z, z = h229.size := ⟨_, rfl⟩
  rw [← g253] at A253 B253 st253
  have q256 : Hid (b3 ≠ b253) := Nat.ne_of_lt (Nat.lt_of_lt_of_le (h246.1).lt (Nat.le_of_eq g253.symm))
  have q257 : Hid (ks_27 ≠ b253) := Nat.ne_of_lt (Nat.lt_of_lt_of_le (h246.2.2.2.2.2.2.1).lt (Nat.le_of_eq g253.symm))
  have q258 : Hid (js_28 ≠ b253) := Nat.ne_of_lt (Nat.lt_of_lt_of_le (h246.2.2.2.2.2.2.2.1).lt (Nat.le_of_eq g253.symm))
  have q259 : Hid (ss_29 ≠ b253) := Nat.ne_of_lt (Nat.lt_of_lt_of_le (h246.2.2.2.2.2.2.2.2.1).lt (Nat.le_of_eq g253.symm))
  have nr_b253 : NR kf_30 jf_31 b253 := nr_new h246.2.2.2.2.2.2.2.2.2.1 h246.2.2.2.2.2.2.2.2.2.2 g253
  have q260 : Hid (ps ≠ b253) := Nat.ne_of_lt (Nat.lt_of_lt_of_le h230.lt (Nat.le_of_eq g253.symm))
  have q261 : Hid (b100 ≠ b253) := Nat.ne_of_lt (Nat.lt_of_lt_of_le h247.lt (Nat.le_of_eq g253.symm))
  have q262 : Hid (b146 ≠ b253) := Nat.ne_of_lt (Nat.lt_of_lt_of_le h249.lt (Nat.le_of_eq g253.symm))
  have q263 : Hid (b197 ≠ b253) := Nat.ne_of_lt (Nat.lt_of_lt_of_le h251.lt (Nat.le_of_eq g253.symm))
  have h264 : Exa Z h253 ps cP := h230.ext E253
  have h265 : Fld Z h253 ps cP "potential" "[J" (.ref b100) := h231.ext E253
  have h266 : Fld Z h253 ps cP "mark" "I" (.int (0 : Int32)) := h232.ext E253
  have h267 : Fld Z h253 ps cP "distance" "[J" (.ref b146) := h233.ext E253
  have h268 : Fld Z h253 ps cP "marks" "[I" (.ref b197) := h234.ext E253
  have h269 : Fld Z h253 ps cP "settled" "[I" .null := h235.ext E253
  have h270 : Fld Z h253 ps cP "settledCount" "I" (.int (0 : Int32)) := h236.ext E253
  have h271 : Fld Z h253 ps cP "queue" "Lcom/example/rackwise/rackwise/RadixHeap;" (.ref b3) := h237.ext E253
  have h272 : Fld Z h253 ps cP "ready" "[I" .null := h238.ext E253
  have h273 : Fld Z h253 ps cP "readyCount" "I" (.int (0 : Int32)) := h239.ext E253
  have h274 : Fld Z h253 ps cP "settling" "J" (.long (0 : Int64)) := h240.ext E253
  have h275 : Fld Z h253 ps cP "limit" "J" (.long (0 : Int64)) := h241.ext E253
  have h276 : Fld Z h253 ps cP "end" "I" (.int (0 : Int32)) := h242.ext E253
  have h277 : Fld Z h253 ps cP "toSources" "Z" (.int (0 : Int32)) := h243.ext E253
  have h278 : Fld Z h253 ps cP "sourcesLeft" "I" (.int (0 : Int32)) := h244.ext E253
  have h279 : Fld Z h253 ps cP "sourceIn" "[I" .null := h245.ext E253
  have h280 : QF Z h253 b3 ks_27 js_28 ss_29 kf_30 jf_31 (fun _ => (0 : Int32)) (fun _ _ => (0 : Int64)) (fun _ _ => (0 : Int32)) (0 : Int32) (-9223372036854775808 : Int64) := h246.ext E253
  have h281 : Exa Z h253 b100 "[J" := h247.ext E253
  have h282 : Vec Z h253 b100 .long (2 : Int32) (longs (lst [(0 : Int64), (0 : Int64)])) := h248.ext E253
  have h283 : Exa Z h253 b146 "[J" := h249.ext E253
  have h284 : Vec Z h253 b146 .long (2 : Int32) (longs (lst [(0 : Int64), (0 : Int64)])) := h250.ext E253
  have h285 : Exa Z h253 b197 "[I" := h251.ext E253
  have h286 : Vec Z h253 b197 .int (2 : Int32) (ints (lst [(0 : Int32), (0 : Int32)])) := h252.ext E253
  have Gb253 : Hid (n0 ≤ b253) := Nat.le_trans (Nat.le_trans Z0 K229.1) (Nat.le_of_eq g253.symm)
  have szb253 : Hid (h0.size ≤ b253) := Nat.le_trans K229.1 (Nat.le_of_eq g253.symm)
  have K253 : Keep h0 h253 [ps] := K229.ext E253
  have h287 : Vec Z h253 b253 .int (2 : Int32) (ints (lst [(0 : Int32), (0 : Int32)])) := Vec.zerosI 2 (Vec.new A253 r254)
  refine Go.st st253 ?_
  show Go p e below s Q 139 730 (T253.setTop (mkF m 40 #[vr ps, vi (2 : Int32)] [(.ref b253), (.ref ps)]))
  obtain ⟨T288, h288, X288, e288, W288, st288⟩ := putF X253 hx hZ hown (host := "") (Or.inl (tb hw 41 rfl)) Via.refl e253 h269 h264 (Or.inr ⟨(tb hw 42 rfl), rfl, hnm⟩) (tb hw 1 rfl) (ty := (.array .int)) (by decide) rfl rfl (g := (mkF m 40 #[vr ps, vi (2 : Int32)] [(.ref b253), (.ref ps)])) rfl rfl (hb hby d1_40)
  have h289 : Exa Z h288 ps cP := h264.wr W288
  have h290 : Fld Z h288 ps cP "potential" "[J" (.ref b100) := h265.other W288 (Or.inr (ndq (sl_1 hw) 1 4 rfl))
  have h291 : Fld Z h288 ps cP "mark" "I" (.int (0 : Int32)) := h266.other W288 (Or.inr (ndq (sl_1 hw) 6 4 rfl))
  have h292 : Fld Z h288 ps cP "distance" "[J" (.ref b146) := h267.other W288 (Or.inr (ndq (sl_1 hw) 2 4 rfl))
  have h293 : Fld Z h288 ps cP "marks" "[I" (.ref b197) := h268.other W288 (Or.inr (ndq (sl_1 hw) 3 4 rfl))
  have h294 : Fld Z h288 ps cP "settled" "[I" (.ref b253) := h269.same W288
  have h295 : Fld Z h288 ps cP "settledCount" "I" (.int (0 : Int32)) := h270.other W288 (Or.inr (ndq (sl_1 hw) 7 4 rfl))
  have h296 : Fld Z h288 ps cP "queue" "Lcom/example/rackwise/rackwise/RadixHeap;" (.ref b3) := h271.other W288 (Or.inr (ndq (sl_1 hw) 0 4 rfl))
  have h297 : Fld Z h288 ps cP "ready" "[I" .null := h272.other W288 (Or.inr (ndq (sl_1 hw) 5 4 rfl))
  have h298 : Fld Z h288 ps cP "readyCount" "I" (.int (0 : Int32)) := h273.other W288 (Or.inr (ndq (sl_1 hw) 8 4 rfl))
  have h299 : Fld Z h288 ps cP "settling" "J" (.long (0 : Int64)) := h274.other W288 (Or.inr (ndq (sl_1 hw) 9 4 rfl))
  have h300 : Fld Z h288 ps cP "limit" "J" (.long (0 : Int64)) := h275.other W288 (Or.inr (ndq (sl_1 hw) 10 4 rfl))
  have h301 : Fld Z h288 ps cP "end" "I" (.int (0 : Int32)) := h276.other W288 (Or.inr (ndq (sl_1 hw) 11 4 rfl))
  have h302 : Fld Z h288 ps cP "toSources" "Z" (.int (0 : Int32)) := h277.other W288 (Or.inr (ndq (sl_1 hw) 12 4 rfl))
  have h303 : Fld Z h288 ps cP "sourcesLeft" "I" (.int (0 : Int32)) := h278.other W288 (Or.inr (ndq (sl_1 hw) 13 4 rfl))
  have h304 : Fld Z h288 ps cP "sourceIn" "[I" .null := h279.other W288 (Or.inr (ndq (sl_1 hw) 14 4 rfl))
  have h305 : QF Z h288 b3 ks_27 js_28 ss_29 kf_30 jf_31 (fun _ => (0 : Int32)) (fun _ _ => (0 : Int64)) (fun _ _ => (0 : Int32)) (0 : Int32) (-9223372036854775808 : Int64) := h280.other W288 (Ne.symm q4) (Ne.symm q75) (Ne.symm q77) (Ne.symm q79) nr_ps
  have h306 : Exa Z h288 b100 "[J" := h281.wr W288
  have h307 : Vec Z h288 b100 .long (2 : Int32) (longs (lst [(0 : Int64), (0 : Int64)])) := h282.other W288 (Ne.symm q107)
  have h308 : Exa Z h288 b146 "[J" := h283.wr W288
  have h309 : Vec Z h288 b146 .long (2 : Int32) (longs (lst [(0 : Int64), (0 : Int64)])) := h284.other W288 (Ne.symm q153)
  have h310 : Exa Z h288 b197 "[I" := h285.wr W288
  have h311 : Vec Z h288 b197 .int (2 : Int32) (ints (lst [(0 : Int32), (0 : Int32)])) := h286.other W288 (Ne.symm q204)
  have h312 : Exa Z h288 b253 "[I" := B253.wr W288
  have h313 : Vec Z h288 b253 .int (2 : Int32) (ints (lst [(0 : Int32), (0 : Int32)])) := h287.other W288 (Ne.symm q260)
  have K288 : Keep h0 h288 [ps] := K253.wr W288 (Or.inl (List.mem_of_getElem? (i := 0) rfl))
  have N288 := Fr.snoc X288 N229 G_ps
  refine Go.st st288 ?_
  show Go p e below s Q 139 730 (T288.setTop (mkF m 43 #[vr ps, vi (2 : Int32)] []))
  refine gA X288 hx hby rfl d1_43 rfl rfl ?_
  refine gC X288 hx hby rfl d1_44 rfl ?_
  have r315 : 0 ≤ (2 : Int32).toInt := by decide
  have r316 : (2 : Int32).toNatClampNeg ≤ 2 := by decide
  obtain ⟨T314, h314, k314, X314, e314, E314, A314, B314, st314⟩ := newPE X288 hx hZ (tb hw 24 rfl) e288 (g := (mkF m 45 #[vr ps, vi (2 : Int32)] [(.int (2 : Int32)), (.ref ps)])) rfl (hb hby d1_45) rfl (not_neg r315) (cap := 2) r316 (by decide) (by decide) (by decide) (ad := "[I") (by decide)
  obtain ⟨b314, g314⟩ : ∃ z, z = h288.size := ⟨_, rfl⟩
  rw [← g314] at A314 B314 st314
  have q317 : Hid (b3 ≠ b314) := Nat.ne_of_lt (Nat.lt_of_lt_of_le (h305.1).lt (Nat.le_of_eq g314.symm))
  have q318 : Hid (ks_27 ≠ b314) := Nat.ne_of_lt (Nat.lt_of_lt_of_le (h305.2.2.2.2.2.2.1).lt (Nat.le_of_eq g314.symm))
  have q319 : Hid (js_28 ≠ b314) := Nat.ne_of_lt (Nat.lt_of_lt_of_le (h305.2.2.2.2.2.2.2.1).lt (Nat.le_of_eq g314.symm))
  have q320 : Hid (ss_29 ≠ b314) := Nat.ne_of_lt (Nat.lt_of_lt_of_le (h305.2.2.2.2.2.2.2.2.1).lt (Nat.le_of_eq g314.symm))
  have nr_b314 : NR kf_30 jf_31 b314 := nr_new h305.2.2.2.2.2.2.2.2.2.1 h305.2.2.2.2.2.2.2.2.2.2 g314
  have q321 : Hid (ps ≠ b314) := Nat.ne_of_lt (Nat.lt_of_lt_of_le h289.lt (Nat.le_of_eq g314.symm))
  have q322 : Hid (b100 ≠ b314) := Nat.ne_of_lt (Nat.lt_of_lt_of_le h306.lt (Nat.le_of_eq g314.symm))
  have q323 : Hid (b146 ≠ b314) := Nat.ne_of_lt (Nat.lt_of_lt_of_le h308.lt (Nat.le_of_eq g314.symm))
  have q324 : Hid (b197 ≠ b314) := Nat.ne_of_lt (Nat.lt_of_lt_of_le h310.lt (Nat.le_of_eq g314.symm))
  have q325 : Hid (b253 ≠ b314) := Nat.ne_of_lt (Nat.lt_of_lt_of_le h312.lt (Nat.le_of_eq g314.symm))
  have h326 : Exa Z h314 ps cP := h289.ext E314
  have h327 : Fld Z h314 ps cP "potential" "[J" (.ref b100) := h290.ext E314
  have h328 : Fld Z h314 ps cP "mark" "I" (.int (0 : Int32)) := h291.ext E314
  have h329 : Fld Z h314 ps cP "distance" "[J" (.ref b146) := h292.ext E314
  have h330 : Fld Z h314 ps cP "marks" "[I" (.ref b197) := h293.ext E314
  have h331 : Fld Z h314 ps cP "settled" "[I" (.ref b253) := h294.ext E314
  have h332 : Fld Z h314 ps cP "settledCount" "I" (.int (0 : Int32)) := h295.ext E314
  have h333 : Fld Z h314 ps cP "queue" "Lcom/example/rackwise/rackwise/RadixHeap;" (.ref b3) := h296.ext E314
  have h334 : Fld Z h314 ps cP "ready" "[I" .null := h297.ext E314
  have h335 : Fld Z h314 ps cP "readyCount" "I" (.int (0 : Int32)) := h298.ext E314
  have h336 : Fld Z h314 ps cP "settling" "J" (.long (0 : Int64)) := h299.ext E314
  have h337 : Fld Z h314 ps cP "limit" "J" (.long (0 : Int64)) := h300.ext E314
  have h338 : Fld Z h314 ps cP "end" "I" (.int (0 : Int32)) := h301.ext E314
  have h339 : Fld Z h314 ps cP "toSources" "Z" (.int (0 : Int32)) := h302.ext E314
  have h340 : Fld Z h314 ps cP "sourcesLeft" "I" (.int (0 : Int32)) := h303.ext E314
  have h341 : Fld Z h314 ps cP "sourceIn" "[I" .null := h304.ext E314
  have h342 : QF Z h314 b3 ks_27 js_28 ss_29 kf_30 jf_31 (fun _ => (0 : Int32)) (fun _ _ => (0 : Int64)) (fun _ _ => (0 : Int32)) (0 : Int32) (-9223372036854775808 : Int64) := h305.ext E314
  have h343 : Exa Z h314 b100 "[J" := h306.ext E314
  have h344 : Vec Z h314 b100 .long (2 : Int32) (longs (lst [(0 : Int64), (0 : Int64)])) := h307.ext E314
  have h345 : Exa Z h314 b146 "[J" := h308.ext E314
  have h346 : Vec Z h314 b146 .long (2 : Int32) (longs (lst [(0 : Int64), (0 : Int64)])) := h309.ext E314
  have h347 : Exa Z h314 b197 "[I" := h310.ext E314
  have h348 : Vec Z h314 b197 .int (2 : Int32) (ints (lst [(0 : Int32), (0 : Int32)])) := h311.ext E314
  have h349 : Exa Z h314 b253 "[I" := h312.ext E314
  have h350 : Vec Z h314 b253 .int (2 : Int32) (ints (lst [(0 : Int32), (0 : Int32)])) := h313.ext E314
  have Gb314 : Hid (n0 ≤ b314) := Nat.le_trans (Nat.le_trans Z0 K288.1) (Nat.le_of_eq g314.symm)
  have szb314 : Hid (h0.size ≤ b314) := Nat.le_trans K288.1 (Nat.le_of_eq g314.symm)
  have K314 : Keep h0 h314 [ps] := K288.ext E314
  have h351 : Vec Z h314 b314 .int (2 : Int32) (ints (lst [(0 : Int32), (0 : Int32)])) := Vec.zerosI 2 (Vec.new A314 r315)
  refine Go.st st314 ?_
  show Go p e below s Q 139 730 (T314.setTop (mkF m 47 #[vr ps, vi (2 : Int32)] [(.ref b314), (.ref ps)]))
  obtain ⟨T352, h352, X352, e352, W352, st352⟩ := putF X314 hx hZ hown (host := "") (Or.inl (tb hw 43 rfl)) Via.refl e314 h334 h326 (Or.inr ⟨(tb hw 44 rfl), rfl, hnm⟩) (tb hw 1 rfl) (ty := (.array .int)) (by decide) rfl rfl (g := (mkF m 47 #[vr ps, vi (2 : Int32)] [(.ref b314), (.ref ps)])) rfl rfl (hb hby d1_47)
  have h353 : Exa Z h352 ps cP := h326.wr W352
  have h354 : Fld Z h352 ps cP "potential" "[J" (.ref b100) := h327.other W352 (Or.inr (ndq (sl_1 hw) 1 5 rfl))
  have h355 : Fld Z h352 ps cP "mark" "I" (.int (0 : Int32)) := h328.other W352 (Or.inr (ndq (sl_1 hw) 6 5 rfl))
  have h356 : Fld Z h352 ps cP "distance" "[J" (.ref b146) := h329.other W352 (Or.inr (ndq (sl_1 hw) 2 5 rfl))
  have h357 : Fld Z h352 ps cP "marks" "[I" (.ref b197) := h330.other W352 (Or.inr (ndq (sl_1 hw) 3 5 rfl))
  have h358 : Fld Z h352 ps cP "settled" "[I" (.ref b253) := h331.other W352 (Or.inr (ndq (sl_1 hw) 4 5 rfl))
  have h359 : Fld Z h352 ps cP "settledCount" "I" (.int (0 : Int32)) := h332.other W352 (Or.inr (ndq (sl_1 hw) 7 5 rfl))
  have h360 : Fld Z h352 ps cP "queue" "Lcom/example/rackwise/rackwise/RadixHeap;" (.ref b3) := h333.other W352 (Or.inr (ndq (sl_1 hw) 0 5 rfl))
  have h361 : Fld Z h352 ps cP "ready" "[I" (.ref b314) := h334.same W352
  have h362 : Fld Z h352 ps cP "readyCount" "I" (.int (0 : Int32)) := h335.other W352 (Or.inr (ndq (sl_1 hw) 8 5 rfl))
  have h363 : Fld Z h352 ps cP "settling" "J" (.long (0 : Int64)) := h336.other W352 (Or.inr (ndq (sl_1 hw) 9 5 rfl))
  have h364 : Fld Z h352 ps cP "limit" "J" (.long (0 : Int64)) := h337.other W352 (Or.inr (ndq (sl_1 hw) 10 5 rfl))
  have h365 : Fld Z h352 ps cP "end" "I" (.int (0 : Int32)) := h338.other W352 (Or.inr (ndq (sl_1 hw) 11 5 rfl))
  have h366 : Fld Z h352 ps cP "toSources" "Z" (.int (0 : Int32)) := h339.other W352 (Or.inr (ndq (sl_1 hw) 12 5 rfl))
  have h367 : Fld Z h352 ps cP "sourcesLeft" "I" (.int (0 : Int32)) := h340.other W352 (Or.inr (ndq (sl_1 hw) 13 5 rfl))
  have h368 : Fld Z h352 ps cP "sourceIn" "[I" .null := h341.other W352 (Or.inr (ndq (sl_1 hw) 14 5 rfl))
  have h369 : QF Z h352 b3 ks_27 js_28 ss_29 kf_30 jf_31 (fun _ => (0 : Int32)) (fun _ _ => (0 : Int64)) (fun _ _ => (0 : Int32)) (0 : Int32) (-9223372036854775808 : Int64) := h342.other W352 (Ne.symm q4) (Ne.symm q75) (Ne.symm q77) (Ne.symm q79) nr_ps
  have h370 : Exa Z h352 b100 "[J" := h343.wr W352
  have h371 : Vec Z h352 b100 .long (2 : Int32) (longs (lst [(0 : Int64), (0 : Int64)])) := h344.other W352 (Ne.symm q107)
  have h372 : Exa Z h352 b146 "[J" := h345.wr W352
  have h373 : Vec Z h352 b146 .long (2 : Int32) (longs (lst [(0 : Int64), (0 : Int64)])) := h346.other W352 (Ne.symm q153)
  have h374 : Exa Z h352 b197 "[I" := h347.wr W352
  have h375 : Vec Z h352 b197 .int (2 : Int32) (ints (lst [(0 : Int32), (0 : Int32)])) := h348.other W352 (Ne.symm q204)
  have h376 : Exa Z h352 b253 "[I" := h349.wr W352
  have h377 : Vec Z h352 b253 .int (2 : Int32) (ints (lst [(0 : Int32), (0 : Int32)])) := h350.other W352 (Ne.symm q260)
  have h378 : Exa Z h352 b314 "[I" := B314.wr W352
  have h379 : Vec Z h352 b314 .int (2 : Int32) (ints (lst [(0 : Int32), (0 : Int32)])) := h351.other W352 (Ne.symm q321)
  have K352 : Keep h0 h352 [ps] := K314.wr W352 (Or.inl (List.mem_of_getElem? (i := 0) rfl))
  have N352 := Fr.snoc X352 N288 G_ps
  refine Go.st st352 ?_
  show Go p e below s Q 139 730 (T352.setTop (mkF m 50 #[vr ps, vi (2 : Int32)] []))
  have hO50 : PSt Z h352 ps b3 ks_27 js_28 ss_29 b100 b146 b197 b253 kf_30 jf_31 (0 : Int32) (0 : Int32) (0 : Int32) (0 : Int32) (0 : Int32) (0 : Int64) (0 : Int64) (0 : Int64) (0 : Int64) (0 : Int64) (0 : Int64) (0 : Int32) (0 : Int32) (0 : Int32) (0 : Int32) (fun _ => (0 : Int32)) (fun _ _ => (0 : Int64)) (fun _ _ => (0 : Int32)) (0 : Int32) (-9223372036854775808 : Int64) (.null) := ⟨⟨h353, h354, h355, h356, h357, h358, h359, h360, h362, h363, h364, h365, h366, h367, h368⟩, h371, h373, h375, h377, h369⟩
  have hP50 : PSs n0 ps b3 ks_27 js_28 ss_29 b100 b146 b197 b253 kf_30 jf_31 := ⟨(List.nodup_cons.mpr ⟨(ninS q4 (ninS q75 (ninS q77 (ninS q79 (ninS q107 (ninS q153 (ninS q204 (ninS q260 nin0)))))))), (List.nodup_cons.mpr ⟨(ninS q76 (ninS q78 (ninS h53 (ninS q103 (ninS q149 (ninS q200 (ninS q256 nin0))))))), (List.nodup_cons.mpr ⟨(ninS h58 (ninS h54 (ninS q104 (ninS q150 (ninS q201 (ninS q257 nin0)))))), (List.nodup_cons.mpr ⟨(ninS h55 (ninS q105 (ninS q151 (ninS q202 (ninS q258 nin0))))), (List.nodup_cons.mpr ⟨(ninS q106 (ninS q152 (ninS q203 (ninS q259 nin0)))), (List.nodup_cons.mpr ⟨(ninS q154 (ninS q205 (ninS q261 nin0))), (List.nodup_cons.mpr ⟨(ninS q206 (ninS q262 nin0)), (List.nodup_cons.mpr ⟨(ninS q263 nin0), (List.nodup_cons.mpr ⟨nin0, List.nodup_nil⟩)⟩)⟩)⟩)⟩)⟩)⟩)⟩)⟩), h43, h44, (fun b hb => ⟨Nat.le_trans (Nat.le_trans Z0 K3.1) (h45 b hb).1, Nat.le_trans (Nat.le_trans Z0 K3.1) (h45 b hb).2⟩), nr_ps, h46, h47, h48, h49, nr_b100, nr_b146, nr_b197, nr_b253, G_ps, Gb3, (Nat.le_trans Z0 szss_29), Gb100, Gb146, Gb197, Gb253⟩
  exact Go.retV X352 hx hlk Bd.returns (hb hby d1_50) (by rw [← hQ, e352]; exact ⟨b3, ks_27, js_28, ss_29, b100, b146, b197, b253, kf_30, jf_31, rfl, N352, K352, hO50, (by exact hP50)⟩) (by decide) (by decide)
theorem pn_5 : plainName "com/example/rackwise/rackwise/PathSearchFinishBackPinLaw" = true := by first | (simp [plainName, overriddenIn]; done) | decide +kernel
theorem d4_0 : decode kc4 0 = .ok (.iload_n 1, 1) := by decide +kernel
theorem d4_1 : decode kc4 1 = .ok (.iconst 3, 1) := by decide +kernel
theorem d4_2 : decode kc4 2 = .ok (.iand, 1) := by decide +kernel
theorem d4_3 : decode kc4 3 = .ok (.istore 7, 2) := by decide +kernel
theorem liI_3 : (3 : Int32).toInt = 3 := by decide
theorem d4_5 : decode kc4 5 = .ok (.iload_n 1, 1) := by decide +kernel
theorem d4_6 : decode kc4 6 = .ok (.iconst 4, 1) := by decide +kernel
theorem d4_7 : decode kc4 7 = .ok (.iand, 1) := by decide +kernel
theorem d4_8 : decode kc4 8 = .ok (.ifCond .eq 7, 3) := by decide +kernel
theorem d4_15 : decode kc4 15 = .ok (.iconst 0, 1) := by decide +kernel
theorem d4_11 : decode kc4 11 = .ok (.iconst 1, 1) := by decide +kernel
theorem d4_12 : decode kc4 12 = .ok (.goto 4, 3) := by decide +kernel
theorem d4_16 : decode kc4 16 = .ok (.istore 8, 2) := by decide +kernel
theorem d4_18 : decode kc4 18 = .ok (.iload_n 1, 1) := by decide +kernel
theorem d4_19 : decode kc4 19 = .ok (.bipush 8, 2) := by decide +kernel
theorem d4_21 : decode kc4 21 = .ok (.iand, 1) := by decide +kernel
theorem d4_22 : decode kc4 22 = .ok (.ifCond .eq 7, 3) := by decide +kernel
theorem d4_29 : decode kc4 29 = .ok (.iconst 0, 1) := by decide +kernel
theorem d4_25 : decode kc4 25 = .ok (.iconst 1, 1) := by decide +kernel
theorem d4_26 : decode kc4 26 = .ok (.goto 4, 3) := by decide +kernel
theorem d4_30 : decode kc4 30 = .ok (.istore 9, 2) := by decide +kernel
theorem d4_32 : decode kc4 32 = .ok (.iload_n 1, 1) := by decide +kernel
theorem d4_33 : decode kc4 33 = .ok (.bipush 16, 2) := by decide +kernel
theorem d4_35 : decode kc4 35 = .ok (.iand, 1) := by decide +kernel
theorem d4_36 : decode kc4 36 = .ok (.ifCond .eq 7, 3) := by decide +kernel
theorem d4_43 : decode kc4 43 = .ok (.iconst 0, 1) := by decide +kernel
theorem d4_39 : decode kc4 39 = .ok (.iconst 1, 1) := by decide +kernel
theorem d4_40 : decode kc4 40 = .ok (.goto 4, 3) := by decide +kernel
theorem d4_44 : decode kc4 44 = .ok (.istore 10, 2) := by decide +kernel
theorem d4_46 : decode kc4 46 = .ok (.iconst 2, 1) := by decide +kernel
theorem d4_47 : decode kc4 47 = .ok (.newarray .int, 2) := by decide +kernel
theorem d4_49 : decode kc4 49 = .ok (.astore 11, 2) := by decide +kernel
theorem d4_51 : decode kc4 51 = .ok (.iload 7, 2) := by decide +kernel
theorem d4_53 : decode kc4 53 = .ok (.ifCond .ne 14, 3) := by decide +kernel
theorem d4_56 : decode kc4 56 = .ok (.aload 11, 2) := by decide +kernel
theorem d4_58 : decode kc4 58 = .ok (.iconst 0, 1) := by decide +kernel
theorem d4_59 : decode kc4 59 = .ok (.iconst 0, 1) := by decide +kernel
theorem d4_60 : decode kc4 60 = .ok (.iastore, 1) := by decide +kernel
theorem d4_61 : decode kc4 61 = .ok (.iconst 1, 1) := by decide +kernel
theorem d4_62 : decode kc4 62 = .ok (.istore 12, 2) := by decide +kernel
theorem d4_64 : decode kc4 64 = .ok (.goto 55, 3) := by decide +kernel
theorem d4_67 : decode kc4 67 = .ok (.iload 7, 2) := by decide +kernel
theorem d4_69 : decode kc4 69 = .ok (.iconst 1, 1) := by decide +kernel
theorem d4_70 : decode kc4 70 = .ok (.if_icmp .ne 14, 3) := by decide +kernel
theorem d4_73 : decode kc4 73 = .ok (.aload 11, 2) := by decide +kernel
theorem d4_75 : decode kc4 75 = .ok (.iconst 0, 1) := by decide +kernel
theorem d4_76 : decode kc4 76 = .ok (.iconst 1, 1) := by decide +kernel
theorem d4_77 : decode kc4 77 = .ok (.iastore, 1) := by decide +kernel
theorem d4_78 : decode kc4 78 = .ok (.iconst 1, 1) := by decide +kernel
theorem d4_79 : decode kc4 79 = .ok (.istore 12, 2) := by decide +kernel
theorem d4_81 : decode kc4 81 = .ok (.goto 38, 3) := by decide +kernel
theorem d4_84 : decode kc4 84 = .ok (.iload 7, 2) := by decide +kernel
theorem d4_86 : decode kc4 86 = .ok (.iconst 2, 1) := by decide +kernel
theorem d4_87 : decode kc4 87 = .ok (.if_icmp .ne 19, 3) := by decide +kernel
theorem d4_90 : decode kc4 90 = .ok (.aload 11, 2) := by decide +kernel
theorem d4_92 : decode kc4 92 = .ok (.iconst 0, 1) := by decide +kernel
theorem d4_93 : decode kc4 93 = .ok (.iconst 0, 1) := by decide +kernel
theorem d4_94 : decode kc4 94 = .ok (.iastore, 1) := by decide +kernel
theorem d4_95 : decode kc4 95 = .ok (.aload 11, 2) := by decide +kernel
theorem d4_97 : decode kc4 97 = .ok (.iconst 1, 1) := by decide +kernel
theorem d4_98 : decode kc4 98 = .ok (.iconst 1, 1) := by decide +kernel
theorem d4_99 : decode kc4 99 = .ok (.iastore, 1) := by decide +kernel
theorem d4_100 : decode kc4 100 = .ok (.iconst 2, 1) := by decide +kernel
theorem d4_101 : decode kc4 101 = .ok (.istore 12, 2) := by decide +kernel
theorem d4_103 : decode kc4 103 = .ok (.goto 16, 3) := by decide +kernel
theorem d4_106 : decode kc4 106 = .ok (.aload 11, 2) := by decide +kernel
theorem d4_108 : decode kc4 108 = .ok (.iconst 0, 1) := by decide +kernel
theorem d4_109 : decode kc4 109 = .ok (.iconst 1, 1) := by decide +kernel
theorem d4_110 : decode kc4 110 = .ok (.iastore, 1) := by decide +kernel
theorem d4_111 : decode kc4 111 = .ok (.aload 11, 2) := by decide +kernel
theorem d4_113 : decode kc4 113 = .ok (.iconst 1, 1) := by decide +kernel
theorem d4_114 : decode kc4 114 = .ok (.iconst 0, 1) := by decide +kernel
theorem d4_115 : decode kc4 115 = .ok (.iastore, 1) := by decide +kernel
theorem d4_116 : decode kc4 116 = .ok (.iconst 2, 1) := by decide +kernel
theorem d4_117 : decode kc4 117 = .ok (.istore 12, 2) := by decide +kernel
theorem d4_119 : decode kc4 119 = .ok (.aload_n 0, 1) := by decide +kernel
theorem d4_120 : decode kc4 120 = .ok (.aload 11, 2) := by decide +kernel
theorem d4_122 : decode kc4 122 = .ok (.iload 12, 2) := by decide +kernel
theorem d4_124 : decode kc4 124 = .ok (.invokevirtual 20, 3) := by decide +kernel
theorem d4_127 : decode kc4 127 = .ok (.iload 8, 2) := by decide +kernel
theorem d4_129 : decode kc4 129 = .ok (.ifCond .eq 14, 3) := by decide +kernel
theorem d4_132 : decode kc4 132 = .ok (.aload_n 0, 1) := by decide +kernel
theorem d4_133 : decode kc4 133 = .ok (.iconst 0, 1) := by decide +kernel
theorem d4_134 : decode kc4 134 = .ok (.lload_n 2, 1) := by decide +kernel
theorem d4_135 : decode kc4 135 = .ok (.aload 6, 2) := by decide +kernel
theorem d4_137 : decode kc4 137 = .ok (.iconst 0, 1) := by decide +kernel
theorem d4_138 : decode kc4 138 = .ok (.laload, 1) := by decide +kernel
theorem d4_139 : decode kc4 139 = .ok (.lsub, 1) := by decide +kernel
theorem liJ_9223372036854775807 : (9223372036854775807 : Int64).toInt = 9223372036854775807 := by decide
theorem liJ_m9223372036854775808 : (-9223372036854775808 : Int64).toInt = -9223372036854775808 := by decide
theorem pd_10 : parseMethodDescriptor "(IJ)V" = some ⟨[.int, .long], none⟩ := by decide +kernel
theorem d4_140 : decode kc4 140 = .ok (.invokevirtual 24, 3) := by decide +kernel
theorem d4_143 : decode kc4 143 = .ok (.iload 9, 2) := by decide +kernel
theorem d4_145 : decode kc4 145 = .ok (.ifCond .eq 15, 3) := by decide +kernel
theorem d4_148 : decode kc4 148 = .ok (.aload_n 0, 1) := by decide +kernel
theorem d4_149 : decode kc4 149 = .ok (.iconst 1, 1) := by decide +kernel
theorem d4_150 : decode kc4 150 = .ok (.lload 4, 2) := by decide +kernel
theorem d4_152 : decode kc4 152 = .ok (.aload 6, 2) := by decide +kernel
theorem d4_154 : decode kc4 154 = .ok (.iconst 1, 1) := by decide +kernel
theorem d4_155 : decode kc4 155 = .ok (.laload, 1) := by decide +kernel
theorem d4_156 : decode kc4 156 = .ok (.lsub, 1) := by decide +kernel
theorem d4_157 : decode kc4 157 = .ok (.invokevirtual 24, 3) := by decide +kernel
theorem d4_160 : decode kc4 160 = .ok (.iload 10, 2) := by decide +kernel
theorem d4_162 : decode kc4 162 = .ok (.ifCond .eq 13, 3) := by decide +kernel
theorem d4_165 : decode kc4 165 = .ok (.aload_n 0, 1) := by decide +kernel
theorem d4_166 : decode kc4 166 = .ok (.invokevirtual 28, 3) := by decide +kernel
theorem d4_169 : decode kc4 169 = .ok (.pop, 1) := by decide +kernel
theorem d4_170 : decode kc4 170 = .ok (.aload_n 0, 1) := by decide +kernel
theorem d4_171 : decode kc4 171 = .ok (.invokevirtual 28, 3) := by decide +kernel
theorem d4_174 : decode kc4 174 = .ok (.pop, 1) := by decide +kernel
theorem d4_175 : decode kc4 175 = .ok (.aload_n 0, 1) := by decide +kernel
theorem d4_176 : decode kc4 176 = .ok (.invokevirtual 32, 3) := by decide +kernel
theorem d4_179 : decode kc4 179 = .ok (.istore 13, 2) := by decide +kernel
theorem d4_181 : decode kc4 181 = .ok (.iload 12, 2) := by decide +kernel
theorem d4_183 : decode kc4 183 = .ok (.iconst 1, 1) := by decide +kernel
theorem d4_184 : decode kc4 184 = .ok (.if_icmp .ne 62, 3) := by decide +kernel
theorem d4_187 : decode kc4 187 = .ok (.aload 11, 2) := by decide +kernel
theorem d4_189 : decode kc4 189 = .ok (.iconst 0, 1) := by decide +kernel
theorem d4_190 : decode kc4 190 = .ok (.iaload, 1) := by decide +kernel
theorem d4_191 : decode kc4 191 = .ok (.istore 17, 2) := by decide +kernel
theorem d4_193 : decode kc4 193 = .ok (.iload 17, 2) := by decide +kernel
theorem d4_195 : decode kc4 195 = .ok (.ifCond .ne 8, 3) := by decide +kernel
theorem d4_198 : decode kc4 198 = .ok (.iload 8, 2) := by decide +kernel
theorem d4_200 : decode kc4 200 = .ok (.goto 5, 3) := by decide +kernel
theorem d4_203 : decode kc4 203 = .ok (.iload 9, 2) := by decide +kernel
theorem d4_205 : decode kc4 205 = .ok (.istore 18, 2) := by decide +kernel
theorem d4_207 : decode kc4 207 = .ok (.iload 17, 2) := by decide +kernel
theorem d4_209 : decode kc4 209 = .ok (.ifCond .ne 7, 3) := by decide +kernel
theorem d4_212 : decode kc4 212 = .ok (.lload_n 2, 1) := by decide +kernel
theorem d4_213 : decode kc4 213 = .ok (.goto 5, 3) := by decide +kernel
theorem d4_216 : decode kc4 216 = .ok (.lload 4, 2) := by decide +kernel
theorem d4_218 : decode kc4 218 = .ok (.lstore 19, 2) := by decide +kernel
theorem d4_220 : decode kc4 220 = .ok (.iload 10, 2) := by decide +kernel
theorem d4_222 : decode kc4 222 = .ok (.ifCond .eq 12, 3) := by decide +kernel
theorem d4_234 : decode kc4 234 = .ok (.iconst 0, 1) := by decide +kernel
theorem d4_225 : decode kc4 225 = .ok (.iload 18, 2) := by decide +kernel
theorem d4_227 : decode kc4 227 = .ok (.ifCond .eq 7, 3) := by decide +kernel
theorem d4_230 : decode kc4 230 = .ok (.iconst 1, 1) := by decide +kernel
theorem d4_231 : decode kc4 231 = .ok (.goto 4, 3) := by decide +kernel
theorem d4_235 : decode kc4 235 = .ok (.istore 14, 2) := by decide +kernel
theorem d4_237 : decode kc4 237 = .ok (.lload 19, 2) := by decide +kernel
theorem d4_239 : decode kc4 239 = .ok (.lconst 1, 1) := by decide +kernel
theorem d4_240 : decode kc4 240 = .ok (.ladd, 1) := by decide +kernel
theorem d4_241 : decode kc4 241 = .ok (.lstore 15, 2) := by decide +kernel
theorem d4_243 : decode kc4 243 = .ok (.goto 35, 3) := by decide +kernel
theorem d4_278 : decode kc4 278 = .ok (.iload 13, 2) := by decide +kernel
theorem d4_280 : decode kc4 280 = .ok (.iload 14, 2) := by decide +kernel
theorem d4_282 : decode kc4 282 = .ok (.if_icmp .eq 5, 3) := by decide +kernel
theorem d4_287 : decode kc4 287 = .ok (.aload 6, 2) := by decide +kernel
theorem d4_289 : decode kc4 289 = .ok (.iconst 0, 1) := by decide +kernel
theorem d4_290 : decode kc4 290 = .ok (.laload, 1) := by decide +kernel
theorem d4_291 : decode kc4 291 = .ok (.lstore 17, 2) := by decide +kernel
theorem d4_293 : decode kc4 293 = .ok (.aload 6, 2) := by decide +kernel
theorem d4_295 : decode kc4 295 = .ok (.iconst 1, 1) := by decide +kernel
theorem d4_296 : decode kc4 296 = .ok (.laload, 1) := by decide +kernel
theorem d4_297 : decode kc4 297 = .ok (.lstore 19, 2) := by decide +kernel
theorem d4_299 : decode kc4 299 = .ok (.iload 14, 2) := by decide +kernel
theorem d4_301 : decode kc4 301 = .ok (.ifCond .eq 65, 3) := by decide +kernel
theorem d4_366 : decode kc4 366 = .ok (.aload 6, 2) := by decide +kernel
theorem d4_368 : decode kc4 368 = .ok (.iconst 0, 1) := by decide +kernel
theorem d4_369 : decode kc4 369 = .ok (.lload 17, 2) := by decide +kernel
theorem d4_371 : decode kc4 371 = .ok (.lastore, 1) := by decide +kernel
theorem d4_372 : decode kc4 372 = .ok (.aload 6, 2) := by decide +kernel
theorem d4_374 : decode kc4 374 = .ok (.iconst 1, 1) := by decide +kernel
theorem d4_375 : decode kc4 375 = .ok (.lload 19, 2) := by decide +kernel
theorem d4_377 : decode kc4 377 = .ok (.lastore, 1) := by decide +kernel
theorem d4_378 : decode kc4 378 = .ok (.aload_n 0, 1) := by decide +kernel
theorem d4_379 : decode kc4 379 = .ok (.iconst 0, 1) := by decide +kernel
theorem pd_11 : parseMethodDescriptor "(I)J" = some ⟨[.int], some .long⟩ := by decide +kernel
theorem d4_380 : decode kc4 380 = .ok (.invokevirtual 42, 3) := by decide +kernel
theorem d4_383 : decode kc4 383 = .ok (.lload 17, 2) := by decide +kernel
theorem d4_385 : decode kc4 385 = .ok (.lcmp, 1) := by decide +kernel
theorem d4_386 : decode kc4 386 = .ok (.ifCond .ne 18, 3) := by decide +kernel
theorem d4_389 : decode kc4 389 = .ok (.aload_n 0, 1) := by decide +kernel
theorem d4_390 : decode kc4 390 = .ok (.iconst 1, 1) := by decide +kernel
theorem d4_391 : decode kc4 391 = .ok (.invokevirtual 42, 3) := by decide +kernel
theorem d4_394 : decode kc4 394 = .ok (.lload 19, 2) := by decide +kernel
theorem d4_396 : decode kc4 396 = .ok (.lcmp, 1) := by decide +kernel
theorem d4_397 : decode kc4 397 = .ok (.ifCond .ne 7, 3) := by decide +kernel
theorem d4_400 : decode kc4 400 = .ok (.iconst 1, 1) := by decide +kernel
theorem d4_401 : decode kc4 401 = .ok (.goto 4, 3) := by decide +kernel
theorem d4_405 : decode kc4 405 = .ok (.ireturn, 1) := by decide +kernel
theorem d4_304 : decode kc4 304 = .ok (.iload 8, 2) := by decide +kernel
theorem d4_306 : decode kc4 306 = .ok (.ifCond .eq 19, 3) := by decide +kernel
theorem d4_325 : decode kc4 325 = .ok (.aload 6, 2) := by decide +kernel
theorem d4_327 : decode kc4 327 = .ok (.iconst 0, 1) := by decide +kernel
theorem d4_328 : decode kc4 328 = .ok (.laload, 1) := by decide +kernel
theorem d4_329 : decode kc4 329 = .ok (.lload 15, 2) := by decide +kernel
theorem d4_331 : decode kc4 331 = .ok (.lsub, 1) := by decide +kernel
theorem d4_309 : decode kc4 309 = .ok (.lload_n 2, 1) := by decide +kernel
theorem d4_310 : decode kc4 310 = .ok (.lload 15, 2) := by decide +kernel
theorem d4_312 : decode kc4 312 = .ok (.lcmp, 1) := by decide +kernel
theorem d4_313 : decode kc4 313 = .ok (.ifCond .ge 12, 3) := by decide +kernel
theorem d4_316 : decode kc4 316 = .ok (.aload 6, 2) := by decide +kernel
theorem d4_318 : decode kc4 318 = .ok (.iconst 0, 1) := by decide +kernel
theorem d4_319 : decode kc4 319 = .ok (.laload, 1) := by decide +kernel
theorem d4_320 : decode kc4 320 = .ok (.lload_n 2, 1) := by decide +kernel
theorem d4_321 : decode kc4 321 = .ok (.lsub, 1) := by decide +kernel
theorem d4_322 : decode kc4 322 = .ok (.goto 10, 3) := by decide +kernel
theorem d4_332 : decode kc4 332 = .ok (.lstore 17, 2) := by decide +kernel
theorem d4_334 : decode kc4 334 = .ok (.iload 9, 2) := by decide +kernel
theorem d4_336 : decode kc4 336 = .ok (.ifCond .eq 21, 3) := by decide +kernel
theorem d4_357 : decode kc4 357 = .ok (.aload 6, 2) := by decide +kernel
theorem d4_359 : decode kc4 359 = .ok (.iconst 1, 1) := by decide +kernel
theorem d4_360 : decode kc4 360 = .ok (.laload, 1) := by decide +kernel
theorem d4_361 : decode kc4 361 = .ok (.lload 15, 2) := by decide +kernel
theorem d4_363 : decode kc4 363 = .ok (.lsub, 1) := by decide +kernel
theorem d4_339 : decode kc4 339 = .ok (.lload 4, 2) := by decide +kernel
theorem d4_341 : decode kc4 341 = .ok (.lload 15, 2) := by decide +kernel
theorem d4_343 : decode kc4 343 = .ok (.lcmp, 1) := by decide +kernel
theorem d4_344 : decode kc4 344 = .ok (.ifCond .ge 13, 3) := by decide +kernel
theorem d4_347 : decode kc4 347 = .ok (.aload 6, 2) := by decide +kernel
theorem d4_349 : decode kc4 349 = .ok (.iconst 1, 1) := by decide +kernel
theorem d4_350 : decode kc4 350 = .ok (.laload, 1) := by decide +kernel
theorem d4_351 : decode kc4 351 = .ok (.lload 4, 2) := by decide +kernel
theorem d4_353 : decode kc4 353 = .ok (.lsub, 1) := by decide +kernel
theorem d4_354 : decode kc4 354 = .ok (.goto 10, 3) := by decide +kernel
theorem d4_364 : decode kc4 364 = .ok (.lstore 19, 2) := by decide +kernel
theorem d4_246 : decode kc4 246 = .ok (.iload 10, 2) := by decide +kernel
theorem d4_248 : decode kc4 248 = .ok (.ifCond .eq 17, 3) := by decide +kernel
theorem d4_265 : decode kc4 265 = .ok (.iconst 0, 1) := by decide +kernel
theorem d4_251 : decode kc4 251 = .ok (.iload 8, 2) := by decide +kernel
theorem d4_253 : decode kc4 253 = .ok (.ifCond .eq 12, 3) := by decide +kernel
theorem d4_256 : decode kc4 256 = .ok (.iload 9, 2) := by decide +kernel
theorem d4_258 : decode kc4 258 = .ok (.ifCond .eq 7, 3) := by decide +kernel
theorem d4_261 : decode kc4 261 = .ok (.iconst 1, 1) := by decide +kernel
theorem d4_262 : decode kc4 262 = .ok (.goto 4, 3) := by decide +kernel
theorem d4_266 : decode kc4 266 = .ok (.istore 14, 2) := by decide +kernel
theorem d4_268 : decode kc4 268 = .ok (.lload_n 2, 1) := by decide +kernel
theorem d4_269 : decode kc4 269 = .ok (.lload 4, 2) := by decide +kernel
theorem d4_271 : decode kc4 271 = .ok (.invokestatic 36, 3) := by decide +kernel
theorem d4_274 : decode kc4 274 = .ok (.lconst 1, 1) := by decide +kernel
theorem d4_275 : decode kc4 275 = .ok (.ladd, 1) := by decide +kernel
theorem d4_276 : decode kc4 276 = .ok (.lstore 15, 2) := by decide +kernel
theorem ef_rm4 (m : MethodId) (ps : Addr) (fg : Int32) (D0 D1 : Int64) (ea : Addr) : entryFrame m #[(.ref ps), (.int fg), (.long D0), (.long D1), (.ref ea)] 21 = mkF m 0 #[vr ps, vi fg, vj D0, sd, vj D1, sd, vr ea, un, un, un, un, un, un, un, un, un, un, un, un, un, un] [] := by first | (simp [entryFrame, mkF, argsToLocals, Value.category]; done) | rfl
def Q4 (Z : State) (ps : Addr) (fg : Int32) (D0 D1 : Int64) (ea q ks js ss po di ma se : Addr) (kf jf : Nat → Addr) (mk sc en ts sl : Int32) (st lm p0 p1 d0 d1 : Int64) (m0 m1 s0 s1 : Int32) (sz : Nat → Int32) (KF : Nat → Nat → Int64) (JF : Nat → Nat → Int32) (sn : Int32) (la : Int64) (sv : Value) (w0 w1 : Int32) (h0 : Heap) (n0 : Nat) (vv : Option Value) (h : Heap) (LL : List Loc) : Prop := ∃ (mkx scx enx tsx slx : Int32) (stx lmx p0x p1x d0x d1x : Int64) (m0x m1x s0x s1x : Int32) (szx : Nat → Int32) (KFx : Nat → Nat → Int64) (JFx : Nat → Nat → Int32) (snx : Int32) (lax : Int64) (svx : Value) (w0x w1x rr : Int32), vv = some (.int rr) ∧ Fr n0 LL ∧ (rr.toInt = 1) ∧ (mkx.toInt = mk.toInt + 2 ∧ m0x.toInt ≤ mkx.toInt + 1 ∧ m1x.toInt ≤ mkx.toInt + 1) ∧ Lk h0 h ∧ (PSt Z h ps q ks js ss po di ma se kf jf mkx scx enx tsx slx stx lmx p0x p1x d0x d1x m0x m1x s0x s1x szx KFx JFx snx lax svx) ∧ (SV Z h ps q ks js ss po di ma se kf jf n0 svx w0x w1x) ∧ (Vec Z h ea .long (2 : Int32) (longs (lst [p0x, p1x])))
set_option maxRecDepth 65536 in
set_option maxHeartbeats 40000000 in
theorem rm4 (l : Launch) (Z : State) (a0 : Array Value) (hw : ∀ d ∈ tables_1, d.before a0 Z = true) (ws : List Jvm.Cond) (ps : Addr) (fg : Int32) (D0 D1 : Int64) (ea q ks js ss po di ma se : Addr) (kf jf : Nat → Addr) (mk sc en ts sl : Int32) (st lm p0 p1 d0 d1 : Int64) (m0 m1 s0 s1 : Int32) (sz : Nat → Int32) (KF : Nat → Nat → Int64) (JF : Nat → Nat → Int32) (sn : Int32) (la : Int64) (sv : Value) (w0 w1 : Int32) (h0 : Heap) (n0 : Nat) (Z0 : n0 ≤ h0.size) (hO : PSt Z h0 ps q ks js ss po di ma se kf jf mk sc en ts sl st lm p0 p1 d0 d1 m0 m1 s0 s1 sz KF JF sn la sv) (hPs : PSs n0 ps q ks js ss po di ma se kf jf) (hSV : SV Z h0 ps q ks js ss po di ma se kf jf n0 sv w0 w1) (hve : Vec Z h0 ea .long (2 : Int32) (longs (lst [p0, p1]))) (out_ea : ∀ x ∈ [ps, q, ks, js, ss, po, di, ma, se], x ≠ ea) (nr_ea : NR kf jf ea) (G_ea : n0 ≤ ea) (hD : 0 ≤ D0.toInt ∧ D0.toInt < 2305843009213693952 ∧ 0 ≤ D1.toInt ∧ D1.toInt < 2305843009213693952) (hmk : 0 ≤ mk.toInt ∧ mk.toInt ≤ 50 ∧ m0.toInt ≤ mk.toInt + 1 ∧ m1.toInt ≤ mk.toInt + 1) :
    MetFree l (⟨"com/example/rackwise/rackwise/PathSearchFinishBackPinLaw", "run", "(Lcom/example/rackwise/rackwise/PathSearch;IJJ[J)Z"⟩ : MethodName) (head1 (Jvm.Cond.code (⟨"com/example/rackwise/rackwise/PathSearchFinishBackPinLaw", "run", "(Lcom/example/rackwise/rackwise/PathSearch;IJJ[J)Z"⟩ : MethodName) kc4 21 (some .boolean) :: ws) ({ frames := 6, cells := 2, slots := 4, locals := 88 } : Room)) (fun aa UU => aa = #[(.ref ps), (.int fg), (.long D0), (.long D1), (.ref ea)] ∧ Z.Warmed39 UU.vm ∧ UU.heap = h0) (fun _ _ _ _ _ => True) (fun _ UU oo UU' => ∃ vv LL, oo = .returned vv ∧ Q4 Z ps fg D0 D1 ea q ks js ss po di ma se kf jf mk sc en ts sl st lm p0 p1 d0 d1 m0 m1 s0 s1 sz KF JF sn la sv w0 w1 h0 n0 vv UU'.heap LL ∧ FrameEnd UU oo UU' LL 2 4) := by
  refine MetFree.of_bodySF (plainFor_of_name pn_5) hisR ?_
  intro p e s m args below meth c s₁ Bd hml0 hP hK
  obtain ⟨rfl, hZ, hh⟩ := hP
  have hx := Bd.exec
  have hby := Bd.bytes
  have hlk : meth.locks = false := BodyLoose.notSynchronized Bd
  have hml : c.maxLocals = 21 := hml0
  have hown : s.vm.findClass "com/example/rackwise/rackwise/PathSearchFinishBackPinLaw" = some m.cls := findClass_of_methodNamed Bd.named
  have hnm := (name_of_methodNamed Bd.named Bd.method).1
  have X0 : Stand p l e ({ frames := 6, cells := 2, slots := 4, locals := 88 } : Room) s m #[(.ref ps), (.int fg), (.long D0), (.long D1), (.ref ea)] below meth c s₁ [] 0 0 := Stand.of_body Bd
  have e0 : s₁.heap = h0 := by rw [← hh, Bd.state]; rfl
  have N0 := Fr.nil n0
  have K0 : Lk h0 h0 := Lk.refl h0
  refine (?_ : Go p e below s (Q4 Z ps fg D0 D1 ea q ks js ss po di ma se kf jf mk sc en ts sl st lm p0 p1 d0 d1 m0 m1 s0 s1 sz KF JF sn la sv w0 w1 h0 n0) 2 4 (s₁.setTop (entryFrame m #[(.ref ps), (.int fg), (.long D0), (.long D1), (.ref ea)] 21)))
  rw [ef_rm4]
  generalize hQ : Q4 Z ps fg D0 D1 ea q ks js ss po di ma se kf jf mk sc en ts sl st lm p0 p1 d0 d1 m0 m1 s0 s1 sz KF JF sn la sv w0 w1 h0 n0 = Q
  show Go p e below s Q 2 4 (s₁.setTop (mkF m 0 #[vr ps, vi fg, vj D0, sd, vj D1, sd, vr ea, un, un, un, un, un, un, un, un, un, un, un, un, un, un] []))
  have f1 := rng32 fg
  have f2 := rng64 D0
  have f3 := rng64 D1
  refine gC X0 hx hby rfl d4_0 rfl ?_
  refine gI X0 hx hby rfl d4_1 ?_
  refine Go.st (fun _ k => XS.iand X0.here hx rfl (hb hby d4_2) rfl k) ?_
  refine gS X0 hx hby rfl d4_3 rfl (l' := #[vr ps, vi fg, vj D0, sd, vj D1, sd, vr ea, vi (fg &&& (3 : Int32)), un, un, un, un, un, un, un, un, un, un, un, un, un]) rfl ?_
  show Go p e below s Q 2 4 (s₁.setTop (mkF m 5 #[vr ps, vi fg, vj D0, sd, vj D1, sd, vr ea, vi (fg &&& (3 : Int32)), un, un, un, un, un, un, un, un, un, un, un, un, un] []))
  have f4 := liI_3
  have f5 : (fg &&& (3 : Int32)).toInt = fg.toInt % 4 := c_mask fg (3 : Int32) 2 (by decide) (by decide)
  generalize hv_v6 : (fg &&& (3 : Int32)) = v6 at f5 ⊢
  refine gC X0 hx hby rfl d4_5 rfl ?_
  refine gI X0 hx hby rfl d4_6 ?_
  refine Go.st (fun _ k => XS.iand X0.here hx rfl (hb hby d4_7) rfl k) ?_
  show Go p e below s Q 2 4 (s₁.setTop (mkF m 8 #[vr ps, vi fg, vj D0, sd, vj D1, sd, vr ea, vi v6, un, un, un, un, un, un, un, un, un, un, un, un, un] [(.int (fg &&& (4 : Int32)))]))
  suffices J8 : ∀ (j7 : Int32), (j7.toInt = 0 ∨ j7.toInt = 1) → Go p e below s Q 2 4 (s₁.setTop (mkF m 16 #[vr ps, vi fg, vj D0, sd, vj D1, sd, vr ea, vi v6, un, un, un, un, un, un, un, un, un, un, un, un, un] [(.int j7)])) by
    have f10 := liI_4
    have f11 := c_and fg (4 : Int32) (by decide)
    have f12 := liI_0
    by_cases c13 : (fg &&& (4 : Int32)).toInt = 0
    ·
      refine gY X0 hx hby rfl (pc0 := 8) (pc' := 15) rfl d4_8 rfl ((if0 _ _).trans (teq (eqI rfl liI_0 c13)).1) (by decide) (by decide) ?_
      refine gI X0 hx hby rfl d4_15 ?_
      show Go p e below s Q 2 4 (s₁.setTop (mkF m 16 #[vr ps, vi fg, vj D0, sd, vj D1, sd, vr ea, vi v6, un, un, un, un, un, un, un, un, un, un, un, un, un] [(.int (0 : Int32))]))
      exact J8 (0 : Int32) (by omega)
    ·
      refine gN X0 hx hby rfl d4_8 rfl ((if0 _ _).trans (feq (neI rfl liI_0 c13)).1) ?_
      refine gI X0 hx hby rfl d4_11 ?_
      refine gG X0 hx hby rfl (pc0 := 12) (pc' := 16) rfl d4_12 (by decide) (by decide) ?_
      show Go p e below s Q 2 4 (s₁.setTop (mkF m 16 #[vr ps, vi fg, vj D0, sd, vj D1, sd, vr ea, vi v6, un, un, un, un, un, un, un, un, un, un, un, un, un] [(.int (1 : Int32))]))
      have f14 := liI_1
      exact J8 (1 : Int32) (by omega)
  intro j7 f15
  have f16 := rng32 j7
  refine gS X0 hx hby rfl d4_16 rfl (l' := #[vr ps, vi fg, vj D0, sd, vj D1, sd, vr ea, vi v6, vi j7, un, un, un, un, un, un, un, un, un, un, un, un]) rfl ?_
  refine gC X0 hx hby rfl d4_18 rfl ?_
  refine Go.st (fun _ k => XS.bipush X0.here hx rfl (hb hby d4_19) k) ?_
  refine Go.st (fun _ k => XS.iand X0.here hx rfl (hb hby d4_21) rfl k) ?_
  show Go p e below s Q 2 4 (s₁.setTop (mkF m 22 #[vr ps, vi fg, vj D0, sd, vj D1, sd, vr ea, vi v6, vi j7, un, un, un, un, un, un, un, un, un, un, un, un] [(.int (fg &&& (8 : Int32)))]))
  suffices J18 : ∀ (j17 : Int32), (j17.toInt = 0 ∨ j17.toInt = 1) → Go p e below s Q 2 4 (s₁.setTop (mkF m 30 #[vr ps, vi fg, vj D0, sd, vj D1, sd, vr ea, vi v6, vi j7, un, un, un, un, un, un, un, un, un, un, un, un] [(.int j17)])) by
    have f20 := liI_8
    have f21 := c_and fg (8 : Int32) (by decide)
    have f22 := liI_0
    by_cases c23 : (fg &&& (8 : Int32)).toInt = 0
    ·
      refine gY X0 hx hby rfl (pc0 := 22) (pc' := 29) rfl d4_22 rfl ((if0 _ _).trans (teq (eqI rfl liI_0 c23)).1) (by decide) (by decide) ?_
      refine gI X0 hx hby rfl d4_29 ?_
      show Go p e below s Q 2 4 (s₁.setTop (mkF m 30 #[vr ps, vi fg, vj D0, sd, vj D1, sd, vr ea, vi v6, vi j7, un, un, un, un, un, un, un, un, un, un, un, un] [(.int (0 : Int32))]))
      exact J18 (0 : Int32) (by omega)
    ·
      refine gN X0 hx hby rfl d4_22 rfl ((if0 _ _).trans (feq (neI rfl liI_0 c23)).1) ?_
      refine gI X0 hx hby rfl d4_25 ?_
      refine gG X0 hx hby rfl (pc0 := 26) (pc' := 30) rfl d4_26 (by decide) (by decide) ?_
      show Go p e below s Q 2 4 (s₁.setTop (mkF m 30 #[vr ps, vi fg, vj D0, sd, vj D1, sd, vr ea, vi v6, vi j7, un, un, un, un, un, un, un, un, un, un, un, un] [(.int (1 : Int32))]))
      have f24 := liI_1
      exact J18 (1 : Int32) (by omega)
  intro j17 f25
  have f26 := rng32 j17
  refine gS X0 hx hby rfl d4_30 rfl (l' := #[vr ps, vi fg, vj D0, sd, vj D1, sd, vr ea, vi v6, vi j7, vi j17, un, un, un, un, un, un, un, un, un, un, un]) rfl ?_
  refine gC X0 hx hby rfl d4_32 rfl ?_
  refine Go.st (fun _ k => XS.bipush X0.here hx rfl (hb hby d4_33) k) ?_
  refine Go.st (fun _ k => XS.iand X0.here hx rfl (hb hby d4_35) rfl k) ?_
  show Go p e below s Q 2 4 (s₁.setTop (mkF m 36 #[vr ps, vi fg, vj D0, sd, vj D1, sd, vr ea, vi v6, vi j7, vi j17, un, un, un, un, un, un, un, un, un, un, un] [(.int (fg &&& (16 : Int32)))]))
  suffices J28 : ∀ (j27 : Int32), (j27.toInt = 0 ∨ j27.toInt = 1) → Go p e below s Q 2 4 (s₁.setTop (mkF m 44 #[vr ps, vi fg, vj D0, sd, vj D1, sd, vr ea, vi v6, vi j7, vi j17, un, un, un, un, un, un, un, un, un, un, un] [(.int j27)])) by
    have f30 := liI_16
    have f31 := c_and fg (16 : Int32) (by decide)
    have f32 := liI_0
    by_cases c33 : (fg &&& (16 : Int32)).toInt = 0
    ·
      refine gY X0 hx hby rfl (pc0 := 36) (pc' := 43) rfl d4_36 rfl ((if0 _ _).trans (teq (eqI rfl liI_0 c33)).1) (by decide) (by decide) ?_
      refine gI X0 hx hby rfl d4_43 ?_
      show Go p e below s Q 2 4 (s₁.setTop (mkF m 44 #[vr ps, vi fg, vj D0, sd, vj D1, sd, vr ea, vi v6, vi j7, vi j17, un, un, un, un, un, un, un, un, un, un, un] [(.int (0 : Int32))]))
      exact J28 (0 : Int32) (by omega)
    ·
      refine gN X0 hx hby rfl d4_36 rfl ((if0 _ _).trans (feq (neI rfl liI_0 c33)).1) ?_
      refine gI X0 hx hby rfl d4_39 ?_
      refine gG X0 hx hby rfl (pc0 := 40) (pc' := 44) rfl d4_40 (by decide) (by decide) ?_
      show Go p e below s Q 2 4 (s₁.setTop (mkF m 44 #[vr ps, vi fg, vj D0, sd, vj D1, sd, vr ea, vi v6, vi j7, vi j17, un, un, un, un, un, un, un, un, un, un, un] [(.int (1 : Int32))]))
      have f34 := liI_1
      exact J28 (1 : Int32) (by omega)
  intro j27 f35
  have f36 := rng32 j27
  refine gS X0 hx hby rfl d4_44 rfl (l' := #[vr ps, vi fg, vj D0, sd, vj D1, sd, vr ea, vi v6, vi j7, vi j17, vi j27, un, un, un, un, un, un, un, un, un, un]) rfl ?_
  refine gI X0 hx hby rfl d4_46 ?_
  have f38 := liI_2
  have r39 : 0 ≤ (2 : Int32).toInt := by decide
  have r40 : (2 : Int32).toNatClampNeg ≤ 2 := by decide
  obtain ⟨T37, h37, k37, X37, e37, E37, A37, B37, st37⟩ := newPE X0 hx hZ (tb hw 24 rfl) e0 (g := (mkF m 47 #[vr ps, vi fg, vj D0, sd, vj D1, sd, vr ea, vi v6, vi j7, vi j17, vi j27, un, un, un, un, un, un, un, un, un, un] [(.int (2 : Int32))])) rfl (hb hby d4_47) rfl (not_neg r39) (cap := 2) r40 (by decide) (by decide) (by decide) (ad := "[I") (by decide)
  obtain ⟨b37, g37⟩ : ∃ z, z = h0.size := ⟨_, rfl⟩
  rw [← g37] at A37 B37 st37
  have out_b37 : ∀ y ∈ [ps, q, ks, js, ss, po, di, ma, se], y ≠ b37 := hO.fresh g37
  have nr_b37 : NR kf jf b37 := hO.freshR g37
  have sv_b37 : ∀ so, sv = .ref so → so ≠ b37 := hSV.fresh g37
  have q41 : Hid (ea ≠ b37) := Nat.ne_of_lt (Nat.lt_of_lt_of_le hve.lt (Nat.le_of_eq g37.symm))
  have h42 : PSt Z h37 ps q ks js ss po di ma se kf jf mk sc en ts sl st lm p0 p1 d0 d1 m0 m1 s0 s1 sz KF JF sn la sv := hO.ext E37
  have h43 : SV Z h37 ps q ks js ss po di ma se kf jf n0 sv w0 w1 := hSV.ext E37
  have h44 : Vec Z h37 ea .long (2 : Int32) (longs (lst [p0, p1])) := hve.ext E37
  have Gb37 : Hid (n0 ≤ b37) := Nat.le_trans (Nat.le_trans Z0 K0.1) (Nat.le_of_eq g37.symm)
  have szb37 : Hid (h0.size ≤ b37) := Nat.le_trans K0.1 (Nat.le_of_eq g37.symm)
  have K37 : Lk h0 h37 := K0.ext E37
  have h45 : Vec Z h37 b37 .int (2 : Int32) (ints (lst [(0 : Int32), (0 : Int32)])) := Vec.zerosI 2 (Vec.new A37 r39)
  refine Go.st st37 ?_
  show Go p e below s Q 2 4 (T37.setTop (mkF m 49 #[vr ps, vi fg, vj D0, sd, vj D1, sd, vr ea, vi v6, vi j7, vi j17, vi j27, un, un, un, un, un, un, un, un, un, un] [(.ref b37)]))
  refine Go.st (fun _ k => XS.astore X37.here hx rfl (hb hby d4_49) rfl rfl (l' := #[vr ps, vi fg, vj D0, sd, vj D1, sd, vr ea, vi v6, vi j7, vi j17, vi j27, vr b37, un, un, un, un, un, un, un, un, un]) rfl k) ?_
  show Go p e below s Q 2 4 (T37.setTop (mkF m 51 #[vr ps, vi fg, vj D0, sd, vj D1, sd, vr ea, vi v6, vi j7, vi j17, vi j27, vr b37, un, un, un, un, un, un, un, un, un] []))
  suffices J47 : ∀ (Tg46 : State) (hg46 : Heap) (Lgg46 : List Loc) (Xg46 : Stand p l e ({ frames := 6, cells := 2, slots := 4, locals := 88 } : Room) s m #[(.ref ps), (.int fg), (.long D0), (.long D1), (.ref ea)] below meth c Tg46 Lgg46 1 2) (eg46 : Tg46.heap = hg46) (Ng46 : Fr n0 Lgg46) (Kg46 : Lk h0 hg46) (cn u0 u1 : Int32) (hfg46_0 : PSt Z hg46 ps q ks js ss po di ma se kf jf mk sc en ts sl st lm p0 p1 d0 d1 m0 m1 s0 s1 sz KF JF sn la sv) (hfg46_1 : SV Z hg46 ps q ks js ss po di ma se kf jf n0 sv w0 w1) (hfg46_2 : Vec Z hg46 ea .long (2 : Int32) (longs (lst [p0, p1]))) (hfg46_3 : Vec Z hg46 b37 .int (2 : Int32) (ints (lst [u0, u1]))) (hpg46_0 : (cn.toInt = 1 ∧ (u0.toInt = 0 ∨ u0.toInt = 1)) ∨ (cn.toInt = 2 ∧ ((u0.toInt = 0 ∧ u1.toInt = 1) ∨ (u0.toInt = 1 ∧ u1.toInt = 0)))), Go p e below s Q 2 4 (Tg46.setTop (mkF m 119 #[vr ps, vi fg, vj D0, sd, vj D1, sd, vr ea, vi v6, vi j7, vi j17, vi j27, vr b37, vi cn, un, un, un, un, un, un, un, un] [])) by
    refine gD X37 hx hby rfl d4_51 rfl ?_
    have f48 := liI_0
    by_cases c49 : v6.toInt = 0
    ·
      refine gN X37 hx hby rfl d4_53 rfl ((if0 _ _).trans (teq (eqI rfl liI_0 c49)).2) ?_
      refine gB X37 hx hby rfl d4_56 rfl rfl ?_
      refine gI X37 hx hby rfl d4_58 ?_
      refine gI X37 hx hby rfl d4_59 ?_
      obtain ⟨T50, h50, X50, e50, W50, V50, st50⟩ := Vec.istI X37 hx hZ e37 h45 (j := (0 : Int32)) (by decide) (by decide) (g := (mkF m 60 #[vr ps, vi fg, vj D0, sd, vj D1, sd, vr ea, vi v6, vi j7, vi j17, vi j27, vr b37, un, un, un, un, un, un, un, un, un] [(.int (0 : Int32)), (.int (0 : Int32)), (.ref b37)])) rfl rfl (hb hby d4_60)
      have h51 : PSt Z h50 ps q ks js ss po di ma se kf jf mk sc en ts sl st lm p0 p1 d0 d1 m0 m1 s0 s1 sz KF JF sn la sv := h42.other W50 out_b37 nr_b37
      have h52 : SV Z h50 ps q ks js ss po di ma se kf jf n0 sv w0 w1 := h43.other2 W50 sv_b37
      have h53 : Vec Z h50 ea .long (2 : Int32) (longs (lst [p0, p1])) := h44.other W50 q41
      have h54 : Vec Z h50 b37 .int (2 : Int32) (ints (lst [(0 : Int32), (0 : Int32)])) := Vec.of_eq V50 (congrArg ints (upd_lst _ 0 _ (Nat.le_of_ble_eq_true rfl)))
      have K50 : Lk h0 h50 := K37.wr W50
      have N50 := Fr.snoc X50 N0 Gb37
      refine Go.st st50 ?_
      show Go p e below s Q 2 4 (T50.setTop (mkF m 61 #[vr ps, vi fg, vj D0, sd, vj D1, sd, vr ea, vi v6, vi j7, vi j17, vi j27, vr b37, un, un, un, un, un, un, un, un, un] []))
      refine gI X50 hx hby rfl d4_61 ?_
      refine gS X50 hx hby rfl d4_62 rfl (l' := #[vr ps, vi fg, vj D0, sd, vj D1, sd, vr ea, vi v6, vi j7, vi j17, vi j27, vr b37, vi (1 : Int32), un, un, un, un, un, un, un, un]) rfl ?_
      refine gG X50 hx hby rfl (pc0 := 64) (pc' := 119) rfl d4_64 (by decide) (by decide) ?_
      show Go p e below s Q 2 4 (T50.setTop (mkF m 119 #[vr ps, vi fg, vj D0, sd, vj D1, sd, vr ea, vi v6, vi j7, vi j17, vi j27, vr b37, vi (1 : Int32), un, un, un, un, un, un, un, un] []))
      have f55 := liI_1
      exact J47 T50 h50 _ (up X50 (by decide) (by decide)) e50 N50 K50 (1 : Int32) (0 : Int32) (0 : Int32) h51 h52 h53 h54 (by omega)
    ·
      refine gY X37 hx hby rfl (pc0 := 53) (pc' := 67) rfl d4_53 rfl ((if0 _ _).trans (feq (neI rfl liI_0 c49)).2) (by decide) (by decide) ?_
      refine gD X37 hx hby rfl d4_67 rfl ?_
      refine gI X37 hx hby rfl d4_69 ?_
      have f56 := liI_1
      by_cases c57 : v6.toInt = 1
      ·
        refine gM X37 hx hby rfl d4_70 rfl (teq (eqI rfl liI_1 c57)).2 ?_
        refine gB X37 hx hby rfl d4_73 rfl rfl ?_
        show Go p e below s Q 2 4 (T37.setTop (mkF m 75 #[vr ps, vi fg, vj D0, sd, vj D1, sd, vr ea, vi v6, vi j7, vi j17, vi j27, vr b37, un, un, un, un, un, un, un, un, un] [(.ref b37)]))
        refine gI X37 hx hby rfl d4_75 ?_
        refine gI X37 hx hby rfl d4_76 ?_
        obtain ⟨T58, h58, X58, e58, W58, V58, st58⟩ := Vec.istI X37 hx hZ e37 h45 (j := (0 : Int32)) (by decide) (by decide) (g := (mkF m 77 #[vr ps, vi fg, vj D0, sd, vj D1, sd, vr ea, vi v6, vi j7, vi j17, vi j27, vr b37, un, un, un, un, un, un, un, un, un] [(.int (1 : Int32)), (.int (0 : Int32)), (.ref b37)])) rfl rfl (hb hby d4_77)
        have h59 : PSt Z h58 ps q ks js ss po di ma se kf jf mk sc en ts sl st lm p0 p1 d0 d1 m0 m1 s0 s1 sz KF JF sn la sv := h42.other W58 out_b37 nr_b37
        have h60 : SV Z h58 ps q ks js ss po di ma se kf jf n0 sv w0 w1 := h43.other2 W58 sv_b37
        have h61 : Vec Z h58 ea .long (2 : Int32) (longs (lst [p0, p1])) := h44.other W58 q41
        have h62 : Vec Z h58 b37 .int (2 : Int32) (ints (lst [(1 : Int32), (0 : Int32)])) := Vec.of_eq V58 (congrArg ints (upd_lst _ 0 _ (Nat.le_of_ble_eq_true rfl)))
        have K58 : Lk h0 h58 := K37.wr W58
        have N58 := Fr.snoc X58 N0 Gb37
        refine Go.st st58 ?_
        show Go p e below s Q 2 4 (T58.setTop (mkF m 78 #[vr ps, vi fg, vj D0, sd, vj D1, sd, vr ea, vi v6, vi j7, vi j17, vi j27, vr b37, un, un, un, un, un, un, un, un, un] []))
        refine gI X58 hx hby rfl d4_78 ?_
        refine gS X58 hx hby rfl d4_79 rfl (l' := #[vr ps, vi fg, vj D0, sd, vj D1, sd, vr ea, vi v6, vi j7, vi j17, vi j27, vr b37, vi (1 : Int32), un, un, un, un, un, un, un, un]) rfl ?_
        refine gG X58 hx hby rfl (pc0 := 81) (pc' := 119) rfl d4_81 (by decide) (by decide) ?_
        show Go p e below s Q 2 4 (T58.setTop (mkF m 119 #[vr ps, vi fg, vj D0, sd, vj D1, sd, vr ea, vi v6, vi j7, vi j17, vi j27, vr b37, vi (1 : Int32), un, un, un, un, un, un, un, un] []))
        exact J47 T58 h58 _ (up X58 (by decide) (by decide)) e58 N58 K58 (1 : Int32) (1 : Int32) (0 : Int32) h59 h60 h61 h62 (by omega)
      ·
        refine gZ X37 hx hby rfl (pc0 := 70) (pc' := 84) rfl d4_70 rfl (feq (neI rfl liI_1 c57)).2 (by decide) (by decide) ?_
        refine gD X37 hx hby rfl d4_84 rfl ?_
        show Go p e below s Q 2 4 (T37.setTop (mkF m 86 #[vr ps, vi fg, vj D0, sd, vj D1, sd, vr ea, vi v6, vi j7, vi j17, vi j27, vr b37, un, un, un, un, un, un, un, un, un] [(.int v6)]))
        refine gI X37 hx hby rfl d4_86 ?_
        by_cases c63 : v6.toInt = 2
        ·
          refine gM X37 hx hby rfl d4_87 rfl (teq (eqI rfl liI_2 c63)).2 ?_
          refine gB X37 hx hby rfl d4_90 rfl rfl ?_
          refine gI X37 hx hby rfl d4_92 ?_
          refine gI X37 hx hby rfl d4_93 ?_
          obtain ⟨T64, h64, X64, e64, W64, V64, st64⟩ := Vec.istI X37 hx hZ e37 h45 (j := (0 : Int32)) (by decide) (by decide) (g := (mkF m 94 #[vr ps, vi fg, vj D0, sd, vj D1, sd, vr ea, vi v6, vi j7, vi j17, vi j27, vr b37, un, un, un, un, un, un, un, un, un] [(.int (0 : Int32)), (.int (0 : Int32)), (.ref b37)])) rfl rfl (hb hby d4_94)
          have h65 : PSt Z h64 ps q ks js ss po di ma se kf jf mk sc en ts sl st lm p0 p1 d0 d1 m0 m1 s0 s1 sz KF JF sn la sv := h42.other W64 out_b37 nr_b37
          have h66 : SV Z h64 ps q ks js ss po di ma se kf jf n0 sv w0 w1 := h43.other2 W64 sv_b37
          have h67 : Vec Z h64 ea .long (2 : Int32) (longs (lst [p0, p1])) := h44.other W64 q41
          have h68 : Vec Z h64 b37 .int (2 : Int32) (ints (lst [(0 : Int32), (0 : Int32)])) := Vec.of_eq V64 (congrArg ints (upd_lst _ 0 _ (Nat.le_of_ble_eq_true rfl)))
          have K64 : Lk h0 h64 := K37.wr W64
          have N64 := Fr.snoc X64 N0 Gb37
          refine Go.st st64 ?_
          show Go p e below s Q 2 4 (T64.setTop (mkF m 95 #[vr ps, vi fg, vj D0, sd, vj D1, sd, vr ea, vi v6, vi j7, vi j17, vi j27, vr b37, un, un, un, un, un, un, un, un, un] []))
          refine gB X64 hx hby rfl d4_95 rfl rfl ?_
          refine gI X64 hx hby rfl d4_97 ?_
          refine gI X64 hx hby rfl d4_98 ?_
          obtain ⟨T69, h69, X69, e69, W69, V69, st69⟩ := Vec.istI X64 hx hZ e64 h68 (j := (1 : Int32)) (by decide) (by decide) (g := (mkF m 99 #[vr ps, vi fg, vj D0, sd, vj D1, sd, vr ea, vi v6, vi j7, vi j17, vi j27, vr b37, un, un, un, un, un, un, un, un, un] [(.int (1 : Int32)), (.int (1 : Int32)), (.ref b37)])) rfl rfl (hb hby d4_99)
          have h70 : PSt Z h69 ps q ks js ss po di ma se kf jf mk sc en ts sl st lm p0 p1 d0 d1 m0 m1 s0 s1 sz KF JF sn la sv := h65.other W69 out_b37 nr_b37
          have h71 : SV Z h69 ps q ks js ss po di ma se kf jf n0 sv w0 w1 := h66.other2 W69 sv_b37
          have h72 : Vec Z h69 ea .long (2 : Int32) (longs (lst [p0, p1])) := h67.other W69 q41
          have h73 : Vec Z h69 b37 .int (2 : Int32) (ints (lst [(0 : Int32), (1 : Int32)])) := Vec.of_eq V69 (congrArg ints (upd_lst _ 1 _ (Nat.le_of_ble_eq_true rfl)))
          have K69 : Lk h0 h69 := K64.wr W69
          have N69 := Fr.snoc X69 N64 Gb37
          refine Go.st st69 ?_
          show Go p e below s Q 2 4 (T69.setTop (mkF m 100 #[vr ps, vi fg, vj D0, sd, vj D1, sd, vr ea, vi v6, vi j7, vi j17, vi j27, vr b37, un, un, un, un, un, un, un, un, un] []))
          refine gI X69 hx hby rfl d4_100 ?_
          refine gS X69 hx hby rfl d4_101 rfl (l' := #[vr ps, vi fg, vj D0, sd, vj D1, sd, vr ea, vi v6, vi j7, vi j17, vi j27, vr b37, vi (2 : Int32), un, un, un, un, un, un, un, un]) rfl ?_
          refine gG X69 hx hby rfl (pc0 := 103) (pc' := 119) rfl d4_103 (by decide) (by decide) ?_
          show Go p e below s Q 2 4 (T69.setTop (mkF m 119 #[vr ps, vi fg, vj D0, sd, vj D1, sd, vr ea, vi v6, vi j7, vi j17, vi j27, vr b37, vi (2 : Int32), un, un, un, un, un, un, un, un] []))
          exact J47 T69 h69 _ (up X69 (by decide) (by decide)) e69 N69 K69 (2 : Int32) (0 : Int32) (1 : Int32) h70 h71 h72 h73 (by omega)
        ·
          refine gZ X37 hx hby rfl (pc0 := 87) (pc' := 106) rfl d4_87 rfl (feq (neI rfl liI_2 c63)).2 (by decide) (by decide) ?_
          refine gB X37 hx hby rfl d4_106 rfl rfl ?_
          refine gI X37 hx hby rfl d4_108 ?_
          refine gI X37 hx hby rfl d4_109 ?_
          obtain ⟨T74, h74, X74, e74, W74, V74, st74⟩ := Vec.istI X37 hx hZ e37 h45 (j := (0 : Int32)) (by decide) (by decide) (g := (mkF m 110 #[vr ps, vi fg, vj D0, sd, vj D1, sd, vr ea, vi v6, vi j7, vi j17, vi j27, vr b37, un, un, un, un, un, un, un, un, un] [(.int (1 : Int32)), (.int (0 : Int32)), (.ref b37)])) rfl rfl (hb hby d4_110)
          have h75 : PSt Z h74 ps q ks js ss po di ma se kf jf mk sc en ts sl st lm p0 p1 d0 d1 m0 m1 s0 s1 sz KF JF sn la sv := h42.other W74 out_b37 nr_b37
          have h76 : SV Z h74 ps q ks js ss po di ma se kf jf n0 sv w0 w1 := h43.other2 W74 sv_b37
          have h77 : Vec Z h74 ea .long (2 : Int32) (longs (lst [p0, p1])) := h44.other W74 q41
          have h78 : Vec Z h74 b37 .int (2 : Int32) (ints (lst [(1 : Int32), (0 : Int32)])) := Vec.of_eq V74 (congrArg ints (upd_lst _ 0 _ (Nat.le_of_ble_eq_true rfl)))
          have K74 : Lk h0 h74 := K37.wr W74
          have N74 := Fr.snoc X74 N0 Gb37
          refine Go.st st74 ?_
          show Go p e below s Q 2 4 (T74.setTop (mkF m 111 #[vr ps, vi fg, vj D0, sd, vj D1, sd, vr ea, vi v6, vi j7, vi j17, vi j27, vr b37, un, un, un, un, un, un, un, un, un] []))
          refine gB X74 hx hby rfl d4_111 rfl rfl ?_
          refine gI X74 hx hby rfl d4_113 ?_
          refine gI X74 hx hby rfl d4_114 ?_
          obtain ⟨T79, h79, X79, e79, W79, V79, st79⟩ := Vec.istI X74 hx hZ e74 h78 (j := (1 : Int32)) (by decide) (by decide) (g := (mkF m 115 #[vr ps, vi fg, vj D0, sd, vj D1, sd, vr ea, vi v6, vi j7, vi j17, vi j27, vr b37, un, un, un, un, un, un, un, un, un] [(.int (0 : Int32)), (.int (1 : Int32)), (.ref b37)])) rfl rfl (hb hby d4_115)
          have h80 : PSt Z h79 ps q ks js ss po di ma se kf jf mk sc en ts sl st lm p0 p1 d0 d1 m0 m1 s0 s1 sz KF JF sn la sv := h75.other W79 out_b37 nr_b37
          have h81 : SV Z h79 ps q ks js ss po di ma se kf jf n0 sv w0 w1 := h76.other2 W79 sv_b37
          have h82 : Vec Z h79 ea .long (2 : Int32) (longs (lst [p0, p1])) := h77.other W79 q41
          have h83 : Vec Z h79 b37 .int (2 : Int32) (ints (lst [(1 : Int32), (0 : Int32)])) := Vec.of_eq V79 (congrArg ints (upd_lst _ 1 _ (Nat.le_of_ble_eq_true rfl)))
          have K79 : Lk h0 h79 := K74.wr W79
          have N79 := Fr.snoc X79 N74 Gb37
          refine Go.st st79 ?_
          show Go p e below s Q 2 4 (T79.setTop (mkF m 116 #[vr ps, vi fg, vj D0, sd, vj D1, sd, vr ea, vi v6, vi j7, vi j17, vi j27, vr b37, un, un, un, un, un, un, un, un, un] []))
          refine gI X79 hx hby rfl d4_116 ?_
          refine gS X79 hx hby rfl d4_117 rfl (l' := #[vr ps, vi fg, vj D0, sd, vj D1, sd, vr ea, vi v6, vi j7, vi j17, vi j27, vr b37, vi (2 : Int32), un, un, un, un, un, un, un, un]) rfl ?_
          show Go p e below s Q 2 4 (T79.setTop (mkF m 119 #[vr ps, vi fg, vj D0, sd, vj D1, sd, vr ea, vi v6, vi j7, vi j17, vi j27, vr b37, vi (2 : Int32), un, un, un, un, un, un, un, un] []))
          exact J47 T79 h79 _ (up X79 (by decide) (by decide)) e79 N79 K79 (2 : Int32) (1 : Int32) (0 : Int32) h80 h81 h82 h83 (by omega)
  intro Tg46 hg46 Lgg46 Xg46 eg46 Ng46 Kg46 cn u0 u1 hfg46_0 hfg46_1 hfg46_2 hfg46_3 hpg46_0
  have f84 := rng32 cn
  have f85 := rng32 u0
  have f86 := rng32 u1
  show Go p e below s Q 2 4 (Tg46.setTop (mkF m 119 #[vr ps, vi fg, vj D0, sd, vj D1, sd, vr ea, vi v6, vi j7, vi j17, vi j27, vr b37, vi cn, un, un, un, un, un, un, un, un] []))
  refine gA Xg46 hx hby rfl d4_119 rfl rfl ?_
  refine gB Xg46 hx hby rfl d4_120 rfl rfl ?_
  refine gD Xg46 hx hby rfl d4_122 rfl ?_
  have f88 := rng32 mk
  have f89 := rng32 sc
  have f90 := rng32 en
  have f91 := rng32 ts
  have f92 := rng32 sl
  have f93 := rng64 st
  have f94 := rng64 lm
  have f95 := rng64 p0
  have f96 := rng64 p1
  have f97 := rng64 d0
  have f98 := rng64 d1
  have f99 := rng32 m0
  have f100 := rng32 m1
  have f101 := rng32 s0
  have f102 := rng32 s1
  have f103 := rng32 sn
  have f104 := rng64 la
  have f105 := rng32 w0
  have f106 := rng32 w1
  have p107 : 0 ≤ mk.toInt ∧ mk.toInt ≤ 100 := by omega
  obtain ⟨cq87, kq87, q87a, q87b, q87c⟩ := isOf hZ eg46 hfg46_0.1.1
  obtain ⟨_, _, ⟨T87, L87, k87, n87⟩, -, X87, ⟨Lc87, hQ87, l87, y87, z87⟩, st87⟩ := Xg46.virtualBack hx (y := (⟨cP, "beginBack", "([II)V"⟩ : MethodName)) (z := (⟨cP, "beginBack", "([II)V"⟩ : MethodName)) hown (mvT hZ (tb hw 50 rfl)) (mvT hZ (tb hw 51 rfl)) (notFace_of_selects (args := #[]) (mvT hZ (tb hw 53 rfl))) (mvT hZ (tb hw 53 rfl)) (mvT hZ (tb hw 52 rfl)) (by decide) (backOf (W := 0) (rmb l Z a0 hw [] ps b37 cn q ks js ss po di ma se kf jf mk sc en ts sl st lm p0 p1 d0 d1 m0 m1 s0 s1 sz KF JF sn la sv u0 u1 w0 w1 ea hg46 n0 (Nat.le_trans Z0 Kg46.1) hfg46_0 hPs hfg46_1 hfg46_3 hfg46_2 out_b37 nr_b37 out_ea nr_ea sv_b37 hpg46_0 p107) hZ (tb hw 54 rfl) (tb hw 2 rfl) (by decide) (by decide)) q87a q87c (g := (mkF m 124 #[vr ps, vi fg, vj D0, sd, vj D1, sd, vr ea, vi v6, vi j7, vi j17, vi j27, vr b37, vi cn, un, un, un, un, un, un, un, un] [(.int cn), (.ref b37), (.ref ps)])) rfl (by rw [hml]; rfl) (Steps.refl _) (argsL := [(.ref b37), (.int cn)]) (rest := []) (lenOf pd_2 rfl) rfl (by show 2 * 0 + _ ≤ _; exact Nat.le_of_eq rfl) (hb hby d4_124) (fun _ _ => ⟨rfl, eg46, (by decide : 1 + 1 ≤ _), (by decide : 2 + 2 ≤ _)⟩)
  dsimp only [Pt.U, Pt.locs, Pt.cells, Pt.slots] at X87 l87 y87 z87 st87 hQ87
  subst y87 z87
  obtain ⟨mk2_108, en2_109, ts2_110, sl2_111, s2_112, sv2_113, w0x_114, w1x_115, rfl, N87q, f116, f117, f118, f119, f120, K87q, h121, h122, h123, h124⟩ := hQ87
  have N87 : Fr n0 L87 := by rw [l87]; exact Fr.app Ng46 N87q
  have K87 : Lk h0 T87.heap := Kg46.trans K87q.1
  refine Go.tr  st87 ?_
  show Go p e below s Q 2 4 (T87.setTop (mkF m 127 #[vr ps, vi fg, vj D0, sd, vj D1, sd, vr ea, vi v6, vi j7, vi j17, vi j27, vr b37, vi cn, un, un, un, un, un, un, un, un] []))
  have hen3 : en2_109.toInt = -1 ∨ en2_109.toInt = 0 ∨ en2_109.toInt = 1 := by rcases f118 with q | q <;> omega
  have hkd3 : (ts2_110.toInt = 0 ∧ (en2_109.toInt = 0 ∨ en2_109.toInt = 1)) ∨ ts2_110.toInt = 1 := by rcases f118 with q | q <;> omega
  have hslb : 0 ≤ sl2_111.toInt ∧ sl2_111.toInt ≤ 2 := by rcases f118 with q | q <;> omega
  suffices J126 : ∀ (Tg125 : State) (hg125 : Heap) (Lgg125 : List Loc) (Xg125 : Stand p l e ({ frames := 6, cells := 2, slots := 4, locals := 88 } : Room) s m #[(.ref ps), (.int fg), (.long D0), (.long D1), (.ref ea)] below meth c Tg125 Lgg125 2 4) (eg125 : Tg125.heap = hg125) (Ng125 : Fr n0 Lgg125) (Kg125 : Lk h0 hg125) (m0a : Int32) (d0a : Int64) (sza : Nat → Int32) (KFa : Nat → Nat → Int64) (JFa : Nat → Nat → Int32) (sna : Int32) (hfg125_0 : PSt Z hg125 ps q ks js ss po di ma se kf jf mk2_108 (0 : Int32) en2_109 ts2_110 sl2_111 (9223372036854775807 : Int64) (9223372036854775807 : Int64) p0 p1 d0a d1 m0a m1 s0 s1 sza KFa JFa sna (-9223372036854775808 : Int64) sv2_113) (hfg125_1 : SV Z hg125 ps q ks js ss po di ma se kf jf n0 sv2_113 w0x_114 w1x_115) (hfg125_2 : Vec Z hg125 ea .long (2 : Int32) (longs (lst [p0, p1]))) (hfg125_3 : Vec Z hg125 b37 .int (2 : Int32) (ints (lst [u0, u1]))) (hpg125_0 : St0 j7 mk2_108 m0a d0a D0 sza KFa JFa sna), Go p e below s Q 2 4 (Tg125.setTop (mkF m 143 #[vr ps, vi fg, vj D0, sd, vj D1, sd, vr ea, vi v6, vi j7, vi j17, vi j27, vr b37, vi cn, un, un, un, un, un, un, un, un] [])) by
    refine gD X87 hx hby rfl d4_127 rfl ?_
    have f127 := liI_0
    by_cases c128 : j7.toInt = 0
    ·
      refine gY X87 hx hby rfl (pc0 := 129) (pc' := 143) rfl d4_129 rfl ((if0 _ _).trans (teq (eqI rfl liI_0 c128)).1) (by decide) (by decide) ?_
      show Go p e below s Q 2 4 (T87.setTop (mkF m 143 #[vr ps, vi fg, vj D0, sd, vj D1, sd, vr ea, vi v6, vi j7, vi j17, vi j27, vr b37, vi cn, un, un, un, un, un, un, un, un] []))
      exact J126 T87 T87.heap _ (up X87 (by decide) (by decide)) rfl N87 K87 m0 d0 s2_112 KF JF (0 : Int32) h121 h122 h124 h123 (by exact St0.no c128 (by omega) f117 (by decide))
    ·
      refine gN X87 hx hby rfl d4_129 rfl ((if0 _ _).trans (feq (neI rfl liI_0 c128)).1) ?_
      refine gA X87 hx hby rfl d4_132 rfl rfl ?_
      refine gI X87 hx hby rfl d4_133 ?_
      refine gE X87 hx hby rfl d4_134 rfl ?_
      refine gB X87 hx hby rfl d4_135 rfl rfl ?_
      show Go p e below s Q 2 4 (T87.setTop (mkF m 137 #[vr ps, vi fg, vj D0, sd, vj D1, sd, vr ea, vi v6, vi j7, vi j17, vi j27, vr b37, vi cn, un, un, un, un, un, un, un, un] [(.ref ea), (.long D0), (.int (0 : Int32)), (.ref ps)]))
      refine gI X87 hx hby rfl d4_137 ?_
      refine Go.st (Vec.ildJ X87 hx hZ rfl h124 (j := (0 : Int32)) (by decide) (by decide) (g := (mkF m 138 #[vr ps, vi fg, vj D0, sd, vj D1, sd, vr ea, vi v6, vi j7, vi j17, vi j27, vr b37, vi cn, un, un, un, un, un, un, un, un] [(.int (0 : Int32)), (.ref ea), (.long D0), (.int (0 : Int32)), (.ref ps)])) rfl rfl (hb hby d4_138)) ?_
      refine Go.st (fun _ k => XS.lsub X87.here hx rfl (hb hby d4_139) rfl k) ?_
      have f131 := rng32 mk2_108
      have f132 := rng32 en2_109
      have f133 := rng32 ts2_110
      have f134 := rng32 sl2_111
      have f135 := liJ_9223372036854775807
      have f136 := liJ_m9223372036854775808
      have f137 := c_lsub D0 p0
      have f138 := rng64 (D0 - p0)
      have p139 : m0.toInt < mk2_108.toInt ∧ 0 ≤ mk2_108.toInt ∧ mk2_108.toInt ≤ 1000 := by omega
      have p140 : m1.toInt < mk2_108.toInt := by omega
      obtain ⟨cq130, kq130, q130a, q130b, q130c⟩ := isOf hZ rfl h121.1.1
      obtain ⟨_, _, ⟨T130, L130, k130, n130⟩, -, X130, ⟨Lc130, hQ130, l130, y130, z130⟩, st130⟩ := X87.virtualBack hx (y := (⟨cP, "reachBack", "(IJ)V"⟩ : MethodName)) (z := (⟨cP, "reachBack", "(IJ)V"⟩ : MethodName)) hown (mvT hZ (tb hw 93 rfl)) (mvT hZ (tb hw 94 rfl)) (notFace_of_selects (args := #[]) (mvT hZ (tb hw 96 rfl))) (mvT hZ (tb hw 96 rfl)) (mvT hZ (tb hw 95 rfl)) (by decide) (backOf (W := 0) (rmr0 l Z a0 hw [] ps (D0 - p0) q ks js ss po di ma se kf jf mk2_108 (0 : Int32) en2_109 ts2_110 sl2_111 (9223372036854775807 : Int64) (9223372036854775807 : Int64) p0 p1 d0 d1 m0 m1 s0 s1 s2_112 KF JF (0 : Int32) (-9223372036854775808 : Int64) sv2_113 D0 T87.heap n0 (Nat.le_trans Z0 K87.1) h121 hPs (by rw [sub_addJ]; omega) p139 (by decide) (by rw [f117 64 (by decide)]; decide) hen3 p140) hZ (tb hw 97 rfl) (tb hw 2 rfl) (by decide) (by decide)) q130a q130c (g := (mkF m 140 #[vr ps, vi fg, vj D0, sd, vj D1, sd, vr ea, vi v6, vi j7, vi j17, vi j27, vr b37, vi cn, un, un, un, un, un, un, un, un] [(.long (D0 - p0)), (.int (0 : Int32)), (.ref ps)])) rfl (by rw [hml]; rfl) (Steps.refl _) (argsL := [(.int (0 : Int32)), (.long (D0 - p0))]) (rest := []) (lenOf pd_10 rfl) rfl (by show 2 * 0 + _ ≤ _; exact Nat.le_of_eq rfl) (hb hby d4_140) (fun _ _ => ⟨rfl, rfl, (by decide : 2 + 0 ≤ _), (by decide : 4 + 0 ≤ _)⟩)
      dsimp only [Pt.U, Pt.locs, Pt.cells, Pt.slots] at X130 l130 y130 z130 st130 hQ130
      subst y130 z130
      obtain ⟨rfl, N130q, K130q, h141⟩ := hQ130
      have N130 : Fr n0 L130 := by rw [l130]; exact Fr.app N87 N130q
      have h142 : SV Z T130.heap ps q ks js ss po di ma se kf jf n0 sv2_113 w0x_114 w1x_115 := h122.keep K130q (svA (allS (mq 0 rfl) (allS (mq 1 rfl) (allS (mq 4 rfl) (allS (mq 5 rfl) (allS (mq 6 rfl) (allS (mq 7 rfl) (allS (mq 8 rfl) all0))))))))
      have h143 : Vec Z T130.heap b37 .int (2 : Int32) (ints (lst [u0, u1])) := h123.keep K130q (nin_app (ninS (Ne.symm (out_b37 _ (mq 0 rfl))) (ninS (Ne.symm (out_b37 _ (mq 1 rfl))) (ninS (Ne.symm (out_b37 _ (mq 4 rfl))) (ninS (Ne.symm (out_b37 _ (mq 5 rfl))) (ninS (Ne.symm (out_b37 _ (mq 6 rfl))) (ninS (Ne.symm (out_b37 _ (mq 7 rfl))) (ninS (Ne.symm (out_b37 _ (mq 8 rfl))) nin0))))))) (nin_rows nr_b37))
      have h144 : Vec Z T130.heap ea .long (2 : Int32) (longs (lst [p0, p1])) := h124.keep K130q (nin_app (ninS (Ne.symm (out_ea _ (mq 0 rfl))) (ninS (Ne.symm (out_ea _ (mq 1 rfl))) (ninS (Ne.symm (out_ea _ (mq 4 rfl))) (ninS (Ne.symm (out_ea _ (mq 5 rfl))) (ninS (Ne.symm (out_ea _ (mq 6 rfl))) (ninS (Ne.symm (out_ea _ (mq 7 rfl))) (ninS (Ne.symm (out_ea _ (mq 8 rfl))) nin0))))))) (nin_rows nr_ea))
      have K130 : Lk h0 T130.heap := K87.trans K130q.1
      refine Go.tr  st130 ?_
      show Go p e below s Q 2 4 (T130.setTop (mkF m 143 #[vr ps, vi fg, vj D0, sd, vj D1, sd, vr ea, vi v6, vi j7, vi j17, vi j27, vr b37, vi cn, un, un, un, un, un, un, un, un] []))
      have f145 := rng32 ((0 : Int32) + (1 : Int32))
      exact J126 T130 T130.heap _ (up X130 (by decide) (by decide)) rfl N130 K130 mk2_108 D0 (updF s2_112 64 ((s2_112 64) + (1 : Int32))) (updF KF 64 (updF (KF 64) (s2_112 64).toInt.toNat D0)) (updF JF 64 (updF (JF 64) (s2_112 64).toInt.toNat (0 : Int32))) ((0 : Int32) + (1 : Int32)) h141 h142 h144 h143 (by exact St0.yes (Or.resolve_left f15 c128) f117 (by decide))
  intro Tg125 hg125 Lgg125 Xg125 eg125 Ng125 Kg125 m0a d0a sza KFa JFa sna hfg125_0 hfg125_1 hfg125_2 hfg125_3 hpg125_0
  have f146 := rng32 m0a
  have f147 := rng64 d0a
  have f148 := rng32 sna
  show Go p e below s Q 2 4 (Tg125.setTop (mkF m 143 #[vr ps, vi fg, vj D0, sd, vj D1, sd, vr ea, vi v6, vi j7, vi j17, vi j27, vr b37, vi cn, un, un, un, un, un, un, un, un] []))
  suffices J150 : ∀ (Tg149 : State) (hg149 : Heap) (Lgg149 : List Loc) (Xg149 : Stand p l e ({ frames := 6, cells := 2, slots := 4, locals := 88 } : Room) s m #[(.ref ps), (.int fg), (.long D0), (.long D1), (.ref ea)] below meth c Tg149 Lgg149 2 4) (eg149 : Tg149.heap = hg149) (Ng149 : Fr n0 Lgg149) (Kg149 : Lk h0 hg149) (m1a : Int32) (d1a : Int64) (szb : Nat → Int32) (KFb : Nat → Nat → Int64) (JFb : Nat → Nat → Int32) (snb : Int32) (hfg149_0 : PSt Z hg149 ps q ks js ss po di ma se kf jf mk2_108 (0 : Int32) en2_109 ts2_110 sl2_111 (9223372036854775807 : Int64) (9223372036854775807 : Int64) p0 p1 d0a d1a m0a m1a s0 s1 szb KFb JFb snb (-9223372036854775808 : Int64) sv2_113) (hfg149_1 : SV Z hg149 ps q ks js ss po di ma se kf jf n0 sv2_113 w0x_114 w1x_115) (hfg149_2 : Vec Z hg149 ea .long (2 : Int32) (longs (lst [p0, p1]))) (hfg149_3 : Vec Z hg149 b37 .int (2 : Int32) (ints (lst [u0, u1]))) (hpg149_0 : St1 j7 j17 en2_109 mk2_108 m0a m1a d0a d1a D0 D1 szb KFb JFb snb), Go p e below s Q 2 4 (Tg149.setTop (mkF m 160 #[vr ps, vi fg, vj D0, sd, vj D1, sd, vr ea, vi v6, vi j7, vi j17, vi j27, vr b37, vi cn, un, un, un, un, un, un, un, un] [])) by
    refine gD Xg125 hx hby rfl d4_143 rfl ?_
    have f151 := liI_0
    by_cases c152 : j17.toInt = 0
    ·
      refine gY Xg125 hx hby rfl (pc0 := 145) (pc' := 160) rfl d4_145 rfl ((if0 _ _).trans (teq (eqI rfl liI_0 c152)).1) (by decide) (by decide) ?_
      show Go p e below s Q 2 4 (Tg125.setTop (mkF m 160 #[vr ps, vi fg, vj D0, sd, vj D1, sd, vr ea, vi v6, vi j7, vi j17, vi j27, vr b37, vi cn, un, un, un, un, un, un, un, un] []))
      exact J150 Tg125 hg125 _ (up Xg125 (by decide) (by decide)) eg125 Ng125 Kg125 m1 d1 sza KFa JFa sna hfg125_0 hfg125_1 hfg125_2 hfg125_3 (by exact St1.no hpg125_0 c152 (by omega))
    ·
      refine gN Xg125 hx hby rfl d4_145 rfl ((if0 _ _).trans (feq (neI rfl liI_0 c152)).1) ?_
      refine gA Xg125 hx hby rfl d4_148 rfl rfl ?_
      refine gI Xg125 hx hby rfl d4_149 ?_
      refine gF Xg125 hx hby rfl d4_150 rfl ?_
      refine gB Xg125 hx hby rfl d4_152 rfl rfl ?_
      show Go p e below s Q 2 4 (Tg125.setTop (mkF m 154 #[vr ps, vi fg, vj D0, sd, vj D1, sd, vr ea, vi v6, vi j7, vi j17, vi j27, vr b37, vi cn, un, un, un, un, un, un, un, un] [(.ref ea), (.long D1), (.int (1 : Int32)), (.ref ps)]))
      refine gI Xg125 hx hby rfl d4_154 ?_
      refine Go.st (Vec.ildJ Xg125 hx hZ eg125 hfg125_2 (j := (1 : Int32)) (by decide) (by decide) (g := (mkF m 155 #[vr ps, vi fg, vj D0, sd, vj D1, sd, vr ea, vi v6, vi j7, vi j17, vi j27, vr b37, vi cn, un, un, un, un, un, un, un, un] [(.int (1 : Int32)), (.ref ea), (.long D1), (.int (1 : Int32)), (.ref ps)])) rfl rfl (hb hby d4_155)) ?_
      refine Go.st (fun _ k => XS.lsub Xg125.here hx rfl (hb hby d4_156) rfl k) ?_
      have f155 := rng32 mk2_108
      have f156 := rng32 en2_109
      have f157 := rng32 ts2_110
      have f158 := rng32 sl2_111
      have f159 := liJ_9223372036854775807
      have f160 := liJ_m9223372036854775808
      have f161 := liI_1
      have f162 := c_lsub D1 p1
      have f163 := rng64 (D1 - p1)
      have p164 : m1.toInt < mk2_108.toInt ∧ 0 ≤ mk2_108.toInt ∧ mk2_108.toInt ≤ 1000 := by omega
      obtain ⟨cq154, kq154, q154a, q154b, q154c⟩ := isOf hZ eg125 hfg125_0.1.1
      obtain ⟨_, _, ⟨T154, L154, k154, n154⟩, -, X154, ⟨Lc154, hQ154, l154, y154, z154⟩, st154⟩ := Xg125.virtualBack hx (y := (⟨cP, "reachBack", "(IJ)V"⟩ : MethodName)) (z := (⟨cP, "reachBack", "(IJ)V"⟩ : MethodName)) hown (mvT hZ (tb hw 93 rfl)) (mvT hZ (tb hw 94 rfl)) (notFace_of_selects (args := #[]) (mvT hZ (tb hw 96 rfl))) (mvT hZ (tb hw 96 rfl)) (mvT hZ (tb hw 95 rfl)) (by decide) (backOf (W := 0) (rmr1c l Z a0 hw [] ps (D1 - p1) q ks js ss po di ma se kf jf mk2_108 (0 : Int32) en2_109 ts2_110 sl2_111 (9223372036854775807 : Int64) (9223372036854775807 : Int64) p0 p1 d0a d1 m0a m1 s0 s1 sza KFa JFa sna (-9223372036854775808 : Int64) sv2_113 D1 hg125 n0 (Nat.le_trans Z0 Kg125.1) hfg125_0 hPs (by rw [sub_addJ]; omega) p164 (by decide) (St0.few hpg125_0) hen3) hZ (tb hw 97 rfl) (tb hw 2 rfl) (by decide) (by decide)) q154a q154c (g := (mkF m 157 #[vr ps, vi fg, vj D0, sd, vj D1, sd, vr ea, vi v6, vi j7, vi j17, vi j27, vr b37, vi cn, un, un, un, un, un, un, un, un] [(.long (D1 - p1)), (.int (1 : Int32)), (.ref ps)])) rfl (by rw [hml]; rfl) (Steps.refl _) (argsL := [(.int (1 : Int32)), (.long (D1 - p1))]) (rest := []) (lenOf pd_10 rfl) rfl (by show 2 * 0 + _ ≤ _; exact Nat.le_of_eq rfl) (hb hby d4_157) (fun _ _ => ⟨rfl, eg125, (by decide : 2 + 0 ≤ _), (by decide : 4 + 0 ≤ _)⟩)
      dsimp only [Pt.U, Pt.locs, Pt.cells, Pt.slots] at X154 l154 y154 z154 st154 hQ154
      subst y154 z154
      obtain ⟨m1x_165, d1x_166, szx_167, KFx_168, JFx_169, snx_170, rfl, N154q, f171, K154q, h172⟩ := hQ154
      have N154 : Fr n0 L154 := by rw [l154]; exact Fr.app Ng125 N154q
      have h173 : SV Z T154.heap ps q ks js ss po di ma se kf jf n0 sv2_113 w0x_114 w1x_115 := hfg125_1.keep K154q (svA (allS (mq 0 rfl) (allS (mq 1 rfl) (allS (mq 4 rfl) (allS (mq 5 rfl) (allS (mq 6 rfl) (allS (mq 7 rfl) (allS (mq 8 rfl) all0))))))))
      have h174 : Vec Z T154.heap ea .long (2 : Int32) (longs (lst [p0, p1])) := hfg125_2.keep K154q (nin_app (ninS (Ne.symm (out_ea _ (mq 0 rfl))) (ninS (Ne.symm (out_ea _ (mq 1 rfl))) (ninS (Ne.symm (out_ea _ (mq 4 rfl))) (ninS (Ne.symm (out_ea _ (mq 5 rfl))) (ninS (Ne.symm (out_ea _ (mq 6 rfl))) (ninS (Ne.symm (out_ea _ (mq 7 rfl))) (ninS (Ne.symm (out_ea _ (mq 8 rfl))) nin0))))))) (nin_rows nr_ea))
      have h175 : Vec Z T154.heap b37 .int (2 : Int32) (ints (lst [u0, u1])) := hfg125_3.keep K154q (nin_app (ninS (Ne.symm (out_b37 _ (mq 0 rfl))) (ninS (Ne.symm (out_b37 _ (mq 1 rfl))) (ninS (Ne.symm (out_b37 _ (mq 4 rfl))) (ninS (Ne.symm (out_b37 _ (mq 5 rfl))) (ninS (Ne.symm (out_b37 _ (mq 6 rfl))) (ninS (Ne.symm (out_b37 _ (mq 7 rfl))) (ninS (Ne.symm (out_b37 _ (mq 8 rfl))) nin0))))))) (nin_rows nr_b37))
      have K154 : Lk h0 T154.heap := Kg125.trans K154q.1
      refine Go.tr  st154 ?_
      show Go p e below s Q 2 4 (T154.setTop (mkF m 160 #[vr ps, vi fg, vj D0, sd, vj D1, sd, vr ea, vi v6, vi j7, vi j17, vi j27, vr b37, vi cn, un, un, un, un, un, un, un, un] []))
      have f176 := rng32 m1x_165
      have f177 := rng64 d1x_166
      have f178 := rng32 snx_170
      exact J150 T154 T154.heap _ (up X154 (by decide) (by decide)) rfl N154 K154 m1x_165 d1x_166 szx_167 KFx_168 JFx_169 snx_170 h172 h173 h174 h175 (by exact St1.yes hpg125_0 (Or.resolve_left f25 c152) (by omega) f171)
  intro Tg149 hg149 Lgg149 Xg149 eg149 Ng149 Kg149 m1a d1a szb KFb JFb snb hfg149_0 hfg149_1 hfg149_2 hfg149_3 hpg149_0
  have f179 := rng32 m1a
  have f180 := rng64 d1a
  have f181 := rng32 snb
  show Go p e below s Q 2 4 (Tg149.setTop (mkF m 160 #[vr ps, vi fg, vj D0, sd, vj D1, sd, vr ea, vi v6, vi j7, vi j17, vi j27, vr b37, vi cn, un, un, un, un, un, un, un, un] []))
  suffices J183 : ∀ (Tg182 : State) (hg182 : Heap) (Lgg182 : List Loc) (Xg182 : Stand p l e ({ frames := 6, cells := 2, slots := 4, locals := 88 } : Room) s m #[(.ref ps), (.int fg), (.long D0), (.long D1), (.ref ea)] below meth c Tg182 Lgg182 2 4) (eg182 : Tg182.heap = hg182) (Ng182 : Fr n0 Lgg182) (Kg182 : Lk h0 hg182) (scg slg : Int32) (stg lmg : Int64) (m0g m1g s0g s1g : Int32) (szg : Nat → Int32) (KFg : Nat → Nat → Int64) (JFg : Nat → Nat → Int32) (sng : Int32) (lag : Int64) (hfg182_0 : PSt Z hg182 ps q ks js ss po di ma se kf jf mk2_108 scg en2_109 ts2_110 slg stg lmg p0 p1 d0a d1a m0g m1g s0g s1g szg KFg JFg sng lag sv2_113) (hfg182_1 : SV Z hg182 ps q ks js ss po di ma se kf jf n0 sv2_113 w0x_114 w1x_115) (hfg182_2 : Vec Z hg182 ea .long (2 : Int32) (longs (lst [p0, p1]))) (hfg182_3 : Vec Z hg182 b37 .int (2 : Int32) (ints (lst [u0, u1]))) (hpg182_0 : Gs j27 j7 j17 en2_109 ts2_110 slg mk2_108 scg m0g m1g s0g s1g lmg d0a d1a D0 D1) (hpg182_1 : m0g.toInt ≤ mk2_108.toInt + 1 ∧ m1g.toInt ≤ mk2_108.toInt + 1), Go p e below s Q 2 4 (Tg182.setTop (mkF m 175 #[vr ps, vi fg, vj D0, sd, vj D1, sd, vr ea, vi v6, vi j7, vi j17, vi j27, vr b37, vi cn, un, un, un, un, un, un, un, un] [])) by
    refine gD Xg149 hx hby rfl d4_160 rfl ?_
    have f184 := liI_0
    by_cases c185 : j27.toInt = 0
    ·
      refine gY Xg149 hx hby rfl (pc0 := 162) (pc' := 175) rfl d4_162 rfl ((if0 _ _).trans (teq (eqI rfl liI_0 c185)).1) (by decide) (by decide) ?_
      show Go p e below s Q 2 4 (Tg149.setTop (mkF m 175 #[vr ps, vi fg, vj D0, sd, vj D1, sd, vr ea, vi v6, vi j7, vi j17, vi j27, vr b37, vi cn, un, un, un, un, un, un, un, un] []))
      have f186 := rng32 sl2_111
      have f187 := liJ_9223372036854775807
      have f188 := liJ_m9223372036854775808
      exact J183 Tg149 hg149 _ (up Xg149 (by decide) (by decide)) eg149 Ng149 Kg149 (0 : Int32) sl2_111 (9223372036854775807 : Int64) (9223372036854775807 : Int64) m0a m1a s0 s1 szb KFb JFb snb (-9223372036854775808 : Int64) hfg149_0 hfg149_1 hfg149_2 hfg149_3 (by exact Gs.stay f118 c185 hpg149_0) (by have q := St1.le hpg149_0; omega)
    ·
      refine gN Xg149 hx hby rfl d4_162 rfl ((if0 _ _).trans (feq (neI rfl liI_0 c185)).1) ?_
      show Go p e below s Q 2 4 (Tg149.setTop (mkF m 165 #[vr ps, vi fg, vj D0, sd, vj D1, sd, vr ea, vi v6, vi j7, vi j17, vi j27, vr b37, vi cn, un, un, un, un, un, un, un, un] []))
      obtain ⟨tk1, ti1, mo1, tl1, tj1, hNP1, hPk⟩ := St1.np hpg149_0 hD
      have hnl := NP.low hNP1
      refine gA Xg149 hx hby rfl d4_165 rfl rfl ?_
      have f190 := rng32 mk2_108
      have f191 := rng32 en2_109
      have f192 := rng32 ts2_110
      have f193 := rng32 sl2_111
      have f194 := liJ_9223372036854775807
      have f195 := liJ_m9223372036854775808
      have f196 := rng32 w0x_114
      have f197 := rng32 w1x_115
      have f198 := rng64 tk1
      have f199 := rng32 ti1
      have f200 := rng32 mo1
      have f201 := rng64 tl1
      have f202 := rng32 tj1
      obtain ⟨cq189, kq189, q189a, q189b, q189c⟩ := isOf hZ eg149 hfg149_0.1.1
      obtain ⟨_, _, ⟨T189, L189, k189, n189⟩, -, X189, ⟨Lc189, hQ189, l189, y189, z189⟩, st189⟩ := Xg149.virtualBack hx (y := (⟨cP, "next", "()I"⟩ : MethodName)) (z := (⟨cP, "next", "()I"⟩ : MethodName)) hown (mvT hZ (tb hw 119 rfl)) (mvT hZ (tb hw 120 rfl)) (notFace_of_selects (args := #[]) (mvT hZ (tb hw 122 rfl))) (mvT hZ (tb hw 122 rfl)) (mvT hZ (tb hw 121 rfl)) (by decide) (backOf (W := 0) (rmn l Z a0 hw [] ps q ks js ss po di ma se kf jf mk2_108 (0 : Int32) en2_109 ts2_110 sl2_111 (9223372036854775807 : Int64) (9223372036854775807 : Int64) p0 p1 d0a d1a m0a m1a s0 s1 szb KFb JFb snb (-9223372036854775808 : Int64) sv2_113 w0x_114 w1x_115 tk1 ti1 mo1 tl1 tj1 hg149 n0 (Nat.le_trans Z0 Kg149.1) hfg149_0 hPs hfg149_1 hNP1 ⟨by omega, by omega, Or.inl (by decide), hslb.1, hslb.2, hnl⟩ f120) hZ (tb hw 123 rfl) (tb hw 2 rfl) (by decide) (by decide)) q189a q189c (g := (mkF m 166 #[vr ps, vi fg, vj D0, sd, vj D1, sd, vr ea, vi v6, vi j7, vi j17, vi j27, vr b37, vi cn, un, un, un, un, un, un, un, un] [(.ref ps)])) rfl (by rw [hml]; rfl) (Steps.refl _) (argsL := []) (rest := []) (lenOf pd_9 rfl) rfl (by show 2 * 0 + _ ≤ _; exact Nat.le_of_eq rfl) (hb hby d4_166) (fun _ _ => ⟨rfl, eg149, (by decide : 2 + 0 ≤ _), (by decide : 4 + 0 ≤ _)⟩)
      dsimp only [Pt.U, Pt.locs, Pt.cells, Pt.slots] at X189 l189 y189 z189 st189 hQ189
      subst y189 z189
      obtain ⟨scx_203, slx_204, stx_205, lmx_206, m0x_207, m1x_208, s0x_209, s1x_210, szx_211, KFx_212, JFx_213, snx_214, lax_215, rr_216, rfl, N189q, f217, K189q, h218⟩ := hQ189
      have N189 : Fr n0 L189 := by rw [l189]; exact Fr.app Ng149 N189q
      have h219 : SV Z T189.heap ps q ks js ss po di ma se kf jf n0 sv2_113 w0x_114 w1x_115 := hfg149_1.keep K189q (svA (allS (mq 0 rfl) (allS (mq 1 rfl) (allS (mq 4 rfl) (allS (mq 5 rfl) (allS (mq 6 rfl) (allS (mq 7 rfl) (allS (mq 8 rfl) all0))))))))
      have h220 : Vec Z T189.heap ea .long (2 : Int32) (longs (lst [p0, p1])) := hfg149_2.keep K189q (nin_app (ninS (Ne.symm (out_ea _ (mq 0 rfl))) (ninS (Ne.symm (out_ea _ (mq 1 rfl))) (ninS (Ne.symm (out_ea _ (mq 4 rfl))) (ninS (Ne.symm (out_ea _ (mq 5 rfl))) (ninS (Ne.symm (out_ea _ (mq 6 rfl))) (ninS (Ne.symm (out_ea _ (mq 7 rfl))) (ninS (Ne.symm (out_ea _ (mq 8 rfl))) nin0))))))) (nin_rows nr_ea))
      have h221 : Vec Z T189.heap b37 .int (2 : Int32) (ints (lst [u0, u1])) := hfg149_3.keep K189q (nin_app (ninS (Ne.symm (out_b37 _ (mq 0 rfl))) (ninS (Ne.symm (out_b37 _ (mq 1 rfl))) (ninS (Ne.symm (out_b37 _ (mq 4 rfl))) (ninS (Ne.symm (out_b37 _ (mq 5 rfl))) (ninS (Ne.symm (out_b37 _ (mq 6 rfl))) (ninS (Ne.symm (out_b37 _ (mq 7 rfl))) (ninS (Ne.symm (out_b37 _ (mq 8 rfl))) nin0))))))) (nin_rows nr_b37))
      have K189 : Lk h0 T189.heap := Kg149.trans K189q.1
      refine Go.tr  st189 ?_
      show Go p e below s Q 2 4 (T189.setTop (mkF m 169 #[vr ps, vi fg, vj D0, sd, vj D1, sd, vr ea, vi v6, vi j7, vi j17, vi j27, vr b37, vi cn, un, un, un, un, un, un, un, un] [(.int rr_216)]))
      have f222 := rng32 rr_216
      refine Go.st (fun _ k => XS.pop X189.here hx rfl (hb hby d4_169) rfl rfl k) ?_
      show Go p e below s Q 2 4 (T189.setTop (mkF m 170 #[vr ps, vi fg, vj D0, sd, vj D1, sd, vr ea, vi v6, vi j7, vi j17, vi j27, vr b37, vi cn, un, un, un, un, un, un, un, un] []))
      have hN1 := f217
      have hNP2 := Nx.np hpg149_0 hD hPk (by decide) hN1
      have hnl2 := NP.low hNP2
      have hbd2 := Nx.bd hN1 (by decide) hslb
      refine gA X189 hx hby rfl d4_170 rfl rfl ?_
      have f224 := rng32 scx_203
      have f225 := rng32 slx_204
      have f226 := rng64 stx_205
      have f227 := rng64 lmx_206
      have f228 := rng32 m0x_207
      have f229 := rng32 m1x_208
      have f230 := rng32 s0x_209
      have f231 := rng32 s1x_210
      have f232 := rng32 snx_214
      have f233 := rng64 lax_215
      obtain ⟨cq223, kq223, q223a, q223b, q223c⟩ := isOf hZ rfl h218.1.1
      obtain ⟨_, _, ⟨T223, L223, k223, n223⟩, -, X223, ⟨Lc223, hQ223, l223, y223, z223⟩, st223⟩ := X189.virtualBack hx (y := (⟨cP, "next", "()I"⟩ : MethodName)) (z := (⟨cP, "next", "()I"⟩ : MethodName)) hown (mvT hZ (tb hw 119 rfl)) (mvT hZ (tb hw 120 rfl)) (notFace_of_selects (args := #[]) (mvT hZ (tb hw 122 rfl))) (mvT hZ (tb hw 122 rfl)) (mvT hZ (tb hw 121 rfl)) (by decide) (backOf (W := 0) (rmn l Z a0 hw [] ps q ks js ss po di ma se kf jf mk2_108 scx_203 en2_109 ts2_110 slx_204 stx_205 lmx_206 p0 p1 d0a d1a m0x_207 m1x_208 s0x_209 s1x_210 szx_211 KFx_212 JFx_213 snx_214 lax_215 sv2_113 w0x_114 w1x_115 tl1 tj1 (0 : Int32) tl1 tj1 T189.heap n0 (Nat.le_trans Z0 K189.1) h218 hPs h219 hNP2 ⟨by omega, by omega, hbd2.1, hbd2.2.1, hbd2.2.2, hnl2⟩ (fun q => f120 (Nx.src hN1 q))) hZ (tb hw 123 rfl) (tb hw 2 rfl) (by decide) (by decide)) q223a q223c (g := (mkF m 171 #[vr ps, vi fg, vj D0, sd, vj D1, sd, vr ea, vi v6, vi j7, vi j17, vi j27, vr b37, vi cn, un, un, un, un, un, un, un, un] [(.ref ps)])) rfl (by rw [hml]; rfl) (Steps.refl _) (argsL := []) (rest := []) (lenOf pd_9 rfl) rfl (by show 2 * 0 + _ ≤ _; exact Nat.le_of_eq rfl) (hb hby d4_171) (fun _ _ => ⟨rfl, rfl, (by decide : 2 + 0 ≤ _), (by decide : 4 + 0 ≤ _)⟩)
      dsimp only [Pt.U, Pt.locs, Pt.cells, Pt.slots] at X223 l223 y223 z223 st223 hQ223
      subst y223 z223
      obtain ⟨scx_234, slx_235, stx_236, lmx_237, m0x_238, m1x_239, s0x_240, s1x_241, szx_242, KFx_243, JFx_244, snx_245, lax_246, rr_247, rfl, N223q, f248, K223q, h249⟩ := hQ223
      have N223 : Fr n0 L223 := by rw [l223]; exact Fr.app N189 N223q
      have h250 : SV Z T223.heap ps q ks js ss po di ma se kf jf n0 sv2_113 w0x_114 w1x_115 := h219.keep K223q (svA (allS (mq 0 rfl) (allS (mq 1 rfl) (allS (mq 4 rfl) (allS (mq 5 rfl) (allS (mq 6 rfl) (allS (mq 7 rfl) (allS (mq 8 rfl) all0))))))))
      have h251 : Vec Z T223.heap ea .long (2 : Int32) (longs (lst [p0, p1])) := h220.keep K223q (nin_app (ninS (Ne.symm (out_ea _ (mq 0 rfl))) (ninS (Ne.symm (out_ea _ (mq 1 rfl))) (ninS (Ne.symm (out_ea _ (mq 4 rfl))) (ninS (Ne.symm (out_ea _ (mq 5 rfl))) (ninS (Ne.symm (out_ea _ (mq 6 rfl))) (ninS (Ne.symm (out_ea _ (mq 7 rfl))) (ninS (Ne.symm (out_ea _ (mq 8 rfl))) nin0))))))) (nin_rows nr_ea))
      have h252 : Vec Z T223.heap b37 .int (2 : Int32) (ints (lst [u0, u1])) := h221.keep K223q (nin_app (ninS (Ne.symm (out_b37 _ (mq 0 rfl))) (ninS (Ne.symm (out_b37 _ (mq 1 rfl))) (ninS (Ne.symm (out_b37 _ (mq 4 rfl))) (ninS (Ne.symm (out_b37 _ (mq 5 rfl))) (ninS (Ne.symm (out_b37 _ (mq 6 rfl))) (ninS (Ne.symm (out_b37 _ (mq 7 rfl))) (ninS (Ne.symm (out_b37 _ (mq 8 rfl))) nin0))))))) (nin_rows nr_b37))
      have K223 : Lk h0 T223.heap := K189.trans K223q.1
      refine Go.tr  st223 ?_
      show Go p e below s Q 2 4 (T223.setTop (mkF m 174 #[vr ps, vi fg, vj D0, sd, vj D1, sd, vr ea, vi v6, vi j7, vi j17, vi j27, vr b37, vi cn, un, un, un, un, un, un, un, un] [(.int rr_247)]))
      have f253 := rng32 rr_247
      refine Go.st (fun _ k => XS.pop X223.here hx rfl (hb hby d4_174) rfl rfl k) ?_
      show Go p e below s Q 2 4 (T223.setTop (mkF m 175 #[vr ps, vi fg, vj D0, sd, vj D1, sd, vr ea, vi v6, vi j7, vi j17, vi j27, vr b37, vi cn, un, un, un, un, un, un, un, un] []))
      have f254 := rng32 scx_234
      have f255 := rng32 slx_235
      have f256 := rng64 stx_236
      have f257 := rng64 lmx_237
      have f258 := rng32 m0x_238
      have f259 := rng32 m1x_239
      have f260 := rng32 s0x_240
      have f261 := rng32 s1x_241
      have f262 := rng32 snx_245
      have f263 := rng64 lax_246
      exact J183 T223 T223.heap _ (up X223 (by decide) (by decide)) rfl N223 K223 scx_234 slx_235 stx_236 lmx_237 m0x_238 m1x_239 s0x_240 s1x_241 szx_242 KFx_243 JFx_244 snx_245 lax_246 h249 h250 h251 h252 (by exact Gs.move f118 (Or.resolve_left f35 c185) (by omega) hD hpg149_0 hPk (by decide) (by decide) hN1 f248) (by have q := St1.le hpg149_0; exact Nx.le f248 (Nx.le hN1 (by omega)))
  intro Tg182 hg182 Lgg182 Xg182 eg182 Ng182 Kg182 scg slg stg lmg m0g m1g s0g s1g szg KFg JFg sng lag hfg182_0 hfg182_1 hfg182_2 hfg182_3 hpg182_0 hpg182_1
  have f264 := rng32 scg
  have f265 := rng32 slg
  have f266 := rng64 stg
  have f267 := rng64 lmg
  have f268 := rng32 m0g
  have f269 := rng32 m1g
  have f270 := rng32 s0g
  have f271 := rng32 s1g
  have f272 := rng32 sng
  have f273 := rng64 lag
  show Go p e below s Q 2 4 (Tg182.setTop (mkF m 175 #[vr ps, vi fg, vj D0, sd, vj D1, sd, vr ea, vi v6, vi j7, vi j17, vi j27, vr b37, vi cn, un, un, un, un, un, un, un, un] []))
  refine gA Xg182 hx hby rfl d4_175 rfl rfl ?_
  have f275 := rng32 mk2_108
  have f276 := rng32 en2_109
  have f277 := rng32 ts2_110
  have p278 : 0 ≤ mk2_108.toInt ∧ mk2_108.toInt ≤ 1000 := by omega
  obtain ⟨cq274, kq274, q274a, q274b, q274c⟩ := isOf hZ eg182 hfg182_0.1.1
  obtain ⟨_, _, ⟨T274, L274, k274, n274⟩, -, X274, ⟨Lc274, hQ274, l274, y274, z274⟩, st274⟩ := Xg182.virtualBack hx (y := (⟨cP, "finishBack", "()Z"⟩ : MethodName)) (z := (⟨cP, "finishBack", "()Z"⟩ : MethodName)) hown (mvT hZ (tb hw 83 rfl)) (mvT hZ (tb hw 84 rfl)) (notFace_of_selects (args := #[]) (mvT hZ (tb hw 86 rfl))) (mvT hZ (tb hw 86 rfl)) (mvT hZ (tb hw 85 rfl)) (by decide) (backOf (W := 0) (rmfb l Z a0 hw [] ps q ks js ss po di ma se kf jf mk2_108 scg en2_109 ts2_110 slg stg lmg p0 p1 d0a d1a m0g m1g s0g s1g szg KFg JFg sng lag sv2_113 hg182 n0 (Nat.le_trans Z0 Kg182.1) hfg182_0 hPs hkd3 p278 (fun q => Gs.sd hpg182_0 q)) hZ (tb hw 87 rfl) (tb hw 2 rfl) (by decide) (by decide)) q274a q274c (g := (mkF m 176 #[vr ps, vi fg, vj D0, sd, vj D1, sd, vr ea, vi v6, vi j7, vi j17, vi j27, vr b37, vi cn, un, un, un, un, un, un, un, un] [(.ref ps)])) rfl (by rw [hml]; rfl) (Steps.refl _) (argsL := []) (rest := []) (lenOf pd_7 rfl) rfl (by show 2 * 0 + _ ≤ _; exact Nat.le_of_eq rfl) (hb hby d4_176) (fun _ _ => ⟨rfl, eg182, (by decide : 2 + 0 ≤ _), (by decide : 4 + 0 ≤ _)⟩)
  dsimp only [Pt.U, Pt.locs, Pt.cells, Pt.slots] at X274 l274 y274 z274 st274 hQ274
  subst y274 z274
  obtain ⟨p0x_279, p1x_280, rr_281, rfl, N274q, f282, K274q, h283⟩ := hQ274
  have N274 : Fr n0 L274 := by rw [l274]; exact Fr.app Ng182 N274q
  have h284 : SV Z T274.heap ps q ks js ss po di ma se kf jf n0 sv2_113 w0x_114 w1x_115 := hfg182_1.keep K274q (svA (allS (mq 0 rfl) (allS (mq 1 rfl) (allS (mq 4 rfl) (allS (mq 5 rfl) (allS (mq 6 rfl) (allS (mq 7 rfl) (allS (mq 8 rfl) all0))))))))
  have h285 : Vec Z T274.heap ea .long (2 : Int32) (longs (lst [p0, p1])) := hfg182_2.keep K274q (nin_app (ninS (Ne.symm (out_ea _ (mq 0 rfl))) (ninS (Ne.symm (out_ea _ (mq 1 rfl))) (ninS (Ne.symm (out_ea _ (mq 4 rfl))) (ninS (Ne.symm (out_ea _ (mq 5 rfl))) (ninS (Ne.symm (out_ea _ (mq 6 rfl))) (ninS (Ne.symm (out_ea _ (mq 7 rfl))) (ninS (Ne.symm (out_ea _ (mq 8 rfl))) nin0))))))) (nin_rows nr_ea))
  have h286 : Vec Z T274.heap b37 .int (2 : Int32) (ints (lst [u0, u1])) := hfg182_3.keep K274q (nin_app (ninS (Ne.symm (out_b37 _ (mq 0 rfl))) (ninS (Ne.symm (out_b37 _ (mq 1 rfl))) (ninS (Ne.symm (out_b37 _ (mq 4 rfl))) (ninS (Ne.symm (out_b37 _ (mq 5 rfl))) (ninS (Ne.symm (out_b37 _ (mq 6 rfl))) (ninS (Ne.symm (out_b37 _ (mq 7 rfl))) (ninS (Ne.symm (out_b37 _ (mq 8 rfl))) nin0))))))) (nin_rows nr_b37))
  have K274 : Lk h0 T274.heap := Kg182.trans K274q.1
  refine Go.tr  st274 ?_
  show Go p e below s Q 2 4 (T274.setTop (mkF m 179 #[vr ps, vi fg, vj D0, sd, vj D1, sd, vr ea, vi v6, vi j7, vi j17, vi j27, vr b37, vi cn, un, un, un, un, un, un, un, un] [(.int rr_281)]))
  have f287 := rng32 rr_281
  clear hen3 hkd3 hslb
  refine gS X274 hx hby rfl d4_179 rfl (l' := #[vr ps, vi fg, vj D0, sd, vj D1, sd, vr ea, vi v6, vi j7, vi j17, vi j27, vr b37, vi cn, vi rr_281, un, un, un, un, un, un, un]) rfl ?_
  refine gD X274 hx hby rfl d4_181 rfl ?_
  refine gI X274 hx hby rfl d4_183 ?_
  have f288 := liI_1
  by_cases c289 : cn.toInt = 1
  ·
    refine gM X274 hx hby rfl d4_184 rfl (teq (eqI rfl liI_1 c289)).2 ?_
    show Go p e below s Q 2 4 (T274.setTop (mkF m 187 #[vr ps, vi fg, vj D0, sd, vj D1, sd, vr ea, vi v6, vi j7, vi j17, vi j27, vr b37, vi cn, vi rr_281, un, un, un, un, un, un, un] []))
    have hA := kd1 f119 hpg46_0 c289
    have hU := kd3 hpg46_0
    clear hpg46_0 f119
    refine gB X274 hx hby rfl d4_187 rfl rfl ?_
    refine gI X274 hx hby rfl d4_189 ?_
    refine Go.st (Vec.ildI X274 hx hZ rfl h286 (j := (0 : Int32)) (by decide) (by decide) (g := (mkF m 190 #[vr ps, vi fg, vj D0, sd, vj D1, sd, vr ea, vi v6, vi j7, vi j17, vi j27, vr b37, vi cn, vi rr_281, un, un, un, un, un, un, un] [(.int (0 : Int32)), (.ref b37)])) rfl rfl (hb hby d4_190)) ?_
    refine gS X274 hx hby rfl d4_191 rfl (l' := #[vr ps, vi fg, vj D0, sd, vj D1, sd, vr ea, vi v6, vi j7, vi j17, vi j27, vr b37, vi cn, vi rr_281, un, un, un, vi u0, un, un, un]) rfl ?_
    refine gD X274 hx hby rfl d4_193 rfl ?_
    show Go p e below s Q 2 4 (T274.setTop (mkF m 195 #[vr ps, vi fg, vj D0, sd, vj D1, sd, vr ea, vi v6, vi j7, vi j17, vi j27, vr b37, vi cn, vi rr_281, un, un, un, vi u0, un, un, un] [(.int u0)]))
    suffices J292 : ∀ (j291 : Int32), ((u0.toInt = 0 ∧ j291.toInt = j7.toInt) ∨ (u0.toInt = 1 ∧ j291.toInt = j17.toInt)) → Go p e below s Q 2 4 (T274.setTop (mkF m 205 #[vr ps, vi fg, vj D0, sd, vj D1, sd, vr ea, vi v6, vi j7, vi j17, vi j27, vr b37, vi cn, vi rr_281, un, un, un, vi u0, un, un, un] [(.int j291)])) by
      have f294 := liI_0
      by_cases c295 : u0.toInt = 0
      ·
        refine gN X274 hx hby rfl d4_195 rfl ((if0 _ _).trans (teq (eqI rfl liI_0 c295)).2) ?_
        refine gD X274 hx hby rfl d4_198 rfl ?_
        refine gG X274 hx hby rfl (pc0 := 200) (pc' := 205) rfl d4_200 (by decide) (by decide) ?_
        show Go p e below s Q 2 4 (T274.setTop (mkF m 205 #[vr ps, vi fg, vj D0, sd, vj D1, sd, vr ea, vi v6, vi j7, vi j17, vi j27, vr b37, vi cn, vi rr_281, un, un, un, vi u0, un, un, un] [(.int j7)]))
        exact J292 j7 (by omega)
      ·
        refine gY X274 hx hby rfl (pc0 := 195) (pc' := 203) rfl d4_195 rfl ((if0 _ _).trans (feq (neI rfl liI_0 c295)).2) (by decide) (by decide) ?_
        refine gD X274 hx hby rfl d4_203 rfl ?_
        show Go p e below s Q 2 4 (T274.setTop (mkF m 205 #[vr ps, vi fg, vj D0, sd, vj D1, sd, vr ea, vi v6, vi j7, vi j17, vi j27, vr b37, vi cn, vi rr_281, un, un, un, vi u0, un, un, un] [(.int j17)]))
        exact J292 j17 (by omega)
    intro j291 f296
    have f297 := rng32 j291
    refine gS X274 hx hby rfl d4_205 rfl (l' := #[vr ps, vi fg, vj D0, sd, vj D1, sd, vr ea, vi v6, vi j7, vi j17, vi j27, vr b37, vi cn, vi rr_281, un, un, un, vi u0, vi j291, un, un]) rfl ?_
    refine gD X274 hx hby rfl d4_207 rfl ?_
    show Go p e below s Q 2 4 (T274.setTop (mkF m 209 #[vr ps, vi fg, vj D0, sd, vj D1, sd, vr ea, vi v6, vi j7, vi j17, vi j27, vr b37, vi cn, vi rr_281, un, un, un, vi u0, vi j291, un, un] [(.int u0)]))
    suffices J299 : ∀ (j298 : Int64), ((u0.toInt = 0 ∧ j298.toInt = D0.toInt) ∨ (u0.toInt = 1 ∧ j298.toInt = D1.toInt)) → Go p e below s Q 2 4 (T274.setTop (mkF m 218 #[vr ps, vi fg, vj D0, sd, vj D1, sd, vr ea, vi v6, vi j7, vi j17, vi j27, vr b37, vi cn, vi rr_281, un, un, un, vi u0, vi j291, un, un] [(.long j298)])) by
      have f301 := liI_0
      by_cases c302 : u0.toInt = 0
      ·
        refine gN X274 hx hby rfl d4_209 rfl ((if0 _ _).trans (teq (eqI rfl liI_0 c302)).2) ?_
        refine gE X274 hx hby rfl d4_212 rfl ?_
        refine gG X274 hx hby rfl (pc0 := 213) (pc' := 218) rfl d4_213 (by decide) (by decide) ?_
        show Go p e below s Q 2 4 (T274.setTop (mkF m 218 #[vr ps, vi fg, vj D0, sd, vj D1, sd, vr ea, vi v6, vi j7, vi j17, vi j27, vr b37, vi cn, vi rr_281, un, un, un, vi u0, vi j291, un, un] [(.long D0)]))
        exact J299 D0 (by omega)
      ·
        refine gY X274 hx hby rfl (pc0 := 209) (pc' := 216) rfl d4_209 rfl ((if0 _ _).trans (feq (neI rfl liI_0 c302)).2) (by decide) (by decide) ?_
        refine gF X274 hx hby rfl d4_216 rfl ?_
        show Go p e below s Q 2 4 (T274.setTop (mkF m 218 #[vr ps, vi fg, vj D0, sd, vj D1, sd, vr ea, vi v6, vi j7, vi j17, vi j27, vr b37, vi cn, vi rr_281, un, un, un, vi u0, vi j291, un, un] [(.long D1)]))
        exact J299 D1 (by omega)
    intro j298 f303
    have f304 := rng64 j298
    refine gU X274 hx hby rfl d4_218 rfl (l' := #[vr ps, vi fg, vj D0, sd, vj D1, sd, vr ea, vi v6, vi j7, vi j17, vi j27, vr b37, vi cn, vi rr_281, un, un, un, vi u0, vi j291, vj j298, sd]) rfl ?_
    refine gD X274 hx hby rfl d4_220 rfl ?_
    show Go p e below s Q 2 4 (T274.setTop (mkF m 222 #[vr ps, vi fg, vj D0, sd, vj D1, sd, vr ea, vi v6, vi j7, vi j17, vi j27, vr b37, vi cn, vi rr_281, un, un, un, vi u0, vi j291, vj j298, sd] [(.int j27)]))
    suffices J306 : ∀ (j305 : Int32), ((j305.toInt = 1 ∧ j27.toInt = 1 ∧ j291.toInt = 1) ∨ (j305.toInt = 0 ∧ ¬ (j27.toInt = 1 ∧ j291.toInt = 1))) → Go p e below s Q 2 4 (T274.setTop (mkF m 235 #[vr ps, vi fg, vj D0, sd, vj D1, sd, vr ea, vi v6, vi j7, vi j17, vi j27, vr b37, vi cn, vi rr_281, un, un, un, vi u0, vi j291, vj j298, sd] [(.int j305)])) by
      have f308 := liI_0
      by_cases c309 : j27.toInt = 0
      ·
        refine gY X274 hx hby rfl (pc0 := 222) (pc' := 234) rfl d4_222 rfl ((if0 _ _).trans (teq (eqI rfl liI_0 c309)).1) (by decide) (by decide) ?_
        refine gI X274 hx hby rfl d4_234 ?_
        show Go p e below s Q 2 4 (T274.setTop (mkF m 235 #[vr ps, vi fg, vj D0, sd, vj D1, sd, vr ea, vi v6, vi j7, vi j17, vi j27, vr b37, vi cn, vi rr_281, un, un, un, vi u0, vi j291, vj j298, sd] [(.int (0 : Int32))]))
        exact J306 (0 : Int32) (by omega)
      ·
        refine gN X274 hx hby rfl d4_222 rfl ((if0 _ _).trans (feq (neI rfl liI_0 c309)).1) ?_
        refine gD X274 hx hby rfl d4_225 rfl ?_
        by_cases c310 : j291.toInt = 0
        ·
          refine gY X274 hx hby rfl (pc0 := 227) (pc' := 234) rfl d4_227 rfl ((if0 _ _).trans (teq (eqI rfl liI_0 c310)).1) (by decide) (by decide) ?_
          refine gI X274 hx hby rfl d4_234 ?_
          show Go p e below s Q 2 4 (T274.setTop (mkF m 235 #[vr ps, vi fg, vj D0, sd, vj D1, sd, vr ea, vi v6, vi j7, vi j17, vi j27, vr b37, vi cn, vi rr_281, un, un, un, vi u0, vi j291, vj j298, sd] [(.int (0 : Int32))]))
          exact J306 (0 : Int32) (by omega)
        ·
          refine gN X274 hx hby rfl d4_227 rfl ((if0 _ _).trans (feq (neI rfl liI_0 c310)).1) ?_
          refine gI X274 hx hby rfl d4_230 ?_
          refine gG X274 hx hby rfl (pc0 := 231) (pc' := 235) rfl d4_231 (by decide) (by decide) ?_
          show Go p e below s Q 2 4 (T274.setTop (mkF m 235 #[vr ps, vi fg, vj D0, sd, vj D1, sd, vr ea, vi v6, vi j7, vi j17, vi j27, vr b37, vi cn, vi rr_281, un, un, un, vi u0, vi j291, vj j298, sd] [(.int (1 : Int32))]))
          exact J306 (1 : Int32) (by omega)
    intro j305 f311
    have f312 := rng32 j305
    refine gS X274 hx hby rfl d4_235 rfl (l' := #[vr ps, vi fg, vj D0, sd, vj D1, sd, vr ea, vi v6, vi j7, vi j17, vi j27, vr b37, vi cn, vi rr_281, vi j305, un, un, vi u0, vi j291, vj j298, sd]) rfl ?_
    refine gF X274 hx hby rfl d4_237 rfl ?_
    refine Go.st (fun _ k => XS.lconst X274.here hx rfl (hb hby d4_239) k) ?_
    refine Go.st (fun _ k => XS.ladd X274.here hx rfl (hb hby d4_240) rfl k) ?_
    refine gU X274 hx hby rfl d4_241 rfl (l' := #[vr ps, vi fg, vj D0, sd, vj D1, sd, vr ea, vi v6, vi j7, vi j17, vi j27, vr b37, vi cn, vi rr_281, vi j305, vj (j298 + (1 : Int64)), sd, vi u0, vi j291, vj j298, sd]) rfl ?_
    show Go p e below s Q 2 4 (T274.setTop (mkF m 243 #[vr ps, vi fg, vj D0, sd, vj D1, sd, vr ea, vi v6, vi j7, vi j17, vi j27, vr b37, vi cn, vi rr_281, vi j305, vj (j298 + (1 : Int64)), sd, vi u0, vi j291, vj j298, sd] []))
    have f313 := liJ_1
    have f314 := c_ladd j298 (1 : Int64)
    have f315 := rng64 (j298 + (1 : Int64))
    generalize hv_v316 : (j298 + (1 : Int64)) = v316 at f314 f315 ⊢
    refine gG X274 hx hby rfl (pc0 := 243) (pc' := 278) rfl d4_243 (by decide) (by decide) ?_
    show Go p e below s Q 2 4 (T274.setTop (mkF m 278 #[vr ps, vi fg, vj D0, sd, vj D1, sd, vr ea, vi v6, vi j7, vi j17, vi j27, vr b37, vi cn, vi rr_281, vi j305, vj v316, sd, vi u0, vi j291, vj j298, sd] []))
    have hRE : (j305.toInt = 1 ∧ RE j27 j7 j17 en2_109 ts2_110) ∨ (j305.toInt = 0 ∧ ¬ RE j27 j7 j17 en2_109 ts2_110) := re1 hA f296 f311
    have hds : 0 ≤ j298.toInt ∧ j298.toInt < 2305843009213693952 := by rcases f303 with q | q <;> omega
    have hLI : LI v316.toInt en2_109 ts2_110 D0 D1 := li1 hA f303 (by omega)
    have hgot : rr_281.toInt = j305.toInt := Gs.got hpg182_0 f282 hRE
    have hj01 : j305.toInt = 0 ∨ j305.toInt = 1 := hRE.elim (fun q => Or.inr q.1) (fun q => Or.inl q.1)
    refine gD X274 hx hby rfl d4_278 rfl ?_
    refine gD X274 hx hby rfl d4_280 rfl ?_
    have c317 : rr_281.toInt = j305.toInt := by omega
    refine gZ X274 hx hby rfl (pc0 := 282) (pc' := 287) rfl d4_282 rfl (teq (eqI rfl rfl c317)).1 (by decide) (by decide) ?_
    refine gB X274 hx hby rfl d4_287 rfl rfl ?_
    refine gI X274 hx hby rfl d4_289 ?_
    refine Go.st (Vec.ildJ X274 hx hZ rfl h285 (j := (0 : Int32)) (by decide) (by decide) (g := (mkF m 290 #[vr ps, vi fg, vj D0, sd, vj D1, sd, vr ea, vi v6, vi j7, vi j17, vi j27, vr b37, vi cn, vi rr_281, vi j305, vj v316, sd, vi u0, vi j291, vj j298, sd] [(.int (0 : Int32)), (.ref ea)])) rfl rfl (hb hby d4_290)) ?_
    show Go p e below s Q 2 4 (T274.setTop (mkF m 291 #[vr ps, vi fg, vj D0, sd, vj D1, sd, vr ea, vi v6, vi j7, vi j17, vi j27, vr b37, vi cn, vi rr_281, vi j305, vj v316, sd, vi u0, vi j291, vj j298, sd] [(.long p0)]))
    refine gU X274 hx hby rfl d4_291 rfl (l' := #[vr ps, vi fg, vj D0, sd, vj D1, sd, vr ea, vi v6, vi j7, vi j17, vi j27, vr b37, vi cn, vi rr_281, vi j305, vj v316, sd, vj p0, sd, vj j298, sd]) rfl ?_
    refine gB X274 hx hby rfl d4_293 rfl rfl ?_
    refine gI X274 hx hby rfl d4_295 ?_
    refine Go.st (Vec.ildJ X274 hx hZ rfl h285 (j := (1 : Int32)) (by decide) (by decide) (g := (mkF m 296 #[vr ps, vi fg, vj D0, sd, vj D1, sd, vr ea, vi v6, vi j7, vi j17, vi j27, vr b37, vi cn, vi rr_281, vi j305, vj v316, sd, vj p0, sd, vj j298, sd] [(.int (1 : Int32)), (.ref ea)])) rfl rfl (hb hby d4_296)) ?_
    refine gU X274 hx hby rfl d4_297 rfl (l' := #[vr ps, vi fg, vj D0, sd, vj D1, sd, vr ea, vi v6, vi j7, vi j17, vi j27, vr b37, vi cn, vi rr_281, vi j305, vj v316, sd, vj p0, sd, vj p1, sd]) rfl ?_
    refine gD X274 hx hby rfl d4_299 rfl ?_
    show Go p e below s Q 2 4 (T274.setTop (mkF m 301 #[vr ps, vi fg, vj D0, sd, vj D1, sd, vr ea, vi v6, vi j7, vi j17, vi j27, vr b37, vi cn, vi rr_281, vi j305, vj v316, sd, vj p0, sd, vj p1, sd] [(.int j305)]))
    have f320 := liI_0
    by_cases c321 : j305.toInt = 0
    ·
      refine gY X274 hx hby rfl (pc0 := 301) (pc' := 366) rfl d4_301 rfl ((if0 _ _).trans (teq (eqI rfl liI_0 c321)).1) (by decide) (by decide) ?_
      refine gB X274 hx hby rfl d4_366 rfl rfl ?_
      refine gI X274 hx hby rfl d4_368 ?_
      refine gF X274 hx hby rfl d4_369 rfl ?_
      obtain ⟨T322, h322, X322, e322, W322, V322, st322⟩ := Vec.istJ X274 hx hZ rfl h285 (j := (0 : Int32)) (by decide) (by decide) (g := (mkF m 371 #[vr ps, vi fg, vj D0, sd, vj D1, sd, vr ea, vi v6, vi j7, vi j17, vi j27, vr b37, vi cn, vi rr_281, vi j305, vj v316, sd, vj p0, sd, vj p1, sd] [(.long p0), (.int (0 : Int32)), (.ref ea)])) rfl rfl (hb hby d4_371)
      have h323 : SV Z h322 ps q ks js ss po di ma se kf jf n0 sv2_113 w0x_114 w1x_115 := h284.other2 W322 (fun so q => vec_tne (h284.2 so q).1 h285 (by decide))
      have h324 : Vec Z h322 ea .long (2 : Int32) (longs (lst [p0, p1])) := Vec.of_eq V322 (congrArg longs (upd_lst _ 0 _ (Nat.le_of_ble_eq_true rfl)))
      have h325 : Vec Z h322 b37 .int (2 : Int32) (ints (lst [u0, u1])) := h286.other W322 (Ne.symm q41)
      have h326 : PSt Z h322 ps q ks js ss po di ma se kf jf mk2_108 scg en2_109 ts2_110 slg stg lmg p0x_279 p1x_280 d0a d1a m0g m1g s0g s1g szg KFg JFg sng lag sv2_113 := h283.other W322 out_ea nr_ea
      have K322 : Lk h0 h322 := K274.wr W322
      have N322 := Fr.snoc X322 N274 G_ea
      refine Go.st st322 ?_
      show Go p e below s Q 2 4 (T322.setTop (mkF m 372 #[vr ps, vi fg, vj D0, sd, vj D1, sd, vr ea, vi v6, vi j7, vi j17, vi j27, vr b37, vi cn, vi rr_281, vi j305, vj v316, sd, vj p0, sd, vj p1, sd] []))
      refine gB X322 hx hby rfl d4_372 rfl rfl ?_
      refine gI X322 hx hby rfl d4_374 ?_
      refine gF X322 hx hby rfl d4_375 rfl ?_
      obtain ⟨T327, h327, X327, e327, W327, V327, st327⟩ := Vec.istJ X322 hx hZ e322 h324 (j := (1 : Int32)) (by decide) (by decide) (g := (mkF m 377 #[vr ps, vi fg, vj D0, sd, vj D1, sd, vr ea, vi v6, vi j7, vi j17, vi j27, vr b37, vi cn, vi rr_281, vi j305, vj v316, sd, vj p0, sd, vj p1, sd] [(.long p1), (.int (1 : Int32)), (.ref ea)])) rfl rfl (hb hby d4_377)
      have h328 : SV Z h327 ps q ks js ss po di ma se kf jf n0 sv2_113 w0x_114 w1x_115 := h323.other2 W327 (fun so q => vec_tne (h323.2 so q).1 h324 (by decide))
      have h329 : Vec Z h327 ea .long (2 : Int32) (longs (lst [p0, p1])) := Vec.of_eq V327 (congrArg longs (upd_lst _ 1 _ (Nat.le_of_ble_eq_true rfl)))
      have h330 : Vec Z h327 b37 .int (2 : Int32) (ints (lst [u0, u1])) := h325.other W327 (Ne.symm q41)
      have h331 : PSt Z h327 ps q ks js ss po di ma se kf jf mk2_108 scg en2_109 ts2_110 slg stg lmg p0x_279 p1x_280 d0a d1a m0g m1g s0g s1g szg KFg JFg sng lag sv2_113 := h326.other W327 out_ea nr_ea
      have K327 : Lk h0 h327 := K322.wr W327
      have N327 := Fr.snoc X327 N322 G_ea
      refine Go.st st327 ?_
      show Go p e below s Q 2 4 (T327.setTop (mkF m 378 #[vr ps, vi fg, vj D0, sd, vj D1, sd, vr ea, vi v6, vi j7, vi j17, vi j27, vr b37, vi cn, vi rr_281, vi j305, vj v316, sd, vj p0, sd, vj p1, sd] []))
      refine gA X327 hx hby rfl d4_378 rfl rfl ?_
      refine gI X327 hx hby rfl d4_379 ?_
      have f333 := rng64 p0x_279
      have f334 := rng64 p1x_280
      obtain ⟨cq332, kq332, q332a, q332b, q332c⟩ := isOf hZ e327 h331.1.1
      obtain ⟨_, _, ⟨T332, L332, k332, n332⟩, -, X332, ⟨Lc332, hQ332, l332, y332, z332⟩, st332⟩ := X327.virtualBack hx (y := (⟨cP, "potential", "(I)J"⟩ : MethodName)) (z := (⟨cP, "potential", "(I)J"⟩ : MethodName)) hown (mvT hZ (tb hw 88 rfl)) (mvT hZ (tb hw 89 rfl)) (notFace_of_selects (args := #[]) (mvT hZ (tb hw 91 rfl))) (mvT hZ (tb hw 91 rfl)) (mvT hZ (tb hw 90 rfl)) (by decide) (backOf (W := 0) (rmpt0 l Z a0 hw [] ps q ks js ss po di ma se kf jf mk2_108 scg en2_109 ts2_110 slg stg lmg p0x_279 p1x_280 d0a d1a m0g m1g s0g s1g szg KFg JFg sng lag sv2_113 h327 n0 (Nat.le_trans Z0 K327.1) h331 hPs) hZ (tb hw 92 rfl) (tb hw 2 rfl) (by decide) (by decide)) q332a q332c (g := (mkF m 380 #[vr ps, vi fg, vj D0, sd, vj D1, sd, vr ea, vi v6, vi j7, vi j17, vi j27, vr b37, vi cn, vi rr_281, vi j305, vj v316, sd, vj p0, sd, vj p1, sd] [(.int (0 : Int32)), (.ref ps)])) rfl (by rw [hml]; rfl) (Steps.refl _) (argsL := [(.int (0 : Int32))]) (rest := []) (lenOf pd_11 rfl) rfl (by show 2 * 0 + _ ≤ _; exact Nat.le_of_eq rfl) (hb hby d4_380) (fun _ _ => ⟨rfl, e327, (by decide : 2 + 0 ≤ _), (by decide : 4 + 0 ≤ _)⟩)
      dsimp only [Pt.U, Pt.locs, Pt.cells, Pt.slots] at X332 l332 y332 z332 st332 hQ332
      subst y332 z332
      obtain ⟨rfl, N332q, e332⟩ := hQ332
      have N332 : Fr n0 L332 := by rw [l332]; exact Fr.app N327 N332q
      refine Go.tr  st332 ?_
      show Go p e below s Q 2 4 (T332.setTop (mkF m 383 #[vr ps, vi fg, vj D0, sd, vj D1, sd, vr ea, vi v6, vi j7, vi j17, vi j27, vr b37, vi cn, vi rr_281, vi j305, vj v316, sd, vj p0, sd, vj p1, sd] [(.long p0x_279)]))
      have hF0 : p0x_279 = p0 := (Gs.same f282 (hgot.trans c321)).1
      have hE0 : p0x_279.toInt = p0.toInt := congrArg Int64.toInt hF0
      refine gF X332 hx hby rfl d4_383 rfl ?_
      refine gL X332 hx hby rfl d4_385 rfl ?_
      have c335 : p0x_279.toInt = p0.toInt := by omega
      refine gN X332 hx hby rfl d4_386 rfl ((if0 _ _).trans (teq ((lw_eq p0x_279 p0).mpr (eqJ rfl rfl c335))).2) ?_
      refine gA X332 hx hby rfl d4_389 rfl rfl ?_
      refine gI X332 hx hby rfl d4_390 ?_
      obtain ⟨cq336, kq336, q336a, q336b, q336c⟩ := isOf hZ e332 h331.1.1
      obtain ⟨_, _, ⟨T336, L336, k336, n336⟩, -, X336, ⟨Lc336, hQ336, l336, y336, z336⟩, st336⟩ := X332.virtualBack hx (y := (⟨cP, "potential", "(I)J"⟩ : MethodName)) (z := (⟨cP, "potential", "(I)J"⟩ : MethodName)) hown (mvT hZ (tb hw 88 rfl)) (mvT hZ (tb hw 89 rfl)) (notFace_of_selects (args := #[]) (mvT hZ (tb hw 91 rfl))) (mvT hZ (tb hw 91 rfl)) (mvT hZ (tb hw 90 rfl)) (by decide) (backOf (W := 0) (rmpt1 l Z a0 hw [] ps q ks js ss po di ma se kf jf mk2_108 scg en2_109 ts2_110 slg stg lmg p0x_279 p1x_280 d0a d1a m0g m1g s0g s1g szg KFg JFg sng lag sv2_113 h327 n0 (Nat.le_trans Z0 K327.1) h331 hPs) hZ (tb hw 92 rfl) (tb hw 2 rfl) (by decide) (by decide)) q336a q336c (g := (mkF m 391 #[vr ps, vi fg, vj D0, sd, vj D1, sd, vr ea, vi v6, vi j7, vi j17, vi j27, vr b37, vi cn, vi rr_281, vi j305, vj v316, sd, vj p0, sd, vj p1, sd] [(.int (1 : Int32)), (.ref ps)])) rfl (by rw [hml]; rfl) (Steps.refl _) (argsL := [(.int (1 : Int32))]) (rest := []) (lenOf pd_11 rfl) rfl (by show 2 * 0 + _ ≤ _; exact Nat.le_of_eq rfl) (hb hby d4_391) (fun _ _ => ⟨rfl, e332, (by decide : 2 + 0 ≤ _), (by decide : 4 + 0 ≤ _)⟩)
      dsimp only [Pt.U, Pt.locs, Pt.cells, Pt.slots] at X336 l336 y336 z336 st336 hQ336
      subst y336 z336
      obtain ⟨rfl, N336q, e336⟩ := hQ336
      have N336 : Fr n0 L336 := by rw [l336]; exact Fr.app N332 N336q
      refine Go.tr  st336 ?_
      show Go p e below s Q 2 4 (T336.setTop (mkF m 394 #[vr ps, vi fg, vj D0, sd, vj D1, sd, vr ea, vi v6, vi j7, vi j17, vi j27, vr b37, vi cn, vi rr_281, vi j305, vj v316, sd, vj p0, sd, vj p1, sd] [(.long p1x_280)]))
      have hF1 : p1x_280 = p1 := (Gs.same f282 (hgot.trans c321)).2
      have hE1 : p1x_280.toInt = p1.toInt := congrArg Int64.toInt hF1
      refine gF X336 hx hby rfl d4_394 rfl ?_
      refine gL X336 hx hby rfl d4_396 rfl ?_
      have c337 : p1x_280.toInt = p1.toInt := by omega
      refine gN X336 hx hby rfl d4_397 rfl ((if0 _ _).trans (teq ((lw_eq p1x_280 p1).mpr (eqJ rfl rfl c337))).2) ?_
      refine gI X336 hx hby rfl d4_400 ?_
      refine gG X336 hx hby rfl (pc0 := 401) (pc' := 405) rfl d4_401 (by decide) (by decide) ?_
      show Go p e below s Q 2 4 (T336.setTop (mkF m 405 #[vr ps, vi fg, vj D0, sd, vj D1, sd, vr ea, vi v6, vi j7, vi j17, vi j27, vr b37, vi cn, vi rr_281, vi j305, vj v316, sd, vj p0, sd, vj p1, sd] [(.int (1 : Int32))]))
      exact Go.retN X336 hx hlk (by simp) Bd.returns (hb hby d4_405) (z' := (1 : Int32)) (by decide) (by rw [← hQ, e336]; exact ⟨mk2_108, scg, en2_109, ts2_110, slg, stg, lmg, p0x_279, p1x_280, d0a, d1a, m0g, m1g, s0g, s1g, szg, KFg, JFg, sng, lag, sv2_113, w0x_114, w1x_115, (1 : Int32), rfl, N336, (by omega), (by omega), K327, h331, h328, (by have hh := h329; rw [hF0, hF1]; exact hh)⟩) (by decide) (by decide)
    ·
      refine gN X274 hx hby rfl d4_301 rfl ((if0 _ _).trans (feq (neI rfl liI_0 c321)).1) ?_
      refine gD X274 hx hby rfl d4_304 rfl ?_
      show Go p e below s Q 2 4 (T274.setTop (mkF m 306 #[vr ps, vi fg, vj D0, sd, vj D1, sd, vr ea, vi v6, vi j7, vi j17, vi j27, vr b37, vi cn, vi rr_281, vi j305, vj v316, sd, vj p0, sd, vj p1, sd] [(.int j7)]))
      suffices J339 : ∀ (j338 : Int64), ((j7.toInt = 1 ∧ D0.toInt < v316.toInt ∧ j338 = p0 - D0) ∨ (¬ (j7.toInt = 1 ∧ D0.toInt < v316.toInt) ∧ j338 = p0 - v316)) → Go p e below s Q 2 4 (T274.setTop (mkF m 332 #[vr ps, vi fg, vj D0, sd, vj D1, sd, vr ea, vi v6, vi j7, vi j17, vi j27, vr b37, vi cn, vi rr_281, vi j305, vj v316, sd, vj p0, sd, vj p1, sd] [(.long j338)])) by
        by_cases c341 : j7.toInt = 0
        ·
          refine gY X274 hx hby rfl (pc0 := 306) (pc' := 325) rfl d4_306 rfl ((if0 _ _).trans (teq (eqI rfl liI_0 c341)).1) (by decide) (by decide) ?_
          refine gB X274 hx hby rfl d4_325 rfl rfl ?_
          refine gI X274 hx hby rfl d4_327 ?_
          refine Go.st (Vec.ildJ X274 hx hZ rfl h285 (j := (0 : Int32)) (by decide) (by decide) (g := (mkF m 328 #[vr ps, vi fg, vj D0, sd, vj D1, sd, vr ea, vi v6, vi j7, vi j17, vi j27, vr b37, vi cn, vi rr_281, vi j305, vj v316, sd, vj p0, sd, vj p1, sd] [(.int (0 : Int32)), (.ref ea)])) rfl rfl (hb hby d4_328)) ?_
          refine gF X274 hx hby rfl d4_329 rfl ?_
          refine Go.st (fun _ k => XS.lsub X274.here hx rfl (hb hby d4_331) rfl k) ?_
          show Go p e below s Q 2 4 (T274.setTop (mkF m 332 #[vr ps, vi fg, vj D0, sd, vj D1, sd, vr ea, vi v6, vi j7, vi j17, vi j27, vr b37, vi cn, vi rr_281, vi j305, vj v316, sd, vj p0, sd, vj p1, sd] [(.long (p0 - v316))]))
          have f343 := c_lsub p0 v316
          have f344 := rng64 (p0 - v316)
          exact J339 (p0 - v316) (by exact Or.inr ⟨by omega, rfl⟩)
        ·
          refine gN X274 hx hby rfl d4_306 rfl ((if0 _ _).trans (feq (neI rfl liI_0 c341)).1) ?_
          refine gE X274 hx hby rfl d4_309 rfl ?_
          refine gF X274 hx hby rfl d4_310 rfl ?_
          refine gL X274 hx hby rfl d4_312 rfl ?_
          by_cases c345 : D0.toInt < v316.toInt
          ·
            refine gN X274 hx hby rfl d4_313 rfl ((if0 _ _).trans (tlt ((lw_lt D0 v316).mpr (ltJ rfl rfl c345))).2.1) ?_
            refine gB X274 hx hby rfl d4_316 rfl rfl ?_
            show Go p e below s Q 2 4 (T274.setTop (mkF m 318 #[vr ps, vi fg, vj D0, sd, vj D1, sd, vr ea, vi v6, vi j7, vi j17, vi j27, vr b37, vi cn, vi rr_281, vi j305, vj v316, sd, vj p0, sd, vj p1, sd] [(.ref ea)]))
            refine gI X274 hx hby rfl d4_318 ?_
            refine Go.st (Vec.ildJ X274 hx hZ rfl h285 (j := (0 : Int32)) (by decide) (by decide) (g := (mkF m 319 #[vr ps, vi fg, vj D0, sd, vj D1, sd, vr ea, vi v6, vi j7, vi j17, vi j27, vr b37, vi cn, vi rr_281, vi j305, vj v316, sd, vj p0, sd, vj p1, sd] [(.int (0 : Int32)), (.ref ea)])) rfl rfl (hb hby d4_319)) ?_
            refine gE X274 hx hby rfl d4_320 rfl ?_
            refine Go.st (fun _ k => XS.lsub X274.here hx rfl (hb hby d4_321) rfl k) ?_
            refine gG X274 hx hby rfl (pc0 := 322) (pc' := 332) rfl d4_322 (by decide) (by decide) ?_
            show Go p e below s Q 2 4 (T274.setTop (mkF m 332 #[vr ps, vi fg, vj D0, sd, vj D1, sd, vr ea, vi v6, vi j7, vi j17, vi j27, vr b37, vi cn, vi rr_281, vi j305, vj v316, sd, vj p0, sd, vj p1, sd] [(.long (p0 - D0))]))
            have f347 := c_lsub p0 D0
            have f348 := rng64 (p0 - D0)
            exact J339 (p0 - D0) (by exact Or.inl ⟨by omega, by omega, rfl⟩)
          ·
            refine gY X274 hx hby rfl (pc0 := 313) (pc' := 325) rfl d4_313 rfl ((if0 _ _).trans (flt (fun q => (nltJ rfl rfl c345) ((lw_lt D0 v316).mp q))).2.1) (by decide) (by decide) ?_
            refine gB X274 hx hby rfl d4_325 rfl rfl ?_
            show Go p e below s Q 2 4 (T274.setTop (mkF m 327 #[vr ps, vi fg, vj D0, sd, vj D1, sd, vr ea, vi v6, vi j7, vi j17, vi j27, vr b37, vi cn, vi rr_281, vi j305, vj v316, sd, vj p0, sd, vj p1, sd] [(.ref ea)]))
            refine gI X274 hx hby rfl d4_327 ?_
            refine Go.st (Vec.ildJ X274 hx hZ rfl h285 (j := (0 : Int32)) (by decide) (by decide) (g := (mkF m 328 #[vr ps, vi fg, vj D0, sd, vj D1, sd, vr ea, vi v6, vi j7, vi j17, vi j27, vr b37, vi cn, vi rr_281, vi j305, vj v316, sd, vj p0, sd, vj p1, sd] [(.int (0 : Int32)), (.ref ea)])) rfl rfl (hb hby d4_328)) ?_
            refine gF X274 hx hby rfl d4_329 rfl ?_
            refine Go.st (fun _ k => XS.lsub X274.here hx rfl (hb hby d4_331) rfl k) ?_
            show Go p e below s Q 2 4 (T274.setTop (mkF m 332 #[vr ps, vi fg, vj D0, sd, vj D1, sd, vr ea, vi v6, vi j7, vi j17, vi j27, vr b37, vi cn, vi rr_281, vi j305, vj v316, sd, vj p0, sd, vj p1, sd] [(.long (p0 - v316))]))
            have f350 := c_lsub p0 v316
            have f351 := rng64 (p0 - v316)
            exact J339 (p0 - v316) (by exact Or.inr ⟨by omega, rfl⟩)
      intro j338 f352
      have f353 := rng64 j338
      refine gU X274 hx hby rfl d4_332 rfl (l' := #[vr ps, vi fg, vj D0, sd, vj D1, sd, vr ea, vi v6, vi j7, vi j17, vi j27, vr b37, vi cn, vi rr_281, vi j305, vj v316, sd, vj j338, sd, vj p1, sd]) rfl ?_
      refine gD X274 hx hby rfl d4_334 rfl ?_
      show Go p e below s Q 2 4 (T274.setTop (mkF m 336 #[vr ps, vi fg, vj D0, sd, vj D1, sd, vr ea, vi v6, vi j7, vi j17, vi j27, vr b37, vi cn, vi rr_281, vi j305, vj v316, sd, vj j338, sd, vj p1, sd] [(.int j17)]))
      suffices J355 : ∀ (j354 : Int64), ((j17.toInt = 1 ∧ D1.toInt < v316.toInt ∧ j354 = p1 - D1) ∨ (¬ (j17.toInt = 1 ∧ D1.toInt < v316.toInt) ∧ j354 = p1 - v316)) → Go p e below s Q 2 4 (T274.setTop (mkF m 364 #[vr ps, vi fg, vj D0, sd, vj D1, sd, vr ea, vi v6, vi j7, vi j17, vi j27, vr b37, vi cn, vi rr_281, vi j305, vj v316, sd, vj j338, sd, vj p1, sd] [(.long j354)])) by
        by_cases c357 : j17.toInt = 0
        ·
          refine gY X274 hx hby rfl (pc0 := 336) (pc' := 357) rfl d4_336 rfl ((if0 _ _).trans (teq (eqI rfl liI_0 c357)).1) (by decide) (by decide) ?_
          refine gB X274 hx hby rfl d4_357 rfl rfl ?_
          refine gI X274 hx hby rfl d4_359 ?_
          refine Go.st (Vec.ildJ X274 hx hZ rfl h285 (j := (1 : Int32)) (by decide) (by decide) (g := (mkF m 360 #[vr ps, vi fg, vj D0, sd, vj D1, sd, vr ea, vi v6, vi j7, vi j17, vi j27, vr b37, vi cn, vi rr_281, vi j305, vj v316, sd, vj j338, sd, vj p1, sd] [(.int (1 : Int32)), (.ref ea)])) rfl rfl (hb hby d4_360)) ?_
          refine gF X274 hx hby rfl d4_361 rfl ?_
          refine Go.st (fun _ k => XS.lsub X274.here hx rfl (hb hby d4_363) rfl k) ?_
          show Go p e below s Q 2 4 (T274.setTop (mkF m 364 #[vr ps, vi fg, vj D0, sd, vj D1, sd, vr ea, vi v6, vi j7, vi j17, vi j27, vr b37, vi cn, vi rr_281, vi j305, vj v316, sd, vj j338, sd, vj p1, sd] [(.long (p1 - v316))]))
          have f359 := c_lsub p1 v316
          have f360 := rng64 (p1 - v316)
          exact J355 (p1 - v316) (by exact Or.inr ⟨by omega, rfl⟩)
        ·
          refine gN X274 hx hby rfl d4_336 rfl ((if0 _ _).trans (feq (neI rfl liI_0 c357)).1) ?_
          refine gF X274 hx hby rfl d4_339 rfl ?_
          refine gF X274 hx hby rfl d4_341 rfl ?_
          refine gL X274 hx hby rfl d4_343 rfl ?_
          by_cases c361 : D1.toInt < v316.toInt
          ·
            refine gN X274 hx hby rfl d4_344 rfl ((if0 _ _).trans (tlt ((lw_lt D1 v316).mpr (ltJ rfl rfl c361))).2.1) ?_
            refine gB X274 hx hby rfl d4_347 rfl rfl ?_
            show Go p e below s Q 2 4 (T274.setTop (mkF m 349 #[vr ps, vi fg, vj D0, sd, vj D1, sd, vr ea, vi v6, vi j7, vi j17, vi j27, vr b37, vi cn, vi rr_281, vi j305, vj v316, sd, vj j338, sd, vj p1, sd] [(.ref ea)]))
            refine gI X274 hx hby rfl d4_349 ?_
            refine Go.st (Vec.ildJ X274 hx hZ rfl h285 (j := (1 : Int32)) (by decide) (by decide) (g := (mkF m 350 #[vr ps, vi fg, vj D0, sd, vj D1, sd, vr ea, vi v6, vi j7, vi j17, vi j27, vr b37, vi cn, vi rr_281, vi j305, vj v316, sd, vj j338, sd, vj p1, sd] [(.int (1 : Int32)), (.ref ea)])) rfl rfl (hb hby d4_350)) ?_
            refine gF X274 hx hby rfl d4_351 rfl ?_
            refine Go.st (fun _ k => XS.lsub X274.here hx rfl (hb hby d4_353) rfl k) ?_
            refine gG X274 hx hby rfl (pc0 := 354) (pc' := 364) rfl d4_354 (by decide) (by decide) ?_
            show Go p e below s Q 2 4 (T274.setTop (mkF m 364 #[vr ps, vi fg, vj D0, sd, vj D1, sd, vr ea, vi v6, vi j7, vi j17, vi j27, vr b37, vi cn, vi rr_281, vi j305, vj v316, sd, vj j338, sd, vj p1, sd] [(.long (p1 - D1))]))
            have f363 := c_lsub p1 D1
            have f364 := rng64 (p1 - D1)
            exact J355 (p1 - D1) (by exact Or.inl ⟨by omega, by omega, rfl⟩)
          ·
            refine gY X274 hx hby rfl (pc0 := 344) (pc' := 357) rfl d4_344 rfl ((if0 _ _).trans (flt (fun q => (nltJ rfl rfl c361) ((lw_lt D1 v316).mp q))).2.1) (by decide) (by decide) ?_
            refine gB X274 hx hby rfl d4_357 rfl rfl ?_
            show Go p e below s Q 2 4 (T274.setTop (mkF m 359 #[vr ps, vi fg, vj D0, sd, vj D1, sd, vr ea, vi v6, vi j7, vi j17, vi j27, vr b37, vi cn, vi rr_281, vi j305, vj v316, sd, vj j338, sd, vj p1, sd] [(.ref ea)]))
            refine gI X274 hx hby rfl d4_359 ?_
            refine Go.st (Vec.ildJ X274 hx hZ rfl h285 (j := (1 : Int32)) (by decide) (by decide) (g := (mkF m 360 #[vr ps, vi fg, vj D0, sd, vj D1, sd, vr ea, vi v6, vi j7, vi j17, vi j27, vr b37, vi cn, vi rr_281, vi j305, vj v316, sd, vj j338, sd, vj p1, sd] [(.int (1 : Int32)), (.ref ea)])) rfl rfl (hb hby d4_360)) ?_
            refine gF X274 hx hby rfl d4_361 rfl ?_
            refine Go.st (fun _ k => XS.lsub X274.here hx rfl (hb hby d4_363) rfl k) ?_
            show Go p e below s Q 2 4 (T274.setTop (mkF m 364 #[vr ps, vi fg, vj D0, sd, vj D1, sd, vr ea, vi v6, vi j7, vi j17, vi j27, vr b37, vi cn, vi rr_281, vi j305, vj v316, sd, vj j338, sd, vj p1, sd] [(.long (p1 - v316))]))
            have f366 := c_lsub p1 v316
            have f367 := rng64 (p1 - v316)
            exact J355 (p1 - v316) (by exact Or.inr ⟨by omega, rfl⟩)
      intro j354 f368
      have f369 := rng64 j354
      refine gU X274 hx hby rfl d4_364 rfl (l' := #[vr ps, vi fg, vj D0, sd, vj D1, sd, vr ea, vi v6, vi j7, vi j17, vi j27, vr b37, vi cn, vi rr_281, vi j305, vj v316, sd, vj j338, sd, vj j354, sd]) rfl ?_
      refine gB X274 hx hby rfl d4_366 rfl rfl ?_
      refine gI X274 hx hby rfl d4_368 ?_
      refine gF X274 hx hby rfl d4_369 rfl ?_
      obtain ⟨T370, h370, X370, e370, W370, V370, st370⟩ := Vec.istJ X274 hx hZ rfl h285 (j := (0 : Int32)) (by decide) (by decide) (g := (mkF m 371 #[vr ps, vi fg, vj D0, sd, vj D1, sd, vr ea, vi v6, vi j7, vi j17, vi j27, vr b37, vi cn, vi rr_281, vi j305, vj v316, sd, vj j338, sd, vj j354, sd] [(.long j338), (.int (0 : Int32)), (.ref ea)])) rfl rfl (hb hby d4_371)
      have h371 : SV Z h370 ps q ks js ss po di ma se kf jf n0 sv2_113 w0x_114 w1x_115 := h284.other2 W370 (fun so q => vec_tne (h284.2 so q).1 h285 (by decide))
      have h372 : Vec Z h370 ea .long (2 : Int32) (longs (lst [j338, p1])) := Vec.of_eq V370 (congrArg longs (upd_lst _ 0 _ (Nat.le_of_ble_eq_true rfl)))
      have h373 : Vec Z h370 b37 .int (2 : Int32) (ints (lst [u0, u1])) := h286.other W370 (Ne.symm q41)
      have h374 : PSt Z h370 ps q ks js ss po di ma se kf jf mk2_108 scg en2_109 ts2_110 slg stg lmg p0x_279 p1x_280 d0a d1a m0g m1g s0g s1g szg KFg JFg sng lag sv2_113 := h283.other W370 out_ea nr_ea
      have K370 : Lk h0 h370 := K274.wr W370
      have N370 := Fr.snoc X370 N274 G_ea
      refine Go.st st370 ?_
      show Go p e below s Q 2 4 (T370.setTop (mkF m 372 #[vr ps, vi fg, vj D0, sd, vj D1, sd, vr ea, vi v6, vi j7, vi j17, vi j27, vr b37, vi cn, vi rr_281, vi j305, vj v316, sd, vj j338, sd, vj j354, sd] []))
      refine gB X370 hx hby rfl d4_372 rfl rfl ?_
      refine gI X370 hx hby rfl d4_374 ?_
      refine gF X370 hx hby rfl d4_375 rfl ?_
      obtain ⟨T375, h375, X375, e375, W375, V375, st375⟩ := Vec.istJ X370 hx hZ e370 h372 (j := (1 : Int32)) (by decide) (by decide) (g := (mkF m 377 #[vr ps, vi fg, vj D0, sd, vj D1, sd, vr ea, vi v6, vi j7, vi j17, vi j27, vr b37, vi cn, vi rr_281, vi j305, vj v316, sd, vj j338, sd, vj j354, sd] [(.long j354), (.int (1 : Int32)), (.ref ea)])) rfl rfl (hb hby d4_377)
      have h376 : SV Z h375 ps q ks js ss po di ma se kf jf n0 sv2_113 w0x_114 w1x_115 := h371.other2 W375 (fun so q => vec_tne (h371.2 so q).1 h372 (by decide))
      have h377 : Vec Z h375 ea .long (2 : Int32) (longs (lst [j338, j354])) := Vec.of_eq V375 (congrArg longs (upd_lst _ 1 _ (Nat.le_of_ble_eq_true rfl)))
      have h378 : Vec Z h375 b37 .int (2 : Int32) (ints (lst [u0, u1])) := h373.other W375 (Ne.symm q41)
      have h379 : PSt Z h375 ps q ks js ss po di ma se kf jf mk2_108 scg en2_109 ts2_110 slg stg lmg p0x_279 p1x_280 d0a d1a m0g m1g s0g s1g szg KFg JFg sng lag sv2_113 := h374.other W375 out_ea nr_ea
      have K375 : Lk h0 h375 := K370.wr W375
      have N375 := Fr.snoc X375 N370 G_ea
      refine Go.st st375 ?_
      show Go p e below s Q 2 4 (T375.setTop (mkF m 378 #[vr ps, vi fg, vj D0, sd, vj D1, sd, vr ea, vi v6, vi j7, vi j17, vi j27, vr b37, vi cn, vi rr_281, vi j305, vj v316, sd, vj j338, sd, vj j354, sd] []))
      refine gA X375 hx hby rfl d4_378 rfl rfl ?_
      refine gI X375 hx hby rfl d4_379 ?_
      have f381 := rng64 p0x_279
      have f382 := rng64 p1x_280
      obtain ⟨cq380, kq380, q380a, q380b, q380c⟩ := isOf hZ e375 h379.1.1
      obtain ⟨_, _, ⟨T380, L380, k380, n380⟩, -, X380, ⟨Lc380, hQ380, l380, y380, z380⟩, st380⟩ := X375.virtualBack hx (y := (⟨cP, "potential", "(I)J"⟩ : MethodName)) (z := (⟨cP, "potential", "(I)J"⟩ : MethodName)) hown (mvT hZ (tb hw 88 rfl)) (mvT hZ (tb hw 89 rfl)) (notFace_of_selects (args := #[]) (mvT hZ (tb hw 91 rfl))) (mvT hZ (tb hw 91 rfl)) (mvT hZ (tb hw 90 rfl)) (by decide) (backOf (W := 0) (rmpt0 l Z a0 hw [] ps q ks js ss po di ma se kf jf mk2_108 scg en2_109 ts2_110 slg stg lmg p0x_279 p1x_280 d0a d1a m0g m1g s0g s1g szg KFg JFg sng lag sv2_113 h375 n0 (Nat.le_trans Z0 K375.1) h379 hPs) hZ (tb hw 92 rfl) (tb hw 2 rfl) (by decide) (by decide)) q380a q380c (g := (mkF m 380 #[vr ps, vi fg, vj D0, sd, vj D1, sd, vr ea, vi v6, vi j7, vi j17, vi j27, vr b37, vi cn, vi rr_281, vi j305, vj v316, sd, vj j338, sd, vj j354, sd] [(.int (0 : Int32)), (.ref ps)])) rfl (by rw [hml]; rfl) (Steps.refl _) (argsL := [(.int (0 : Int32))]) (rest := []) (lenOf pd_11 rfl) rfl (by show 2 * 0 + _ ≤ _; exact Nat.le_of_eq rfl) (hb hby d4_380) (fun _ _ => ⟨rfl, e375, (by decide : 2 + 0 ≤ _), (by decide : 4 + 0 ≤ _)⟩)
      dsimp only [Pt.U, Pt.locs, Pt.cells, Pt.slots] at X380 l380 y380 z380 st380 hQ380
      subst y380 z380
      obtain ⟨rfl, N380q, e380⟩ := hQ380
      have N380 : Fr n0 L380 := by rw [l380]; exact Fr.app N375 N380q
      refine Go.tr  st380 ?_
      show Go p e below s Q 2 4 (T380.setTop (mkF m 383 #[vr ps, vi fg, vj D0, sd, vj D1, sd, vr ea, vi v6, vi j7, vi j17, vi j27, vr b37, vi cn, vi rr_281, vi j305, vj v316, sd, vj j338, sd, vj j354, sd] [(.long p0x_279)]))
      have hF0 : p0x_279 = j338 := Gs.pot0 hpg182_0 f282 (hgot.trans (Or.resolve_left hj01 c321)) hLI f352
      have hE0 : p0x_279.toInt = j338.toInt := congrArg Int64.toInt hF0
      refine gF X380 hx hby rfl d4_383 rfl ?_
      refine gL X380 hx hby rfl d4_385 rfl ?_
      have c383 : p0x_279.toInt = j338.toInt := by omega
      refine gN X380 hx hby rfl d4_386 rfl ((if0 _ _).trans (teq ((lw_eq p0x_279 j338).mpr (eqJ rfl rfl c383))).2) ?_
      refine gA X380 hx hby rfl d4_389 rfl rfl ?_
      refine gI X380 hx hby rfl d4_390 ?_
      obtain ⟨cq384, kq384, q384a, q384b, q384c⟩ := isOf hZ e380 h379.1.1
      obtain ⟨_, _, ⟨T384, L384, k384, n384⟩, -, X384, ⟨Lc384, hQ384, l384, y384, z384⟩, st384⟩ := X380.virtualBack hx (y := (⟨cP, "potential", "(I)J"⟩ : MethodName)) (z := (⟨cP, "potential", "(I)J"⟩ : MethodName)) hown (mvT hZ (tb hw 88 rfl)) (mvT hZ (tb hw 89 rfl)) (notFace_of_selects (args := #[]) (mvT hZ (tb hw 91 rfl))) (mvT hZ (tb hw 91 rfl)) (mvT hZ (tb hw 90 rfl)) (by decide) (backOf (W := 0) (rmpt1 l Z a0 hw [] ps q ks js ss po di ma se kf jf mk2_108 scg en2_109 ts2_110 slg stg lmg p0x_279 p1x_280 d0a d1a m0g m1g s0g s1g szg KFg JFg sng lag sv2_113 h375 n0 (Nat.le_trans Z0 K375.1) h379 hPs) hZ (tb hw 92 rfl) (tb hw 2 rfl) (by decide) (by decide)) q384a q384c (g := (mkF m 391 #[vr ps, vi fg, vj D0, sd, vj D1, sd, vr ea, vi v6, vi j7, vi j17, vi j27, vr b37, vi cn, vi rr_281, vi j305, vj v316, sd, vj j338, sd, vj j354, sd] [(.int (1 : Int32)), (.ref ps)])) rfl (by rw [hml]; rfl) (Steps.refl _) (argsL := [(.int (1 : Int32))]) (rest := []) (lenOf pd_11 rfl) rfl (by show 2 * 0 + _ ≤ _; exact Nat.le_of_eq rfl) (hb hby d4_391) (fun _ _ => ⟨rfl, e380, (by decide : 2 + 0 ≤ _), (by decide : 4 + 0 ≤ _)⟩)
      dsimp only [Pt.U, Pt.locs, Pt.cells, Pt.slots] at X384 l384 y384 z384 st384 hQ384
      subst y384 z384
      obtain ⟨rfl, N384q, e384⟩ := hQ384
      have N384 : Fr n0 L384 := by rw [l384]; exact Fr.app N380 N384q
      refine Go.tr  st384 ?_
      show Go p e below s Q 2 4 (T384.setTop (mkF m 394 #[vr ps, vi fg, vj D0, sd, vj D1, sd, vr ea, vi v6, vi j7, vi j17, vi j27, vr b37, vi cn, vi rr_281, vi j305, vj v316, sd, vj j338, sd, vj j354, sd] [(.long p1x_280)]))
      have hF1 : p1x_280 = j354 := Gs.pot1 hpg182_0 f282 (hgot.trans (Or.resolve_left hj01 c321)) hLI f368
      have hE1 : p1x_280.toInt = j354.toInt := congrArg Int64.toInt hF1
      refine gF X384 hx hby rfl d4_394 rfl ?_
      refine gL X384 hx hby rfl d4_396 rfl ?_
      have c385 : p1x_280.toInt = j354.toInt := by omega
      refine gN X384 hx hby rfl d4_397 rfl ((if0 _ _).trans (teq ((lw_eq p1x_280 j354).mpr (eqJ rfl rfl c385))).2) ?_
      refine gI X384 hx hby rfl d4_400 ?_
      refine gG X384 hx hby rfl (pc0 := 401) (pc' := 405) rfl d4_401 (by decide) (by decide) ?_
      show Go p e below s Q 2 4 (T384.setTop (mkF m 405 #[vr ps, vi fg, vj D0, sd, vj D1, sd, vr ea, vi v6, vi j7, vi j17, vi j27, vr b37, vi cn, vi rr_281, vi j305, vj v316, sd, vj j338, sd, vj j354, sd] [(.int (1 : Int32))]))
      exact Go.retN X384 hx hlk (by simp) Bd.returns (hb hby d4_405) (z' := (1 : Int32)) (by decide) (by rw [← hQ, e384]; exact ⟨mk2_108, scg, en2_109, ts2_110, slg, stg, lmg, p0x_279, p1x_280, d0a, d1a, m0g, m1g, s0g, s1g, szg, KFg, JFg, sng, lag, sv2_113, w0x_114, w1x_115, (1 : Int32), rfl, N384, (by omega), (by omega), K375, h379, h376, (by have hh := h377; rw [hF0, hF1]; exact hh)⟩) (by decide) (by decide)
  ·
    refine gZ X274 hx hby rfl (pc0 := 184) (pc' := 246) rfl d4_184 rfl (feq (neI rfl liI_1 c289)).2 (by decide) (by decide) ?_
    show Go p e below s Q 2 4 (T274.setTop (mkF m 246 #[vr ps, vi fg, vj D0, sd, vj D1, sd, vr ea, vi v6, vi j7, vi j17, vi j27, vr b37, vi cn, vi rr_281, un, un, un, un, un, un, un] []))
    have hB := kd2 f119 c289
    clear hpg46_0 f119
    refine gD X274 hx hby rfl d4_246 rfl ?_
    show Go p e below s Q 2 4 (T274.setTop (mkF m 248 #[vr ps, vi fg, vj D0, sd, vj D1, sd, vr ea, vi v6, vi j7, vi j17, vi j27, vr b37, vi cn, vi rr_281, un, un, un, un, un, un, un] [(.int j27)]))
    suffices J387 : ∀ (j386 : Int32), ((j386.toInt = 1 ∧ j27.toInt = 1 ∧ j7.toInt = 1 ∧ j17.toInt = 1) ∨ (j386.toInt = 0 ∧ ¬ (j27.toInt = 1 ∧ j7.toInt = 1 ∧ j17.toInt = 1))) → Go p e below s Q 2 4 (T274.setTop (mkF m 266 #[vr ps, vi fg, vj D0, sd, vj D1, sd, vr ea, vi v6, vi j7, vi j17, vi j27, vr b37, vi cn, vi rr_281, un, un, un, un, un, un, un] [(.int j386)])) by
      have f389 := liI_0
      by_cases c390 : j27.toInt = 0
      ·
        refine gY X274 hx hby rfl (pc0 := 248) (pc' := 265) rfl d4_248 rfl ((if0 _ _).trans (teq (eqI rfl liI_0 c390)).1) (by decide) (by decide) ?_
        refine gI X274 hx hby rfl d4_265 ?_
        show Go p e below s Q 2 4 (T274.setTop (mkF m 266 #[vr ps, vi fg, vj D0, sd, vj D1, sd, vr ea, vi v6, vi j7, vi j17, vi j27, vr b37, vi cn, vi rr_281, un, un, un, un, un, un, un] [(.int (0 : Int32))]))
        exact J387 (0 : Int32) (by omega)
      ·
        refine gN X274 hx hby rfl d4_248 rfl ((if0 _ _).trans (feq (neI rfl liI_0 c390)).1) ?_
        refine gD X274 hx hby rfl d4_251 rfl ?_
        by_cases c391 : j7.toInt = 0
        ·
          refine gY X274 hx hby rfl (pc0 := 253) (pc' := 265) rfl d4_253 rfl ((if0 _ _).trans (teq (eqI rfl liI_0 c391)).1) (by decide) (by decide) ?_
          refine gI X274 hx hby rfl d4_265 ?_
          show Go p e below s Q 2 4 (T274.setTop (mkF m 266 #[vr ps, vi fg, vj D0, sd, vj D1, sd, vr ea, vi v6, vi j7, vi j17, vi j27, vr b37, vi cn, vi rr_281, un, un, un, un, un, un, un] [(.int (0 : Int32))]))
          exact J387 (0 : Int32) (by omega)
        ·
          refine gN X274 hx hby rfl d4_253 rfl ((if0 _ _).trans (feq (neI rfl liI_0 c391)).1) ?_
          refine gD X274 hx hby rfl d4_256 rfl ?_
          by_cases c392 : j17.toInt = 0
          ·
            refine gY X274 hx hby rfl (pc0 := 258) (pc' := 265) rfl d4_258 rfl ((if0 _ _).trans (teq (eqI rfl liI_0 c392)).1) (by decide) (by decide) ?_
            refine gI X274 hx hby rfl d4_265 ?_
            show Go p e below s Q 2 4 (T274.setTop (mkF m 266 #[vr ps, vi fg, vj D0, sd, vj D1, sd, vr ea, vi v6, vi j7, vi j17, vi j27, vr b37, vi cn, vi rr_281, un, un, un, un, un, un, un] [(.int (0 : Int32))]))
            exact J387 (0 : Int32) (by omega)
          ·
            refine gN X274 hx hby rfl d4_258 rfl ((if0 _ _).trans (feq (neI rfl liI_0 c392)).1) ?_
            refine gI X274 hx hby rfl d4_261 ?_
            show Go p e below s Q 2 4 (T274.setTop (mkF m 262 #[vr ps, vi fg, vj D0, sd, vj D1, sd, vr ea, vi v6, vi j7, vi j17, vi j27, vr b37, vi cn, vi rr_281, un, un, un, un, un, un, un] [(.int (1 : Int32))]))
            refine gG X274 hx hby rfl (pc0 := 262) (pc' := 266) rfl d4_262 (by decide) (by decide) ?_
            show Go p e below s Q 2 4 (T274.setTop (mkF m 266 #[vr ps, vi fg, vj D0, sd, vj D1, sd, vr ea, vi v6, vi j7, vi j17, vi j27, vr b37, vi cn, vi rr_281, un, un, un, un, un, un, un] [(.int (1 : Int32))]))
            exact J387 (1 : Int32) (by omega)
    intro j386 f393
    have f394 := rng32 j386
    refine gS X274 hx hby rfl d4_266 rfl (l' := #[vr ps, vi fg, vj D0, sd, vj D1, sd, vr ea, vi v6, vi j7, vi j17, vi j27, vr b37, vi cn, vi rr_281, vi j386, un, un, un, un, un, un]) rfl ?_
    refine gE X274 hx hby rfl d4_268 rfl ?_
    refine gF X274 hx hby rfl d4_269 rfl ?_
    obtain ⟨_, _, ⟨T395, L395, k395, n395⟩, -, X395, ⟨Lc395, hQ395, l395, y395, z395⟩, st395⟩ := Jvm.LawKit.callS X274 hx (y := (⟨"java/lang/Math", "max", "(JJ)J"⟩ : MethodName)) hown (mvT hZ (tb hw 155 rfl)) (mvT hZ (tb hw 156 rfl)) (mvT hZ (tb hw 140 rfl)) (mvT hZ (tb hw 157 rfl)) (by decide) (backOf (W := 0) (rm23 l Z a0 hw [] D0 D1 T274.heap n0 (Nat.le_trans Z0 K274.1) ) hZ (tb hw 157 rfl) (tb hw 140 rfl) (by decide) (by decide)) (g := (mkF m 271 #[vr ps, vi fg, vj D0, sd, vj D1, sd, vr ea, vi v6, vi j7, vi j17, vi j27, vr b37, vi cn, vi rr_281, vi j386, un, un, un, un, un, un] [(.long D1), (.long D0)])) rfl (by rw [hml]; rfl) (argsL := [(.long D0), (.long D1)]) (rest := []) (lenOf pd_4 rfl) rfl (by show 2 * 0 + _ ≤ _; exact Nat.le_of_eq rfl) (hb hby d4_271) (fun _ _ => ⟨rfl, rfl, (by decide : 2 + 0 ≤ _), (by decide : 4 + 0 ≤ _)⟩)
    dsimp only [Pt.U, Pt.locs, Pt.cells, Pt.slots] at X395 l395 y395 z395 st395 hQ395
    subst y395 z395
    obtain ⟨rr_396, rfl, N395q, f397, e395⟩ := hQ395
    have N395 : Fr n0 L395 := by rw [l395]; exact Fr.app N274 N395q
    refine Go.st st395 ?_
    show Go p e below s Q 2 4 (T395.setTop (mkF m 274 #[vr ps, vi fg, vj D0, sd, vj D1, sd, vr ea, vi v6, vi j7, vi j17, vi j27, vr b37, vi cn, vi rr_281, vi j386, un, un, un, un, un, un] [(.long rr_396)]))
    have f398 := rng64 rr_396
    refine Go.st (fun _ k => XS.lconst X395.here hx rfl (hb hby d4_274) k) ?_
    refine Go.st (fun _ k => XS.ladd X395.here hx rfl (hb hby d4_275) rfl k) ?_
    refine gU X395 hx hby rfl d4_276 rfl (l' := #[vr ps, vi fg, vj D0, sd, vj D1, sd, vr ea, vi v6, vi j7, vi j17, vi j27, vr b37, vi cn, vi rr_281, vi j386, vj (rr_396 + (1 : Int64)), sd, un, un, un, un]) rfl ?_
    show Go p e below s Q 2 4 (T395.setTop (mkF m 278 #[vr ps, vi fg, vj D0, sd, vj D1, sd, vr ea, vi v6, vi j7, vi j17, vi j27, vr b37, vi cn, vi rr_281, vi j386, vj (rr_396 + (1 : Int64)), sd, un, un, un, un] []))
    have f399 := liJ_1
    have f400 := c_ladd rr_396 (1 : Int64)
    have f401 := rng64 (rr_396 + (1 : Int64))
    generalize hv_v402 : (rr_396 + (1 : Int64)) = v402 at f400 f401 ⊢
    have hRE : (j386.toInt = 1 ∧ RE j27 j7 j17 en2_109 ts2_110) ∨ (j386.toInt = 0 ∧ ¬ RE j27 j7 j17 en2_109 ts2_110) := re2 hB f393
    have hds : 0 ≤ rr_396.toInt ∧ rr_396.toInt < 2305843009213693952 := by rcases f397 with q | q <;> omega
    have hLI : LI v402.toInt en2_109 ts2_110 D0 D1 := li2 hB f397 (by omega)
    have hgot : rr_281.toInt = j386.toInt := Gs.got hpg182_0 f282 hRE
    have hj01 : j386.toInt = 0 ∨ j386.toInt = 1 := hRE.elim (fun q => Or.inr q.1) (fun q => Or.inl q.1)
    refine gD X395 hx hby rfl d4_278 rfl ?_
    refine gD X395 hx hby rfl d4_280 rfl ?_
    have c403 : rr_281.toInt = j386.toInt := by omega
    refine gZ X395 hx hby rfl (pc0 := 282) (pc' := 287) rfl d4_282 rfl (teq (eqI rfl rfl c403)).1 (by decide) (by decide) ?_
    refine gB X395 hx hby rfl d4_287 rfl rfl ?_
    refine gI X395 hx hby rfl d4_289 ?_
    refine Go.st (Vec.ildJ X395 hx hZ e395 h285 (j := (0 : Int32)) (by decide) (by decide) (g := (mkF m 290 #[vr ps, vi fg, vj D0, sd, vj D1, sd, vr ea, vi v6, vi j7, vi j17, vi j27, vr b37, vi cn, vi rr_281, vi j386, vj v402, sd, un, un, un, un] [(.int (0 : Int32)), (.ref ea)])) rfl rfl (hb hby d4_290)) ?_
    show Go p e below s Q 2 4 (T395.setTop (mkF m 291 #[vr ps, vi fg, vj D0, sd, vj D1, sd, vr ea, vi v6, vi j7, vi j17, vi j27, vr b37, vi cn, vi rr_281, vi j386, vj v402, sd, un, un, un, un] [(.long p0)]))
    refine gU X395 hx hby rfl d4_291 rfl (l' := #[vr ps, vi fg, vj D0, sd, vj D1, sd, vr ea, vi v6, vi j7, vi j17, vi j27, vr b37, vi cn, vi rr_281, vi j386, vj v402, sd, vj p0, sd, un, un]) rfl ?_
    refine gB X395 hx hby rfl d4_293 rfl rfl ?_
    refine gI X395 hx hby rfl d4_295 ?_
    refine Go.st (Vec.ildJ X395 hx hZ e395 h285 (j := (1 : Int32)) (by decide) (by decide) (g := (mkF m 296 #[vr ps, vi fg, vj D0, sd, vj D1, sd, vr ea, vi v6, vi j7, vi j17, vi j27, vr b37, vi cn, vi rr_281, vi j386, vj v402, sd, vj p0, sd, un, un] [(.int (1 : Int32)), (.ref ea)])) rfl rfl (hb hby d4_296)) ?_
    refine gU X395 hx hby rfl d4_297 rfl (l' := #[vr ps, vi fg, vj D0, sd, vj D1, sd, vr ea, vi v6, vi j7, vi j17, vi j27, vr b37, vi cn, vi rr_281, vi j386, vj v402, sd, vj p0, sd, vj p1, sd]) rfl ?_
    refine gD X395 hx hby rfl d4_299 rfl ?_
    show Go p e below s Q 2 4 (T395.setTop (mkF m 301 #[vr ps, vi fg, vj D0, sd, vj D1, sd, vr ea, vi v6, vi j7, vi j17, vi j27, vr b37, vi cn, vi rr_281, vi j386, vj v402, sd, vj p0, sd, vj p1, sd] [(.int j386)]))
    have f406 := liI_0
    by_cases c407 : j386.toInt = 0
    ·
      refine gY X395 hx hby rfl (pc0 := 301) (pc' := 366) rfl d4_301 rfl ((if0 _ _).trans (teq (eqI rfl liI_0 c407)).1) (by decide) (by decide) ?_
      refine gB X395 hx hby rfl d4_366 rfl rfl ?_
      refine gI X395 hx hby rfl d4_368 ?_
      refine gF X395 hx hby rfl d4_369 rfl ?_
      obtain ⟨T408, h408, X408, e408, W408, V408, st408⟩ := Vec.istJ X395 hx hZ e395 h285 (j := (0 : Int32)) (by decide) (by decide) (g := (mkF m 371 #[vr ps, vi fg, vj D0, sd, vj D1, sd, vr ea, vi v6, vi j7, vi j17, vi j27, vr b37, vi cn, vi rr_281, vi j386, vj v402, sd, vj p0, sd, vj p1, sd] [(.long p0), (.int (0 : Int32)), (.ref ea)])) rfl rfl (hb hby d4_371)
      have h409 : SV Z h408 ps q ks js ss po di ma se kf jf n0 sv2_113 w0x_114 w1x_115 := h284.other2 W408 (fun so q => vec_tne (h284.2 so q).1 h285 (by decide))
      have h410 : Vec Z h408 ea .long (2 : Int32) (longs (lst [p0, p1])) := Vec.of_eq V408 (congrArg longs (upd_lst _ 0 _ (Nat.le_of_ble_eq_true rfl)))
      have h411 : Vec Z h408 b37 .int (2 : Int32) (ints (lst [u0, u1])) := h286.other W408 (Ne.symm q41)
      have h412 : PSt Z h408 ps q ks js ss po di ma se kf jf mk2_108 scg en2_109 ts2_110 slg stg lmg p0x_279 p1x_280 d0a d1a m0g m1g s0g s1g szg KFg JFg sng lag sv2_113 := h283.other W408 out_ea nr_ea
      have K408 : Lk h0 h408 := K274.wr W408
      have N408 := Fr.snoc X408 N395 G_ea
      refine Go.st st408 ?_
      show Go p e below s Q 2 4 (T408.setTop (mkF m 372 #[vr ps, vi fg, vj D0, sd, vj D1, sd, vr ea, vi v6, vi j7, vi j17, vi j27, vr b37, vi cn, vi rr_281, vi j386, vj v402, sd, vj p0, sd, vj p1, sd] []))
      refine gB X408 hx hby rfl d4_372 rfl rfl ?_
      refine gI X408 hx hby rfl d4_374 ?_
      refine gF X408 hx hby rfl d4_375 rfl ?_
      obtain ⟨T413, h413, X413, e413, W413, V413, st413⟩ := Vec.istJ X408 hx hZ e408 h410 (j := (1 : Int32)) (by decide) (by decide) (g := (mkF m 377 #[vr ps, vi fg, vj D0, sd, vj D1, sd, vr ea, vi v6, vi j7, vi j17, vi j27, vr b37, vi cn, vi rr_281, vi j386, vj v402, sd, vj p0, sd, vj p1, sd] [(.long p1), (.int (1 : Int32)), (.ref ea)])) rfl rfl (hb hby d4_377)
      have h414 : SV Z h413 ps q ks js ss po di ma se kf jf n0 sv2_113 w0x_114 w1x_115 := h409.other2 W413 (fun so q => vec_tne (h409.2 so q).1 h410 (by decide))
      have h415 : Vec Z h413 ea .long (2 : Int32) (longs (lst [p0, p1])) := Vec.of_eq V413 (congrArg longs (upd_lst _ 1 _ (Nat.le_of_ble_eq_true rfl)))
      have h416 : Vec Z h413 b37 .int (2 : Int32) (ints (lst [u0, u1])) := h411.other W413 (Ne.symm q41)
      have h417 : PSt Z h413 ps q ks js ss po di ma se kf jf mk2_108 scg en2_109 ts2_110 slg stg lmg p0x_279 p1x_280 d0a d1a m0g m1g s0g s1g szg KFg JFg sng lag sv2_113 := h412.other W413 out_ea nr_ea
      have K413 : Lk h0 h413 := K408.wr W413
      have N413 := Fr.snoc X413 N408 G_ea
      refine Go.st st413 ?_
      show Go p e below s Q 2 4 (T413.setTop (mkF m 378 #[vr ps, vi fg, vj D0, sd, vj D1, sd, vr ea, vi v6, vi j7, vi j17, vi j27, vr b37, vi cn, vi rr_281, vi j386, vj v402, sd, vj p0, sd, vj p1, sd] []))
      refine gA X413 hx hby rfl d4_378 rfl rfl ?_
      refine gI X413 hx hby rfl d4_379 ?_
      have f419 := rng64 p0x_279
      have f420 := rng64 p1x_280
      obtain ⟨cq418, kq418, q418a, q418b, q418c⟩ := isOf hZ e413 h417.1.1
      obtain ⟨_, _, ⟨T418, L418, k418, n418⟩, -, X418, ⟨Lc418, hQ418, l418, y418, z418⟩, st418⟩ := X413.virtualBack hx (y := (⟨cP, "potential", "(I)J"⟩ : MethodName)) (z := (⟨cP, "potential", "(I)J"⟩ : MethodName)) hown (mvT hZ (tb hw 88 rfl)) (mvT hZ (tb hw 89 rfl)) (notFace_of_selects (args := #[]) (mvT hZ (tb hw 91 rfl))) (mvT hZ (tb hw 91 rfl)) (mvT hZ (tb hw 90 rfl)) (by decide) (backOf (W := 0) (rmpt0 l Z a0 hw [] ps q ks js ss po di ma se kf jf mk2_108 scg en2_109 ts2_110 slg stg lmg p0x_279 p1x_280 d0a d1a m0g m1g s0g s1g szg KFg JFg sng lag sv2_113 h413 n0 (Nat.le_trans Z0 K413.1) h417 hPs) hZ (tb hw 92 rfl) (tb hw 2 rfl) (by decide) (by decide)) q418a q418c (g := (mkF m 380 #[vr ps, vi fg, vj D0, sd, vj D1, sd, vr ea, vi v6, vi j7, vi j17, vi j27, vr b37, vi cn, vi rr_281, vi j386, vj v402, sd, vj p0, sd, vj p1, sd] [(.int (0 : Int32)), (.ref ps)])) rfl (by rw [hml]; rfl) (Steps.refl _) (argsL := [(.int (0 : Int32))]) (rest := []) (lenOf pd_11 rfl) rfl (by show 2 * 0 + _ ≤ _; exact Nat.le_of_eq rfl) (hb hby d4_380) (fun _ _ => ⟨rfl, e413, (by decide : 2 + 0 ≤ _), (by decide : 4 + 0 ≤ _)⟩)
      dsimp only [Pt.U, Pt.locs, Pt.cells, Pt.slots] at X418 l418 y418 z418 st418 hQ418
      subst y418 z418
      obtain ⟨rfl, N418q, e418⟩ := hQ418
      have N418 : Fr n0 L418 := by rw [l418]; exact Fr.app N413 N418q
      refine Go.tr  st418 ?_
      show Go p e below s Q 2 4 (T418.setTop (mkF m 383 #[vr ps, vi fg, vj D0, sd, vj D1, sd, vr ea, vi v6, vi j7, vi j17, vi j27, vr b37, vi cn, vi rr_281, vi j386, vj v402, sd, vj p0, sd, vj p1, sd] [(.long p0x_279)]))
      have hF0 : p0x_279 = p0 := (Gs.same f282 (hgot.trans c407)).1
      have hE0 : p0x_279.toInt = p0.toInt := congrArg Int64.toInt hF0
      refine gF X418 hx hby rfl d4_383 rfl ?_
      refine gL X418 hx hby rfl d4_385 rfl ?_
      have c421 : p0x_279.toInt = p0.toInt := by omega
      refine gN X418 hx hby rfl d4_386 rfl ((if0 _ _).trans (teq ((lw_eq p0x_279 p0).mpr (eqJ rfl rfl c421))).2) ?_
      refine gA X418 hx hby rfl d4_389 rfl rfl ?_
      refine gI X418 hx hby rfl d4_390 ?_
      obtain ⟨cq422, kq422, q422a, q422b, q422c⟩ := isOf hZ e418 h417.1.1
      obtain ⟨_, _, ⟨T422, L422, k422, n422⟩, -, X422, ⟨Lc422, hQ422, l422, y422, z422⟩, st422⟩ := X418.virtualBack hx (y := (⟨cP, "potential", "(I)J"⟩ : MethodName)) (z := (⟨cP, "potential", "(I)J"⟩ : MethodName)) hown (mvT hZ (tb hw 88 rfl)) (mvT hZ (tb hw 89 rfl)) (notFace_of_selects (args := #[]) (mvT hZ (tb hw 91 rfl))) (mvT hZ (tb hw 91 rfl)) (mvT hZ (tb hw 90 rfl)) (by decide) (backOf (W := 0) (rmpt1 l Z a0 hw [] ps q ks js ss po di ma se kf jf mk2_108 scg en2_109 ts2_110 slg stg lmg p0x_279 p1x_280 d0a d1a m0g m1g s0g s1g szg KFg JFg sng lag sv2_113 h413 n0 (Nat.le_trans Z0 K413.1) h417 hPs) hZ (tb hw 92 rfl) (tb hw 2 rfl) (by decide) (by decide)) q422a q422c (g := (mkF m 391 #[vr ps, vi fg, vj D0, sd, vj D1, sd, vr ea, vi v6, vi j7, vi j17, vi j27, vr b37, vi cn, vi rr_281, vi j386, vj v402, sd, vj p0, sd, vj p1, sd] [(.int (1 : Int32)), (.ref ps)])) rfl (by rw [hml]; rfl) (Steps.refl _) (argsL := [(.int (1 : Int32))]) (rest := []) (lenOf pd_11 rfl) rfl (by show 2 * 0 + _ ≤ _; exact Nat.le_of_eq rfl) (hb hby d4_391) (fun _ _ => ⟨rfl, e418, (by decide : 2 + 0 ≤ _), (by decide : 4 + 0 ≤ _)⟩)
      dsimp only [Pt.U, Pt.locs, Pt.cells, Pt.slots] at X422 l422 y422 z422 st422 hQ422
      subst y422 z422
      obtain ⟨rfl, N422q, e422⟩ := hQ422
      have N422 : Fr n0 L422 := by rw [l422]; exact Fr.app N418 N422q
      refine Go.tr  st422 ?_
      show Go p e below s Q 2 4 (T422.setTop (mkF m 394 #[vr ps, vi fg, vj D0, sd, vj D1, sd, vr ea, vi v6, vi j7, vi j17, vi j27, vr b37, vi cn, vi rr_281, vi j386, vj v402, sd, vj p0, sd, vj p1, sd] [(.long p1x_280)]))
      have hF1 : p1x_280 = p1 := (Gs.same f282 (hgot.trans c407)).2
      have hE1 : p1x_280.toInt = p1.toInt := congrArg Int64.toInt hF1
      refine gF X422 hx hby rfl d4_394 rfl ?_
      refine gL X422 hx hby rfl d4_396 rfl ?_
      have c423 : p1x_280.toInt = p1.toInt := by omega
      refine gN X422 hx hby rfl d4_397 rfl ((if0 _ _).trans (teq ((lw_eq p1x_280 p1).mpr (eqJ rfl rfl c423))).2) ?_
      refine gI X422 hx hby rfl d4_400 ?_
      refine gG X422 hx hby rfl (pc0 := 401) (pc' := 405) rfl d4_401 (by decide) (by decide) ?_
      show Go p e below s Q 2 4 (T422.setTop (mkF m 405 #[vr ps, vi fg, vj D0, sd, vj D1, sd, vr ea, vi v6, vi j7, vi j17, vi j27, vr b37, vi cn, vi rr_281, vi j386, vj v402, sd, vj p0, sd, vj p1, sd] [(.int (1 : Int32))]))
      exact Go.retN X422 hx hlk (by simp) Bd.returns (hb hby d4_405) (z' := (1 : Int32)) (by decide) (by rw [← hQ, e422]; exact ⟨mk2_108, scg, en2_109, ts2_110, slg, stg, lmg, p0x_279, p1x_280, d0a, d1a, m0g, m1g, s0g, s1g, szg, KFg, JFg, sng, lag, sv2_113, w0x_114, w1x_115, (1 : Int32), rfl, N422, (by omega), (by omega), K413, h417, h414, (by have hh := h415; rw [hF0, hF1]; exact hh)⟩) (by decide) (by decide)
    ·
      refine gN X395 hx hby rfl d4_301 rfl ((if0 _ _).trans (feq (neI rfl liI_0 c407)).1) ?_
      refine gD X395 hx hby rfl d4_304 rfl ?_
      show Go p e below s Q 2 4 (T395.setTop (mkF m 306 #[vr ps, vi fg, vj D0, sd, vj D1, sd, vr ea, vi v6, vi j7, vi j17, vi j27, vr b37, vi cn, vi rr_281, vi j386, vj v402, sd, vj p0, sd, vj p1, sd] [(.int j7)]))
      suffices J425 : ∀ (j424 : Int64), ((j7.toInt = 1 ∧ D0.toInt < v402.toInt ∧ j424 = p0 - D0) ∨ (¬ (j7.toInt = 1 ∧ D0.toInt < v402.toInt) ∧ j424 = p0 - v402)) → Go p e below s Q 2 4 (T395.setTop (mkF m 332 #[vr ps, vi fg, vj D0, sd, vj D1, sd, vr ea, vi v6, vi j7, vi j17, vi j27, vr b37, vi cn, vi rr_281, vi j386, vj v402, sd, vj p0, sd, vj p1, sd] [(.long j424)])) by
        by_cases c427 : j7.toInt = 0
        ·
          refine gY X395 hx hby rfl (pc0 := 306) (pc' := 325) rfl d4_306 rfl ((if0 _ _).trans (teq (eqI rfl liI_0 c427)).1) (by decide) (by decide) ?_
          refine gB X395 hx hby rfl d4_325 rfl rfl ?_
          refine gI X395 hx hby rfl d4_327 ?_
          refine Go.st (Vec.ildJ X395 hx hZ e395 h285 (j := (0 : Int32)) (by decide) (by decide) (g := (mkF m 328 #[vr ps, vi fg, vj D0, sd, vj D1, sd, vr ea, vi v6, vi j7, vi j17, vi j27, vr b37, vi cn, vi rr_281, vi j386, vj v402, sd, vj p0, sd, vj p1, sd] [(.int (0 : Int32)), (.ref ea)])) rfl rfl (hb hby d4_328)) ?_
          refine gF X395 hx hby rfl d4_329 rfl ?_
          refine Go.st (fun _ k => XS.lsub X395.here hx rfl (hb hby d4_331) rfl k) ?_
          show Go p e below s Q 2 4 (T395.setTop (mkF m 332 #[vr ps, vi fg, vj D0, sd, vj D1, sd, vr ea, vi v6, vi j7, vi j17, vi j27, vr b37, vi cn, vi rr_281, vi j386, vj v402, sd, vj p0, sd, vj p1, sd] [(.long (p0 - v402))]))
          have f429 := c_lsub p0 v402
          have f430 := rng64 (p0 - v402)
          exact J425 (p0 - v402) (by exact Or.inr ⟨by omega, rfl⟩)
        ·
          refine gN X395 hx hby rfl d4_306 rfl ((if0 _ _).trans (feq (neI rfl liI_0 c427)).1) ?_
          refine gE X395 hx hby rfl d4_309 rfl ?_
          refine gF X395 hx hby rfl d4_310 rfl ?_
          refine gL X395 hx hby rfl d4_312 rfl ?_
          by_cases c431 : D0.toInt < v402.toInt
          ·
            refine gN X395 hx hby rfl d4_313 rfl ((if0 _ _).trans (tlt ((lw_lt D0 v402).mpr (ltJ rfl rfl c431))).2.1) ?_
            refine gB X395 hx hby rfl d4_316 rfl rfl ?_
            show Go p e below s Q 2 4 (T395.setTop (mkF m 318 #[vr ps, vi fg, vj D0, sd, vj D1, sd, vr ea, vi v6, vi j7, vi j17, vi j27, vr b37, vi cn, vi rr_281, vi j386, vj v402, sd, vj p0, sd, vj p1, sd] [(.ref ea)]))
            refine gI X395 hx hby rfl d4_318 ?_
            refine Go.st (Vec.ildJ X395 hx hZ e395 h285 (j := (0 : Int32)) (by decide) (by decide) (g := (mkF m 319 #[vr ps, vi fg, vj D0, sd, vj D1, sd, vr ea, vi v6, vi j7, vi j17, vi j27, vr b37, vi cn, vi rr_281, vi j386, vj v402, sd, vj p0, sd, vj p1, sd] [(.int (0 : Int32)), (.ref ea)])) rfl rfl (hb hby d4_319)) ?_
            refine gE X395 hx hby rfl d4_320 rfl ?_
            refine Go.st (fun _ k => XS.lsub X395.here hx rfl (hb hby d4_321) rfl k) ?_
            refine gG X395 hx hby rfl (pc0 := 322) (pc' := 332) rfl d4_322 (by decide) (by decide) ?_
            show Go p e below s Q 2 4 (T395.setTop (mkF m 332 #[vr ps, vi fg, vj D0, sd, vj D1, sd, vr ea, vi v6, vi j7, vi j17, vi j27, vr b37, vi cn, vi rr_281, vi j386, vj v402, sd, vj p0, sd, vj p1, sd] [(.long (p0 - D0))]))
            have f433 := c_lsub p0 D0
            have f434 := rng64 (p0 - D0)
            exact J425 (p0 - D0) (by exact Or.inl ⟨by omega, by omega, rfl⟩)
          ·
            refine gY X395 hx hby rfl (pc0 := 313) (pc' := 325) rfl d4_313 rfl ((if0 _ _).trans (flt (fun q => (nltJ rfl rfl c431) ((lw_lt D0 v402).mp q))).2.1) (by decide) (by decide) ?_
            refine gB X395 hx hby rfl d4_325 rfl rfl ?_
            show Go p e below s Q 2 4 (T395.setTop (mkF m 327 #[vr ps, vi fg, vj D0, sd, vj D1, sd, vr ea, vi v6, vi j7, vi j17, vi j27, vr b37, vi cn, vi rr_281, vi j386, vj v402, sd, vj p0, sd, vj p1, sd] [(.ref ea)]))
            refine gI X395 hx hby rfl d4_327 ?_
            refine Go.st (Vec.ildJ X395 hx hZ e395 h285 (j := (0 : Int32)) (by decide) (by decide) (g := (mkF m 328 #[vr ps, vi fg, vj D0, sd, vj D1, sd, vr ea, vi v6, vi j7, vi j17, vi j27, vr b37, vi cn, vi rr_281, vi j386, vj v402, sd, vj p0, sd, vj p1, sd] [(.int (0 : Int32)), (.ref ea)])) rfl rfl (hb hby d4_328)) ?_
            refine gF X395 hx hby rfl d4_329 rfl ?_
            refine Go.st (fun _ k => XS.lsub X395.here hx rfl (hb hby d4_331) rfl k) ?_
            show Go p e below s Q 2 4 (T395.setTop (mkF m 332 #[vr ps, vi fg, vj D0, sd, vj D1, sd, vr ea, vi v6, vi j7, vi j17, vi j27, vr b37, vi cn, vi rr_281, vi j386, vj v402, sd, vj p0, sd, vj p1, sd] [(.long (p0 - v402))]))
            have f436 := c_lsub p0 v402
            have f437 := rng64 (p0 - v402)
            exact J425 (p0 - v402) (by exact Or.inr ⟨by omega, rfl⟩)
      intro j424 f438
      have f439 := rng64 j424
      refine gU X395 hx hby rfl d4_332 rfl (l' := #[vr ps, vi fg, vj D0, sd, vj D1, sd, vr ea, vi v6, vi j7, vi j17, vi j27, vr b37, vi cn, vi rr_281, vi j386, vj v402, sd, vj j424, sd, vj p1, sd]) rfl ?_
      refine gD X395 hx hby rfl d4_334 rfl ?_
      show Go p e below s Q 2 4 (T395.setTop (mkF m 336 #[vr ps, vi fg, vj D0, sd, vj D1, sd, vr ea, vi v6, vi j7, vi j17, vi j27, vr b37, vi cn, vi rr_281, vi j386, vj v402, sd, vj j424, sd, vj p1, sd] [(.int j17)]))
      suffices J441 : ∀ (j440 : Int64), ((j17.toInt = 1 ∧ D1.toInt < v402.toInt ∧ j440 = p1 - D1) ∨ (¬ (j17.toInt = 1 ∧ D1.toInt < v402.toInt) ∧ j440 = p1 - v402)) → Go p e below s Q 2 4 (T395.setTop (mkF m 364 #[vr ps, vi fg, vj D0, sd, vj D1, sd, vr ea, vi v6, vi j7, vi j17, vi j27, vr b37, vi cn, vi rr_281, vi j386, vj v402, sd, vj j424, sd, vj p1, sd] [(.long j440)])) by
        by_cases c443 : j17.toInt = 0
        ·
          refine gY X395 hx hby rfl (pc0 := 336) (pc' := 357) rfl d4_336 rfl ((if0 _ _).trans (teq (eqI rfl liI_0 c443)).1) (by decide) (by decide) ?_
          refine gB X395 hx hby rfl d4_357 rfl rfl ?_
          refine gI X395 hx hby rfl d4_359 ?_
          refine Go.st (Vec.ildJ X395 hx hZ e395 h285 (j := (1 : Int32)) (by decide) (by decide) (g := (mkF m 360 #[vr ps, vi fg, vj D0, sd, vj D1, sd, vr ea, vi v6, vi j7, vi j17, vi j27, vr b37, vi cn, vi rr_281, vi j386, vj v402, sd, vj j424, sd, vj p1, sd] [(.int (1 : Int32)), (.ref ea)])) rfl rfl (hb hby d4_360)) ?_
          refine gF X395 hx hby rfl d4_361 rfl ?_
          refine Go.st (fun _ k => XS.lsub X395.here hx rfl (hb hby d4_363) rfl k) ?_
          show Go p e below s Q 2 4 (T395.setTop (mkF m 364 #[vr ps, vi fg, vj D0, sd, vj D1, sd, vr ea, vi v6, vi j7, vi j17, vi j27, vr b37, vi cn, vi rr_281, vi j386, vj v402, sd, vj j424, sd, vj p1, sd] [(.long (p1 - v402))]))
          have f445 := c_lsub p1 v402
          have f446 := rng64 (p1 - v402)
          exact J441 (p1 - v402) (by exact Or.inr ⟨by omega, rfl⟩)
        ·
          refine gN X395 hx hby rfl d4_336 rfl ((if0 _ _).trans (feq (neI rfl liI_0 c443)).1) ?_
          refine gF X395 hx hby rfl d4_339 rfl ?_
          refine gF X395 hx hby rfl d4_341 rfl ?_
          refine gL X395 hx hby rfl d4_343 rfl ?_
          by_cases c447 : D1.toInt < v402.toInt
          ·
            refine gN X395 hx hby rfl d4_344 rfl ((if0 _ _).trans (tlt ((lw_lt D1 v402).mpr (ltJ rfl rfl c447))).2.1) ?_
            refine gB X395 hx hby rfl d4_347 rfl rfl ?_
            show Go p e below s Q 2 4 (T395.setTop (mkF m 349 #[vr ps, vi fg, vj D0, sd, vj D1, sd, vr ea, vi v6, vi j7, vi j17, vi j27, vr b37, vi cn, vi rr_281, vi j386, vj v402, sd, vj j424, sd, vj p1, sd] [(.ref ea)]))
            refine gI X395 hx hby rfl d4_349 ?_
            refine Go.st (Vec.ildJ X395 hx hZ e395 h285 (j := (1 : Int32)) (by decide) (by decide) (g := (mkF m 350 #[vr ps, vi fg, vj D0, sd, vj D1, sd, vr ea, vi v6, vi j7, vi j17, vi j27, vr b37, vi cn, vi rr_281, vi j386, vj v402, sd, vj j424, sd, vj p1, sd] [(.int (1 : Int32)), (.ref ea)])) rfl rfl (hb hby d4_350)) ?_
            refine gF X395 hx hby rfl d4_351 rfl ?_
            refine Go.st (fun _ k => XS.lsub X395.here hx rfl (hb hby d4_353) rfl k) ?_
            refine gG X395 hx hby rfl (pc0 := 354) (pc' := 364) rfl d4_354 (by decide) (by decide) ?_
            show Go p e below s Q 2 4 (T395.setTop (mkF m 364 #[vr ps, vi fg, vj D0, sd, vj D1, sd, vr ea, vi v6, vi j7, vi j17, vi j27, vr b37, vi cn, vi rr_281, vi j386, vj v402, sd, vj j424, sd, vj p1, sd] [(.long (p1 - D1))]))
            have f449 := c_lsub p1 D1
            have f450 := rng64 (p1 - D1)
            exact J441 (p1 - D1) (by exact Or.inl ⟨by omega, by omega, rfl⟩)
          ·
            refine gY X395 hx hby rfl (pc0 := 344) (pc' := 357) rfl d4_344 rfl ((if0 _ _).trans (flt (fun q => (nltJ rfl rfl c447) ((lw_lt D1 v402).mp q))).2.1) (by decide) (by decide) ?_
            refine gB X395 hx hby rfl d4_357 rfl rfl ?_
            show Go p e below s Q 2 4 (T395.setTop (mkF m 359 #[vr ps, vi fg, vj D0, sd, vj D1, sd, vr ea, vi v6, vi j7, vi j17, vi j27, vr b37, vi cn, vi rr_281, vi j386, vj v402, sd, vj j424, sd, vj p1, sd] [(.ref ea)]))
            refine gI X395 hx hby rfl d4_359 ?_
            refine Go.st (Vec.ildJ X395 hx hZ e395 h285 (j := (1 : Int32)) (by decide) (by decide) (g := (mkF m 360 #[vr ps, vi fg, vj D0, sd, vj D1, sd, vr ea, vi v6, vi j7, vi j17, vi j27, vr b37, vi cn, vi rr_281, vi j386, vj v402, sd, vj j424, sd, vj p1, sd] [(.int (1 : Int32)), (.ref ea)])) rfl rfl (hb hby d4_360)) ?_
            refine gF X395 hx hby rfl d4_361 rfl ?_
            refine Go.st (fun _ k => XS.lsub X395.here hx rfl (hb hby d4_363) rfl k) ?_
            show Go p e below s Q 2 4 (T395.setTop (mkF m 364 #[vr ps, vi fg, vj D0, sd, vj D1, sd, vr ea, vi v6, vi j7, vi j17, vi j27, vr b37, vi cn, vi rr_281, vi j386, vj v402, sd, vj j424, sd, vj p1, sd] [(.long (p1 - v402))]))
            have f452 := c_lsub p1 v402
            have f453 := rng64 (p1 - v402)
            exact J441 (p1 - v402) (by exact Or.inr ⟨by omega, rfl⟩)
      intro j440 f454
      have f455 := rng64 j440
      refine gU X395 hx hby rfl d4_364 rfl (l' := #[vr ps, vi fg, vj D0, sd, vj D1, sd, vr ea, vi v6, vi j7, vi j17, vi j27, vr b37, vi cn, vi rr_281, vi j386, vj v402, sd, vj j424, sd, vj j440, sd]) rfl ?_
      refine gB X395 hx hby rfl d4_366 rfl rfl ?_
      refine gI X395 hx hby rfl d4_368 ?_
      refine gF X395 hx hby rfl d4_369 rfl ?_
      obtain ⟨T456, h456, X456, e456, W456, V456, st456⟩ := Vec.istJ X395 hx hZ e395 h285 (j := (0 : Int32)) (by decide) (by decide) (g := (mkF m 371 #[vr ps, vi fg, vj D0, sd, vj D1, sd, vr ea, vi v6, vi j7, vi j17, vi j27, vr b37, vi cn, vi rr_281, vi j386, vj v402, sd, vj j424, sd, vj j440, sd] [(.long j424), (.int (0 : Int32)), (.ref ea)])) rfl rfl (hb hby d4_371)
      have h457 : SV Z h456 ps q ks js ss po di ma se kf jf n0 sv2_113 w0x_114 w1x_115 := h284.other2 W456 (fun so q => vec_tne (h284.2 so q).1 h285 (by decide))
      have h458 : Vec Z h456 ea .long (2 : Int32) (longs (lst [j424, p1])) := Vec.of_eq V456 (congrArg longs (upd_lst _ 0 _ (Nat.le_of_ble_eq_true rfl)))
      have h459 : Vec Z h456 b37 .int (2 : Int32) (ints (lst [u0, u1])) := h286.other W456 (Ne.symm q41)
      have h460 : PSt Z h456 ps q ks js ss po di ma se kf jf mk2_108 scg en2_109 ts2_110 slg stg lmg p0x_279 p1x_280 d0a d1a m0g m1g s0g s1g szg KFg JFg sng lag sv2_113 := h283.other W456 out_ea nr_ea
      have K456 : Lk h0 h456 := K274.wr W456
      have N456 := Fr.snoc X456 N395 G_ea
      refine Go.st st456 ?_
      show Go p e below s Q 2 4 (T456.setTop (mkF m 372 #[vr ps, vi fg, vj D0, sd, vj D1, sd, vr ea, vi v6, vi j7, vi j17, vi j27, vr b37, vi cn, vi rr_281, vi j386, vj v402, sd, vj j424, sd, vj j440, sd] []))
      refine gB X456 hx hby rfl d4_372 rfl rfl ?_
      refine gI X456 hx hby rfl d4_374 ?_
      refine gF X456 hx hby rfl d4_375 rfl ?_
      obtain ⟨T461, h461, X461, e461, W461, V461, st461⟩ := Vec.istJ X456 hx hZ e456 h458 (j := (1 : Int32)) (by decide) (by decide) (g := (mkF m 377 #[vr ps, vi fg, vj D0, sd, vj D1, sd, vr ea, vi v6, vi j7, vi j17, vi j27, vr b37, vi cn, vi rr_281, vi j386, vj v402, sd, vj j424, sd, vj j440, sd] [(.long j440), (.int (1 : Int32)), (.ref ea)])) rfl rfl (hb hby d4_377)
      have h462 : SV Z h461 ps q ks js ss po di ma se kf jf n0 sv2_113 w0x_114 w1x_115 := h457.other2 W461 (fun so q => vec_tne (h457.2 so q).1 h458 (by decide))
      have h463 : Vec Z h461 ea .long (2 : Int32) (longs (lst [j424, j440])) := Vec.of_eq V461 (congrArg longs (upd_lst _ 1 _ (Nat.le_of_ble_eq_true rfl)))
      have h464 : Vec Z h461 b37 .int (2 : Int32) (ints (lst [u0, u1])) := h459.other W461 (Ne.symm q41)
      have h465 : PSt Z h461 ps q ks js ss po di ma se kf jf mk2_108 scg en2_109 ts2_110 slg stg lmg p0x_279 p1x_280 d0a d1a m0g m1g s0g s1g szg KFg JFg sng lag sv2_113 := h460.other W461 out_ea nr_ea
      have K461 : Lk h0 h461 := K456.wr W461
      have N461 := Fr.snoc X461 N456 G_ea
      refine Go.st st461 ?_
      show Go p e below s Q 2 4 (T461.setTop (mkF m 378 #[vr ps, vi fg, vj D0, sd, vj D1, sd, vr ea, vi v6, vi j7, vi j17, vi j27, vr b37, vi cn, vi rr_281, vi j386, vj v402, sd, vj j424, sd, vj j440, sd] []))
      refine gA X461 hx hby rfl d4_378 rfl rfl ?_
      refine gI X461 hx hby rfl d4_379 ?_
      have f467 := rng64 p0x_279
      have f468 := rng64 p1x_280
      obtain ⟨cq466, kq466, q466a, q466b, q466c⟩ := isOf hZ e461 h465.1.1
      obtain ⟨_, _, ⟨T466, L466, k466, n466⟩, -, X466, ⟨Lc466, hQ466, l466, y466, z466⟩, st466⟩ := X461.virtualBack hx (y := (⟨cP, "potential", "(I)J"⟩ : MethodName)) (z := (⟨cP, "potential", "(I)J"⟩ : MethodName)) hown (mvT hZ (tb hw 88 rfl)) (mvT hZ (tb hw 89 rfl)) (notFace_of_selects (args := #[]) (mvT hZ (tb hw 91 rfl))) (mvT hZ (tb hw 91 rfl)) (mvT hZ (tb hw 90 rfl)) (by decide) (backOf (W := 0) (rmpt0 l Z a0 hw [] ps q ks js ss po di ma se kf jf mk2_108 scg en2_109 ts2_110 slg stg lmg p0x_279 p1x_280 d0a d1a m0g m1g s0g s1g szg KFg JFg sng lag sv2_113 h461 n0 (Nat.le_trans Z0 K461.1) h465 hPs) hZ (tb hw 92 rfl) (tb hw 2 rfl) (by decide) (by decide)) q466a q466c (g := (mkF m 380 #[vr ps, vi fg, vj D0, sd, vj D1, sd, vr ea, vi v6, vi j7, vi j17, vi j27, vr b37, vi cn, vi rr_281, vi j386, vj v402, sd, vj j424, sd, vj j440, sd] [(.int (0 : Int32)), (.ref ps)])) rfl (by rw [hml]; rfl) (Steps.refl _) (argsL := [(.int (0 : Int32))]) (rest := []) (lenOf pd_11 rfl) rfl (by show 2 * 0 + _ ≤ _; exact Nat.le_of_eq rfl) (hb hby d4_380) (fun _ _ => ⟨rfl, e461, (by decide : 2 + 0 ≤ _), (by decide : 4 + 0 ≤ _)⟩)
      dsimp only [Pt.U, Pt.locs, Pt.cells, Pt.slots] at X466 l466 y466 z466 st466 hQ466
      subst y466 z466
      obtain ⟨rfl, N466q, e466⟩ := hQ466
      have N466 : Fr n0 L466 := by rw [l466]; exact Fr.app N461 N466q
      refine Go.tr  st466 ?_
      show Go p e below s Q 2 4 (T466.setTop (mkF m 383 #[vr ps, vi fg, vj D0, sd, vj D1, sd, vr ea, vi v6, vi j7, vi j17, vi j27, vr b37, vi cn, vi rr_281, vi j386, vj v402, sd, vj j424, sd, vj j440, sd] [(.long p0x_279)]))
      have hF0 : p0x_279 = j424 := Gs.pot0 hpg182_0 f282 (hgot.trans (Or.resolve_left hj01 c407)) hLI f438
      have hE0 : p0x_279.toInt = j424.toInt := congrArg Int64.toInt hF0
      refine gF X466 hx hby rfl d4_383 rfl ?_
      refine gL X466 hx hby rfl d4_385 rfl ?_
      have c469 : p0x_279.toInt = j424.toInt := by omega
      refine gN X466 hx hby rfl d4_386 rfl ((if0 _ _).trans (teq ((lw_eq p0x_279 j424).mpr (eqJ rfl rfl c469))).2) ?_
      refine gA X466 hx hby rfl d4_389 rfl rfl ?_
      refine gI X466 hx hby rfl d4_390 ?_
      obtain ⟨cq470, kq470, q470a, q470b, q470c⟩ := isOf hZ e466 h465.1.1
      obtain ⟨_, _, ⟨T470, L470, k470, n470⟩, -, X470, ⟨Lc470, hQ470, l470, y470, z470⟩, st470⟩ := X466.virtualBack hx (y := (⟨cP, "potential", "(I)J"⟩ : MethodName)) (z := (⟨cP, "potential", "(I)J"⟩ : MethodName)) hown (mvT hZ (tb hw 88 rfl)) (mvT hZ (tb hw 89 rfl)) (notFace_of_selects (args := #[]) (mvT hZ (tb hw 91 rfl))) (mvT hZ (tb hw 91 rfl)) (mvT hZ (tb hw 90 rfl)) (by decide) (backOf (W := 0) (rmpt1 l Z a0 hw [] ps q ks js ss po di ma se kf jf mk2_108 scg en2_109 ts2_110 slg stg lmg p0x_279 p1x_280 d0a d1a m0g m1g s0g s1g szg KFg JFg sng lag sv2_113 h461 n0 (Nat.le_trans Z0 K461.1) h465 hPs) hZ (tb hw 92 rfl) (tb hw 2 rfl) (by decide) (by decide)) q470a q470c (g := (mkF m 391 #[vr ps, vi fg, vj D0, sd, vj D1, sd, vr ea, vi v6, vi j7, vi j17, vi j27, vr b37, vi cn, vi rr_281, vi j386, vj v402, sd, vj j424, sd, vj j440, sd] [(.int (1 : Int32)), (.ref ps)])) rfl (by rw [hml]; rfl) (Steps.refl _) (argsL := [(.int (1 : Int32))]) (rest := []) (lenOf pd_11 rfl) rfl (by show 2 * 0 + _ ≤ _; exact Nat.le_of_eq rfl) (hb hby d4_391) (fun _ _ => ⟨rfl, e466, (by decide : 2 + 0 ≤ _), (by decide : 4 + 0 ≤ _)⟩)
      dsimp only [Pt.U, Pt.locs, Pt.cells, Pt.slots] at X470 l470 y470 z470 st470 hQ470
      subst y470 z470
      obtain ⟨rfl, N470q, e470⟩ := hQ470
      have N470 : Fr n0 L470 := by rw [l470]; exact Fr.app N466 N470q
      refine Go.tr  st470 ?_
      show Go p e below s Q 2 4 (T470.setTop (mkF m 394 #[vr ps, vi fg, vj D0, sd, vj D1, sd, vr ea, vi v6, vi j7, vi j17, vi j27, vr b37, vi cn, vi rr_281, vi j386, vj v402, sd, vj j424, sd, vj j440, sd] [(.long p1x_280)]))
      have hF1 : p1x_280 = j440 := Gs.pot1 hpg182_0 f282 (hgot.trans (Or.resolve_left hj01 c407)) hLI f454
      have hE1 : p1x_280.toInt = j440.toInt := congrArg Int64.toInt hF1
      refine gF X470 hx hby rfl d4_394 rfl ?_
      refine gL X470 hx hby rfl d4_396 rfl ?_
      have c471 : p1x_280.toInt = j440.toInt := by omega
      refine gN X470 hx hby rfl d4_397 rfl ((if0 _ _).trans (teq ((lw_eq p1x_280 j440).mpr (eqJ rfl rfl c471))).2) ?_
      refine gI X470 hx hby rfl d4_400 ?_
      refine gG X470 hx hby rfl (pc0 := 401) (pc' := 405) rfl d4_401 (by decide) (by decide) ?_
      show Go p e below s Q 2 4 (T470.setTop (mkF m 405 #[vr ps, vi fg, vj D0, sd, vj D1, sd, vr ea, vi v6, vi j7, vi j17, vi j27, vr b37, vi cn, vi rr_281, vi j386, vj v402, sd, vj j424, sd, vj j440, sd] [(.int (1 : Int32))]))
      exact Go.retN X470 hx hlk (by simp) Bd.returns (hb hby d4_405) (z' := (1 : Int32)) (by decide) (by rw [← hQ, e470]; exact ⟨mk2_108, scg, en2_109, ts2_110, slg, stg, lmg, p0x_279, p1x_280, d0a, d1a, m0g, m1g, s0g, s1g, szg, KFg, JFg, sng, lag, sv2_113, w0x_114, w1x_115, (1 : Int32), rfl, N470, (by omega), (by omega), K461, h465, h462, (by have hh := h463; rw [hF0, hF1]; exact hh)⟩) (by decide) (by decide)
theorem pd_12 : parseMethodDescriptor "(I)V" = some ⟨[.int], none⟩ := by decide +kernel
theorem liJ_0 : (0 : Int64).toInt = 0 := by decide
theorem liJ_2305843009213693951 : (2305843009213693951 : Int64).toInt = 2305843009213693951 := by decide
theorem pd_13 : parseMethodDescriptor "(Lcom/example/rackwise/rackwise/PathSearch;IJJ[J)Z" = some ⟨[(.object cP), .int, .long, .long, (.array .long)], some .boolean⟩ := by decide +kernel
theorem liI_5 : (5 : Int32).toInt = 5 := by decide
theorem ef_rm0 (m : MethodId) (xf : Int32) (xa xb xc xd : Int64) : entryFrame m #[(.int xf), (.long xa), (.long xb), (.long xc), (.long xd)] maxLocals = mkF m 0 #[vi xf, vj xa, sd, vj xb, sd, vj xc, sd, vj xd, sd, un, un] [] := by first | (simp [entryFrame, mkF, argsToLocals, Value.category, maxLocals]; done) | rfl
def Q0 (Z : State) (xf : Int32) (xa xb xc xd : Int64) (h0 : Heap) (n0 : Nat) (vv : Option Value) (h : Heap) (LL : List Loc) : Prop := vv = some (.int (1 : Int32)) ∧ Fr n0 LL ∧ Lk h0 h
set_option maxRecDepth 65536 in
set_option maxHeartbeats 40000000 in
theorem rm0 (l : Launch) (Z : State) (a0 : Array Value) (hw : ∀ d ∈ tables_1, d.before a0 Z = true) (ws : List Jvm.Cond) (xf : Int32) (xa xb xc xd : Int64) (h0 : Heap) (n0 : Nat) (Z0 : n0 ≤ h0.size) :
    MetFree l x (head1 (Jvm.Cond.code x code maxLocals ret :: ws) room_1) (fun aa UU => aa = #[(.int xf), (.long xa), (.long xb), (.long xc), (.long xd)] ∧ Z.Warmed39 UU.vm ∧ UU.heap = h0) (fun _ _ _ _ _ => True) (fun _ UU oo UU' => ∃ vv LL, oo = .returned vv ∧ Q0 Z xf xa xb xc xd h0 n0 vv UU'.heap LL ∧ FrameEnd UU oo UU' LL 145 755) := by
  refine MetFree.of_bodySF (plainFor_of_name pn_5) hisR ?_
  intro p e s m args below meth c s₁ Bd hml0 hP hK
  obtain ⟨rfl, hZ, hh⟩ := hP
  have hx := Bd.exec
  have hby := Bd.bytes
  have hlk : meth.locks = false := BodyLoose.notSynchronized Bd
  have hml : c.maxLocals = 11 := hml0
  have hown : s.vm.findClass "com/example/rackwise/rackwise/PathSearchFinishBackPinLaw" = some m.cls := findClass_of_methodNamed Bd.named
  have hnm := (name_of_methodNamed Bd.named Bd.method).1
  have X0 : Stand p l e room_1 s m #[(.int xf), (.long xa), (.long xb), (.long xc), (.long xd)] below meth c s₁ [] 0 0 := Stand.of_body Bd
  have e0 : s₁.heap = h0 := by rw [← hh, Bd.state]; rfl
  have N0 := Fr.nil n0
  have K0 : Lk h0 h0 := Lk.refl h0
  refine (?_ : Go p e below s (Q0 Z xf xa xb xc xd h0 n0) 145 755 (s₁.setTop (entryFrame m #[(.int xf), (.long xa), (.long xb), (.long xc), (.long xd)] maxLocals)))
  rw [ef_rm0]
  generalize hQ : Q0 Z xf xa xb xc xd h0 n0 = Q
  show Go p e below s Q 145 755 (s₁.setTop (mkF m 0 #[vi xf, vj xa, sd, vj xb, sd, vj xc, sd, vj xd, sd, un, un] []))
  have f1 := rng32 xf
  have f2 := rng64 xa
  have f3 := rng64 xb
  have f4 := rng64 xc
  have f5 := rng64 xd
  obtain ⟨T6, h6, X6, e6, E6, A6, D6, -, st6⟩ := newO X0 hx hZ hown (tb hw 0 rfl) (tb hw 1 rfl) (tb hw 2 rfl) e0 (g := (mkF m 0 #[vi xf, vj xa, sd, vj xb, sd, vj xc, sd, vj xd, sd, un, un] [])) rfl (hb hby at_0) (by decide) (by decide)
  obtain ⟨b6, g6⟩ : ∃ z, z = h0.size := ⟨_, rfl⟩
  rw [← g6] at A6 D6 st6
  have Gb6 : Hid (n0 ≤ b6) := Nat.le_trans (Nat.le_trans Z0 K0.1) (Nat.le_of_eq g6.symm)
  have szb6 : Hid (h0.size ≤ b6) := Nat.le_trans K0.1 (Nat.le_of_eq g6.symm)
  have K6 : Lk h0 h6 := K0.ext E6
  have h7 : Fld Z h6 b6 cP "queue" "Lcom/example/rackwise/rackwise/RadixHeap;" .null := D6 (Or.inr (tb hw 34 rfl)) (ty := (.object cR)) (by decide)
  have h8 : Fld Z h6 b6 cP "potential" "[J" .null := D6 (Or.inr (tb hw 36 rfl)) (ty := (.array .long)) (by decide)
  have h9 : Fld Z h6 b6 cP "distance" "[J" .null := D6 (Or.inr (tb hw 38 rfl)) (ty := (.array .long)) (by decide)
  have h10 : Fld Z h6 b6 cP "marks" "[I" .null := D6 (Or.inr (tb hw 40 rfl)) (ty := (.array .int)) (by decide)
  have h11 : Fld Z h6 b6 cP "settled" "[I" .null := D6 (Or.inr (tb hw 42 rfl)) (ty := (.array .int)) (by decide)
  have h12 : Fld Z h6 b6 cP "ready" "[I" .null := D6 (Or.inr (tb hw 44 rfl)) (ty := (.array .int)) (by decide)
  have h13 : Fld Z h6 b6 cP "mark" "I" (.int (0 : Int32)) := D6 (Or.inl (tb hw 56 rfl)) (ty := .int) (by decide)
  have h14 : Fld Z h6 b6 cP "settledCount" "I" (.int (0 : Int32)) := D6 (Or.inl (tb hw 58 rfl)) (ty := .int) (by decide)
  have h15 : Fld Z h6 b6 cP "readyCount" "I" (.int (0 : Int32)) := D6 (Or.inl (tb hw 60 rfl)) (ty := .int) (by decide)
  have h16 : Fld Z h6 b6 cP "settling" "J" (.long (0 : Int64)) := D6 (Or.inl (tb hw 74 rfl)) (ty := .long) (by decide)
  have h17 : Fld Z h6 b6 cP "limit" "J" (.long (0 : Int64)) := D6 (Or.inl (tb hw 76 rfl)) (ty := .long) (by decide)
  have h18 : Fld Z h6 b6 cP "end" "I" (.int (0 : Int32)) := D6 (Or.inl (tb hw 78 rfl)) (ty := .int) (by decide)
  have h19 : Fld Z h6 b6 cP "toSources" "Z" (.int (0 : Int32)) := D6 (Or.inl (tb hw 80 rfl)) (ty := .boolean) (by decide)
  have h20 : Fld Z h6 b6 cP "sourcesLeft" "I" (.int (0 : Int32)) := D6 (Or.inl (tb hw 82 rfl)) (ty := .int) (by decide)
  have h21 : Fld Z h6 b6 cP "sourceIn" "[I" .null := D6 (Or.inl (tb hw 154 rfl)) (ty := (.array .int)) (by decide)
  refine Go.st st6 ?_
  show Go p e below s Q 145 755 (T6.setTop (mkF m 3 #[vi xf, vj xa, sd, vj xb, sd, vj xc, sd, vj xd, sd, un, un] [(.ref b6)]))
  refine Go.st (fun _ k => XS.dup X6.here hx rfl (hb hby at_3) rfl rfl k) ?_
  refine gI X6 hx hby rfl at_4 ?_
  have f23 := liI_2
  obtain ⟨_, _, ⟨T22, L22, k22, n22⟩, -, X22, ⟨Lc22, hQ22, l22, y22, z22⟩, st22⟩ := X6.specialBack hx (y := (⟨cP, "<init>", "(I)V"⟩ : MethodName)) rfl hown (mvT hZ (tb hw 3 rfl)) (mvT hZ (tb hw 4 rfl)) (mvT hZ (tb hw 5 rfl)) (by decide) (backOf (W := 1) (rm1 l Z a0 hw [] b6 h6 n0 (Nat.le_trans Z0 K6.1) A6 Gb6 h8 h13 h9 h10 h11 h14 h7 h12 h15 h16 h17 h18 h19 h20 h21) hZ (tb hw 5 rfl) (tb hw 2 rfl) (by decide) (by decide)) (g := (mkF m 5 #[vi xf, vj xa, sd, vj xb, sd, vj xc, sd, vj xd, sd, un, un] [(.int (2 : Int32)), (.ref b6), (.ref b6)])) rfl (by rw [hml]; rfl) (Steps.refl _) (a := b6) (argsL := [(.int (2 : Int32))]) (rest := [(.ref b6)]) (lenOf pd_12 rfl) rfl (by show 2 * 0 + _ ≤ _; exact Nat.le_of_eq rfl) (hb hby at_5) (fun _ _ => ⟨rfl, e6, (by decide : 1 + 139 ≤ _), (by decide : 15 + 730 ≤ _)⟩)
  dsimp only [Pt.U, Pt.locs, Pt.cells, Pt.slots] at X22 l22 y22 z22 st22 hQ22
  subst y22 z22
  obtain ⟨q_24, ks_25, js_26, ss_27, po_28, di_29, ma_30, se_31, kf_32, jf_33, rfl, N22q, K22q, h34, h35⟩ := hQ22
  have N22 : Fr n0 L22 := by rw [l22]; exact Fr.app N0 N22q
  have h36 : Exa Z T22.heap b6 cP := A6.keep K22q
  have K22 : Lk h0 T22.heap := K6.trans K22q.1
  refine Go.tr  st22 ?_
  show Go p e below s Q 145 755 (T22.setTop (mkF m 8 #[vi xf, vj xa, sd, vj xb, sd, vj xc, sd, vj xd, sd, un, un] [(.ref b6)]))
  refine Go.st (fun _ k => XS.astore X22.here hx rfl (hb hby at_8) rfl rfl (l' := #[vi xf, vj xa, sd, vj xb, sd, vj xc, sd, vj xd, sd, vr b6, un]) rfl k) ?_
  refine gI X22 hx hby rfl at_10 ?_
  have r38 : 0 ≤ (2 : Int32).toInt := by decide
  have r39 : (2 : Int32).toNatClampNeg ≤ 2 := by decide
  obtain ⟨T37, h37, k37, X37, e37, E37, A37, B37, st37⟩ := newPE X22 hx hZ (tb hw 30 rfl) rfl (g := (mkF m 11 #[vi xf, vj xa, sd, vj xb, sd, vj xc, sd, vj xd, sd, vr b6, un] [(.int (2 : Int32))])) rfl (hb hby at_11) rfl (not_neg r38) (cap := 2) r39 (by decide) (by decide) (by decide) (ad := "[J") (by decide)
  obtain ⟨b37, g37⟩ : ∃ z, z = T22.heap.size := ⟨_, rfl⟩
  rw [← g37] at A37 B37 st37
  have out_b37 : ∀ y ∈ [b6, q_24, ks_25, js_26, ss_27, po_28, di_29, ma_30, se_31], y ≠ b37 := h34.fresh g37
  have nr_b37 : NR kf_32 jf_33 b37 := h34.freshR g37
  have q40 : Hid (b6 ≠ b37) := Nat.ne_of_lt (Nat.lt_of_lt_of_le h36.lt (Nat.le_of_eq g37.symm))
  have h41 : Exa Z h37 b6 cP := h36.ext E37
  have h42 : PSt Z h37 b6 q_24 ks_25 js_26 ss_27 po_28 di_29 ma_30 se_31 kf_32 jf_33 (0 : Int32) (0 : Int32) (0 : Int32) (0 : Int32) (0 : Int32) (0 : Int64) (0 : Int64) (0 : Int64) (0 : Int64) (0 : Int64) (0 : Int64) (0 : Int32) (0 : Int32) (0 : Int32) (0 : Int32) (fun _ => (0 : Int32)) (fun _ _ => (0 : Int64)) (fun _ _ => (0 : Int32)) (0 : Int32) (-9223372036854775808 : Int64) (.null) := h34.ext E37
  have Gb37 : Hid (n0 ≤ b37) := Nat.le_trans (Nat.le_trans Z0 K22.1) (Nat.le_of_eq g37.symm)
  have szb37 : Hid (h0.size ≤ b37) := Nat.le_trans K22.1 (Nat.le_of_eq g37.symm)
  have K37 : Lk h0 h37 := K22.ext E37
  have h43 : Vec Z h37 b37 .long (2 : Int32) (longs (lst [(0 : Int64), (0 : Int64)])) := Vec.zerosJ 2 (Vec.new A37 r38)
  refine Go.st st37 ?_
  show Go p e below s Q 145 755 (T37.setTop (mkF m 13 #[vi xf, vj xa, sd, vj xb, sd, vj xc, sd, vj xd, sd, vr b6, un] [(.ref b37)]))
  have hSV0 : SV Z h37 b6 q_24 ks_25 js_26 ss_27 po_28 di_29 ma_30 se_31 kf_32 jf_33 n0 (.null) (0 : Int32) (0 : Int32) := ⟨Or.inl rfl, fun so q => by cases q⟩
  refine Go.st (fun _ k => XS.astore X37.here hx rfl (hb hby at_13) rfl rfl (l' := #[vi xf, vj xa, sd, vj xb, sd, vj xc, sd, vj xd, sd, vr b6, vr b37]) rfl k) ?_
  refine gB X37 hx hby rfl at_15 rfl rfl ?_
  refine gC X37 hx hby rfl at_17 rfl ?_
  refine gE X37 hx hby rfl at_18 rfl ?_
  refine Go.st (X37.ldc2Long hx hown (mvT hZ (tb hw 45 rfl)) (g := (mkF m 19 #[vi xf, vj xa, sd, vj xb, sd, vj xc, sd, vj xd, sd, vr b6, vr b37] [(.long xa), (.int xf), (.ref b6)])) rfl (hb hby at_19)) ?_
  show Go p e below s Q 145 755 (T37.setTop (mkF m 22 #[vi xf, vj xa, sd, vj xb, sd, vj xc, sd, vj xd, sd, vr b6, vr b37] [(.long (2305843009213693951 : Int64)), (.long xa), (.int xf), (.ref b6)]))
  refine Go.st (fun _ k => XS.land X37.here hx rfl (hb hby at_22) rfl k) ?_
  refine gE X37 hx hby rfl at_23 rfl ?_
  refine Go.st (X37.ldc2Long hx hown (mvT hZ (tb hw 45 rfl)) (g := (mkF m 24 #[vi xf, vj xa, sd, vj xb, sd, vj xc, sd, vj xd, sd, vr b6, vr b37] [(.long xb), (.long (xa &&& (2305843009213693951 : Int64))), (.int xf), (.ref b6)])) rfl (hb hby at_24)) ?_
  show Go p e below s Q 145 755 (T37.setTop (mkF m 27 #[vi xf, vj xa, sd, vj xb, sd, vj xc, sd, vj xd, sd, vr b6, vr b37] [(.long (2305843009213693951 : Int64)), (.long xb), (.long (xa &&& (2305843009213693951 : Int64))), (.int xf), (.ref b6)]))
  refine Go.st (fun _ k => XS.land X37.here hx rfl (hb hby at_27) rfl k) ?_
  refine gB X37 hx hby rfl at_28 rfl rfl ?_
  have f45 := liI_0
  have f46 := liJ_0
  have f47 := liJ_m9223372036854775808
  have f48 := liJ_2305843009213693951
  have f49 : (xa &&& (2305843009213693951 : Int64)).toInt = xa.toInt % 2305843009213693952 := c_maskL xa (2305843009213693951 : Int64) 61 (by decide) (by decide)
  have f50 : (xb &&& (2305843009213693951 : Int64)).toInt = xb.toInt % 2305843009213693952 := c_maskL xb (2305843009213693951 : Int64) 61 (by decide) (by decide)
  have p51 : 0 ≤ (xa &&& (2305843009213693951 : Int64)).toInt ∧ (xa &&& (2305843009213693951 : Int64)).toInt < 2305843009213693952 ∧ 0 ≤ (xb &&& (2305843009213693951 : Int64)).toInt ∧ (xb &&& (2305843009213693951 : Int64)).toInt < 2305843009213693952 := by omega
  obtain ⟨_, _, ⟨T44, L44, k44, n44⟩, -, X44, ⟨Lc44, hQ44, l44, y44, z44⟩, st44⟩ := Jvm.LawKit.callS X37 hx (y := (⟨"com/example/rackwise/rackwise/PathSearchFinishBackPinLaw", "run", "(Lcom/example/rackwise/rackwise/PathSearch;IJJ[J)Z"⟩ : MethodName)) hown (mvT hZ (tb hw 46 rfl)) (mvT hZ (tb hw 47 rfl)) (mvT hZ (tb hw 48 rfl)) (mvT hZ (tb hw 49 rfl)) (by decide) (backOf (W := 0) (rm4 l Z a0 hw [] b6 xf (xa &&& (2305843009213693951 : Int64)) (xb &&& (2305843009213693951 : Int64)) b37 q_24 ks_25 js_26 ss_27 po_28 di_29 ma_30 se_31 kf_32 jf_33 (0 : Int32) (0 : Int32) (0 : Int32) (0 : Int32) (0 : Int32) (0 : Int64) (0 : Int64) (0 : Int64) (0 : Int64) (0 : Int64) (0 : Int64) (0 : Int32) (0 : Int32) (0 : Int32) (0 : Int32) (fun _ => (0 : Int32)) (fun _ _ => (0 : Int64)) (fun _ _ => (0 : Int32)) (0 : Int32) (-9223372036854775808 : Int64) (.null) (0 : Int32) (0 : Int32) h37 n0 (Nat.le_trans Z0 K37.1) h42 h35 hSV0 h43 out_b37 nr_b37 Gb37 p51 (by decide)) hZ (tb hw 49 rfl) (tb hw 48 rfl) (by decide) (by decide)) (g := (mkF m 30 #[vi xf, vj xa, sd, vj xb, sd, vj xc, sd, vj xd, sd, vr b6, vr b37] [(.ref b37), (.long (xb &&& (2305843009213693951 : Int64))), (.long (xa &&& (2305843009213693951 : Int64))), (.int xf), (.ref b6)])) rfl (by rw [hml]; rfl) (argsL := [(.ref b6), (.int xf), (.long (xa &&& (2305843009213693951 : Int64))), (.long (xb &&& (2305843009213693951 : Int64))), (.ref b37)]) (rest := []) (lenOf pd_13 rfl) rfl (by show 2 * 0 + _ ≤ _; exact Nat.le_of_eq rfl) (hb hby at_30) (fun _ _ => ⟨rfl, e37, (by decide : 141 + 2 ≤ _), (by decide : 747 + 4 ≤ _)⟩)
  dsimp only [Pt.U, Pt.locs, Pt.cells, Pt.slots] at X44 l44 y44 z44 st44 hQ44
  subst y44 z44
  obtain ⟨mkx_52, scx_53, enx_54, tsx_55, slx_56, stx_57, lmx_58, p0x_59, p1x_60, d0x_61, d1x_62, m0x_63, m1x_64, s0x_65, s1x_66, szx_67, KFx_68, JFx_69, snx_70, lax_71, svx_72, w0x_73, w1x_74, rr_75, rfl, N44q, f76, f77, K44q, h78, h79, h80⟩ := hQ44
  have N44 : Fr n0 L44 := by rw [l44]; exact Fr.app N22 N44q
  have K44 : Lk h0 T44.heap := K37.trans K44q.1
  refine Go.st st44 ?_
  show Go p e below s Q 145 755 (T44.setTop (mkF m 33 #[vi xf, vj xa, sd, vj xb, sd, vj xc, sd, vj xd, sd, vr b6, vr b37] [(.int rr_75)]))
  have f81 := rng32 rr_75
  have c82 : ¬ (rr_75.toInt = 0) := by omega
  refine gY X44 hx hby rfl (pc0 := 33) (pc' := 38) rfl at_33 rfl ((if0 _ _).trans (feq (neI rfl liI_0 c82)).2) (by decide) (by decide) ?_
  refine gB X44 hx hby rfl at_38 rfl rfl ?_
  refine gC X44 hx hby rfl at_40 rfl ?_
  refine gI X44 hx hby rfl at_41 ?_
  refine Go.st (fun _ k => XS.iushr X44.here hx rfl (hb hby at_42) rfl k) ?_
  refine gF X44 hx hby rfl at_43 rfl ?_
  show Go p e below s Q 145 755 (T44.setTop (mkF m 45 #[vi xf, vj xa, sd, vj xb, sd, vj xc, sd, vj xd, sd, vr b6, vr b37] [(.long xc), (.int ((xf.toUInt32 >>> ((5 : Int32) &&& 31).toUInt32).toInt32)), (.ref b6)]))
  refine Go.st (X44.ldc2Long hx hown (mvT hZ (tb hw 45 rfl)) (g := (mkF m 45 #[vi xf, vj xa, sd, vj xb, sd, vj xc, sd, vj xd, sd, vr b6, vr b37] [(.long xc), (.int ((xf.toUInt32 >>> ((5 : Int32) &&& 31).toUInt32).toInt32)), (.ref b6)])) rfl (hb hby at_45)) ?_
  show Go p e below s Q 145 755 (T44.setTop (mkF m 48 #[vi xf, vj xa, sd, vj xb, sd, vj xc, sd, vj xd, sd, vr b6, vr b37] [(.long (2305843009213693951 : Int64)), (.long xc), (.int ((xf.toUInt32 >>> ((5 : Int32) &&& 31).toUInt32).toInt32)), (.ref b6)]))
  refine Go.st (fun _ k => XS.land X44.here hx rfl (hb hby at_48) rfl k) ?_
  refine gF X44 hx hby rfl at_49 rfl ?_
  refine Go.st (X44.ldc2Long hx hown (mvT hZ (tb hw 45 rfl)) (g := (mkF m 51 #[vi xf, vj xa, sd, vj xb, sd, vj xc, sd, vj xd, sd, vr b6, vr b37] [(.long xd), (.long (xc &&& (2305843009213693951 : Int64))), (.int ((xf.toUInt32 >>> ((5 : Int32) &&& 31).toUInt32).toInt32)), (.ref b6)])) rfl (hb hby at_51)) ?_
  show Go p e below s Q 145 755 (T44.setTop (mkF m 54 #[vi xf, vj xa, sd, vj xb, sd, vj xc, sd, vj xd, sd, vr b6, vr b37] [(.long (2305843009213693951 : Int64)), (.long xd), (.long (xc &&& (2305843009213693951 : Int64))), (.int ((xf.toUInt32 >>> ((5 : Int32) &&& 31).toUInt32).toInt32)), (.ref b6)]))
  refine Go.st (fun _ k => XS.land X44.here hx rfl (hb hby at_54) rfl k) ?_
  refine gB X44 hx hby rfl at_55 rfl rfl ?_
  have f84 := rng32 mkx_52
  have f85 := rng32 scx_53
  have f86 := rng32 enx_54
  have f87 := rng32 tsx_55
  have f88 := rng32 slx_56
  have f89 := rng64 stx_57
  have f90 := rng64 lmx_58
  have f91 := rng64 p0x_59
  have f92 := rng64 p1x_60
  have f93 := rng64 d0x_61
  have f94 := rng64 d1x_62
  have f95 := rng32 m0x_63
  have f96 := rng32 m1x_64
  have f97 := rng32 s0x_65
  have f98 := rng32 s1x_66
  have f99 := rng32 snx_70
  have f100 := rng64 lax_71
  have f101 := rng32 w0x_73
  have f102 := rng32 w1x_74
  have f103 := liI_5
  have f104 : ((xf.toUInt32 >>> ((5 : Int32) &&& 31).toUInt32).toInt32).toInt = (xf.toInt % 4294967296) / 32 := c_iushr xf (5 : Int32) 5 (by decide) (by decide)
  have f105 := rng32 ((xf.toUInt32 >>> ((5 : Int32) &&& 31).toUInt32).toInt32)
  have f106 : (xc &&& (2305843009213693951 : Int64)).toInt = xc.toInt % 2305843009213693952 := c_maskL xc (2305843009213693951 : Int64) 61 (by decide) (by decide)
  have f107 : (xd &&& (2305843009213693951 : Int64)).toInt = xd.toInt % 2305843009213693952 := c_maskL xd (2305843009213693951 : Int64) 61 (by decide) (by decide)
  have p108 : 0 ≤ (xc &&& (2305843009213693951 : Int64)).toInt ∧ (xc &&& (2305843009213693951 : Int64)).toInt < 2305843009213693952 ∧ 0 ≤ (xd &&& (2305843009213693951 : Int64)).toInt ∧ (xd &&& (2305843009213693951 : Int64)).toInt < 2305843009213693952 := by omega
  have p109 : 0 ≤ mkx_52.toInt ∧ mkx_52.toInt ≤ 50 ∧ m0x_63.toInt ≤ mkx_52.toInt + 1 ∧ m1x_64.toInt ≤ mkx_52.toInt + 1 := by omega
  obtain ⟨_, _, ⟨T83, L83, k83, n83⟩, -, X83, ⟨Lc83, hQ83, l83, y83, z83⟩, st83⟩ := Jvm.LawKit.callS X44 hx (y := (⟨"com/example/rackwise/rackwise/PathSearchFinishBackPinLaw", "run", "(Lcom/example/rackwise/rackwise/PathSearch;IJJ[J)Z"⟩ : MethodName)) hown (mvT hZ (tb hw 46 rfl)) (mvT hZ (tb hw 47 rfl)) (mvT hZ (tb hw 48 rfl)) (mvT hZ (tb hw 49 rfl)) (by decide) (backOf (W := 0) (rm4 l Z a0 hw [] b6 ((xf.toUInt32 >>> ((5 : Int32) &&& 31).toUInt32).toInt32) (xc &&& (2305843009213693951 : Int64)) (xd &&& (2305843009213693951 : Int64)) b37 q_24 ks_25 js_26 ss_27 po_28 di_29 ma_30 se_31 kf_32 jf_33 mkx_52 scx_53 enx_54 tsx_55 slx_56 stx_57 lmx_58 p0x_59 p1x_60 d0x_61 d1x_62 m0x_63 m1x_64 s0x_65 s1x_66 szx_67 KFx_68 JFx_69 snx_70 lax_71 svx_72 w0x_73 w1x_74 T44.heap n0 (Nat.le_trans Z0 K44.1) h78 h35 h79 h80 out_b37 nr_b37 Gb37 p108 p109) hZ (tb hw 49 rfl) (tb hw 48 rfl) (by decide) (by decide)) (g := (mkF m 57 #[vi xf, vj xa, sd, vj xb, sd, vj xc, sd, vj xd, sd, vr b6, vr b37] [(.ref b37), (.long (xd &&& (2305843009213693951 : Int64))), (.long (xc &&& (2305843009213693951 : Int64))), (.int ((xf.toUInt32 >>> ((5 : Int32) &&& 31).toUInt32).toInt32)), (.ref b6)])) rfl (by rw [hml]; rfl) (argsL := [(.ref b6), (.int ((xf.toUInt32 >>> ((5 : Int32) &&& 31).toUInt32).toInt32)), (.long (xc &&& (2305843009213693951 : Int64))), (.long (xd &&& (2305843009213693951 : Int64))), (.ref b37)]) (rest := []) (lenOf pd_13 rfl) rfl (by show 2 * 0 + _ ≤ _; exact Nat.le_of_eq rfl) (hb hby at_57) (fun _ _ => ⟨rfl, rfl, (by decide : 143 + 2 ≤ _), (by decide : 751 + 4 ≤ _)⟩)
  dsimp only [Pt.U, Pt.locs, Pt.cells, Pt.slots] at X83 l83 y83 z83 st83 hQ83
  subst y83 z83
  obtain ⟨mkx_110, scx_111, enx_112, tsx_113, slx_114, stx_115, lmx_116, p0x_117, p1x_118, d0x_119, d1x_120, m0x_121, m1x_122, s0x_123, s1x_124, szx_125, KFx_126, JFx_127, snx_128, lax_129, svx_130, w0x_131, w1x_132, rr_133, rfl, N83q, f134, f135, K83q, h136, h137, h138⟩ := hQ83
  have N83 : Fr n0 L83 := by rw [l83]; exact Fr.app N44 N83q
  have K83 : Lk h0 T83.heap := K44.trans K83q.1
  refine Go.st st83 ?_
  show Go p e below s Q 145 755 (T83.setTop (mkF m 60 #[vi xf, vj xa, sd, vj xb, sd, vj xc, sd, vj xd, sd, vr b6, vr b37] [(.int rr_133)]))
  have f139 := rng32 rr_133
  have f140 := liI_1
  exact Go.retN X83 hx hlk (by simp) Bd.returns (hb hby at_60) (bool_nar (by omega)) (by rw [← hQ]; exact ⟨congrArg (fun z => some (Value.int z)) (Int32.toInt_inj.mp (by omega)), N83, K83⟩) (by decide) (by decide)
set_option maxRecDepth 65536 in
set_option maxHeartbeats 40000000 in
theorem comes_1 {Post : Tables → Env → Array Value → State → Outcome → State → Prop} (hpost : ∀ tb e args s v u, (limb_1_1.after args s (.returned v) u = true ∧ limb_1_2.after args s (.returned v) u = true ∧ True) → FrameEnd s (.returned v) u (Jvm.fieldLocs frame_1_writes args s ++ Jvm.arrayLocs frame_1_arrays args s ++ Jvm.staticLocs frame_1_statics s) 296 1600 → Post tb e args s (.returned v) u) :
    ArmFor flags0 classFile x code maxLocals ret World_1 tables_1 room_1 Calls_1 rest_1 Pre_1 Post := by
  intro l hfl _ _ p e ha hc hk s m args below hf hA hF happ hP
  obtain ⟨hcalls, hrest, hpre⟩ := hP
  obtain ⟨-, -, -, hnamed, -, -, -, hat⟩ := (Spec.applies_iff hf).mp happ
  obtain ⟨hg, hn⟩ := and_e (Cond.before_iff.mp (show (Jvm.Cond.and given_1 narrow_1).before args s = true from hpre))
  obtain ⟨hcount, g0⟩ := and_e hg
  obtain ⟨a0, g1⟩ := and_e g0
  obtain ⟨a1, g2⟩ := and_e g1
  obtain ⟨a2, g3⟩ := and_e g2
  obtain ⟨a3, g4⟩ := and_e g3
  obtain ⟨w0, w1, w2, w3, w4, rfl⟩ : ∃ w0 w1 w2 w3 w4 : Value, args = #[w0, w1, w2, w3, w4] := by
    have hs : args.size = 5 := by simpa [Cond.value, given_1] using hcount
    obtain ⟨L⟩ := args
    match L, hs with
    | [w0, w1, w2, w3, w4], _ => exact ⟨w0, w1, w2, w3, w4, rfl⟩
  have hw := fun d (hd : d ∈ tables_1) => atoms_spec (ws := Jvm.Cond.code x code maxLocals ret :: tables_1) hat d (List.mem_cons_of_mem _ hd)
  have hfit : Fit s := fun {y c} hc i hi => by
    obtain ⟨ha, rfl⟩ := Array.getElem?_eq_some_iff.mp hc
    have q := List.all_eq_true.mp ((Array.all_eq_true_iff_forall_mem.mp hF) _ (Array.getElem_mem ha)) i (List.mem_range.mpr hi)
    simpa [Array.getElem?_eq_getElem hi] using q
  obtain ⟨i0, ei0⟩ := is_v a0
  obtain rfl : w0 = (.int i0) := Option.some.inj ei0
  obtain ⟨i1, ei1⟩ := isL_v a1
  obtain rfl : w1 = (.long i1) := Option.some.inj ei1
  obtain ⟨i2, ei2⟩ := isL_v a2
  obtain rfl : w2 = (.long i2) := Option.some.inj ei2
  obtain ⟨i3, ei3⟩ := isL_v a3
  obtain rfl : w3 = (.long i3) := Option.some.inj ei3
  obtain ⟨i4, ei4⟩ := isL_v g4
  obtain rfl : w4 = (.long i4) := Option.some.inj ei4
  obtain ⟨n, o, h1, h2, h3, _, L, rfl, ⟨rfl, N, _⟩, hq⟩ := rm0 l s _ hw tables_1 i0 i1 i2 i3 i4 s.heap s.heap.size (Nat.le_refl _)  p e ha hc hk s m _ below hf ((Spec.applies_iff_loose hf).mp happ).1 ⟨rfl, State.Warmed39.refl s, rfl⟩ trivial
  refine ⟨n, _, h1, h2, h3, hpost _ _ _ _ _ _ ⟨Cond.after_iff.mpr rfl, Cond.after_iff.mpr (eq_i res_at (Term.int_eval (1)) rfl), trivial⟩ ⟨hq.1, hq.2.1, (hq.2.2.sift fun y hy => Or.inr (N y hy)).mono (by decide) (by decide)⟩⟩
theorem main_1_1 : Claimed_1_1 := comes_1 fun _ _ _ _ _ _ h hF => ⟨h.1, hF⟩
theorem main_1_2 : Claimed_1_2 := comes_1 fun _ _ _ _ _ _ h hF => ⟨h.2.1, hF⟩
end Jvm.Pilot.@@N@@
namespace Jvm.Pilot.@@N@@
open Jvm Jvm.ClassFile Sem Op Lib Jvm.Free Jvm.Stand Jvm.Pilot.@@N@@.Jvm.D
/-! MADE BY PROGRAM (witnessworld.py) out of the Statement's table words and the real class files: 20 classes; the members and pool entries that the words name. The judged class is class 1, her method 1. -/
namespace start1
open Jvm.ClassFile
def u (s : String) : CpInfo := .utf8 (stringToUtf16 s)
/-- a pool by its gaps: so many unusable entries, then the entry; so many at the end -/
def gap : Nat → List CpInfo → List CpInfo
  | 0, r => r
  | n + 1, r => .unusable :: gap n r
def poolList (es : List (Nat × CpInfo)) (last : Nat) : List CpInfo := es.foldr (fun e r => gap e.1 (e.2 :: r)) (gap last [])
def pool (es : List (Nat × CpInfo)) (last : Nat) : Array CpInfo := ⟨poolList es last⟩
def fileOf (pool : Array CpInfo) (this : Nat) (attrs : Array Attribute := #[]) (ms : Array MethodInfo := #[]) (fl : Nat := 33) (sup : Nat := 0) (ifs : Array Nat := #[]) (fds : Array FieldInfo := #[]) : ClassFile where
  minorVersion := 0
  majorVersion := 65
  constantPool := pool
  accessFlags := fl
  thisClass := this
  superClass := sup
  interfaces := ifs
  fields := fds
  methods := ms
  attributes := attrs
def plain (name : String) (sup : Option ClassId) : Class where
  name := name
  kind := .ordinary
  loader := none
  accessFlags := 33
  super := sup
  interfaces := #[]
  cf := none
  fields := #[]
  methods := #[]
  instanceTypes := #[]
  staticTypes := #[]
  resolved := #[]
  callSites := []
  init := .initialized
  statics := none
  mirror := none

def pool0 : Array CpInfo := pool [(5, u "<init>"), (0, u "()V"), (1, .class_ 10), (1, u "java/lang/Object")] 113

def k0c0 : Code := { maxStack := 0, maxLocals := 1, code := object_method_1_code, exceptionTable := #[], attributes := #[] }
def k0m0 : Method := { name := "<init>", desc := "()V", sig := { parameters := [], returnType := none }, accessFlags := 1, code := some k0c0 }
/-- java/lang/Object -/
def k0 : Class := { plain "java/lang/Object" none with
  accessFlags := 33
  interfaces := #[]
  cf := some (fileOf pool0 8 #[] #[{ accessFlags := 1, nameIndex := 5, descriptorIndex := 6, attributes := #[] }] 33 0 #[] #[])
  fields := #[]
  methods := #[k0m0]
  instanceTypes := #[]
  staticTypes := #[]
  resolved := Array.replicate 124 none
  statics := none }

def pool1 : Array CpInfo := pool [(2, .class_ 4), (1, u "java/lang/Object"), (0, u "<init>"), (0, u "()V"), (0, .class_ 8), (0, u "com/example/rackwise/rackwise/PathSearch"), (0, .methodref 7 10), (0, .nameAndType 5 11), (0, u "(I)V"), (0, .class_ 13), (0, u "com/example/rackwise/rackwise/PathSearchFinishBackPinLaw"), (0, .long 2305843009213693951), (1, .methodref 12 17), (0, .nameAndType 18 19), (0, u "run"), (0, u "(Lcom/example/rackwise/rackwise/PathSearch;IJJ[J)Z"), (0, .methodref 7 21), (0, .nameAndType 22 23), (0, u "beginBack"), (0, u "([II)V"), (0, .methodref 7 25), (0, .nameAndType 26 27), (0, u "reachBack"), (0, u "(IJ)V"), (0, .methodref 7 29), (0, .nameAndType 30 31), (0, u "next"), (0, u "()I"), (0, .methodref 7 33), (0, .nameAndType 34 35), (0, u "finishBack"), (0, u "()Z"), (0, .methodref 37 38), (0, .class_ 39), (0, .nameAndType 40 41), (0, u "java/lang/Math"), (0, u "max"), (0, u "(JJ)J"), (0, .methodref 7 43), (0, .nameAndType 44 45), (0, u "potential"), (0, u "(I)J"), (0, u "MASK"), (0, u "J"), (3, u "law"), (0, u "(IJJJJ)Z")] 7

def k1m0 : Method := { name := "<init>", desc := "()V", sig := { parameters := [], returnType := none }, accessFlags := 1, code := none }
def k1c1 : Code := { maxStack := 8, maxLocals := 11, code := code, exceptionTable := #[], attributes := #[] }
def k1m1 : Method := { name := "law", desc := "(IJJJJ)Z", sig := { parameters := [.int, .long, .long, .long, .long], returnType := some .boolean }, accessFlags := 9, code := some k1c1 }
def k1c2 : Code := { maxStack := 6, maxLocals := 21, code := method_3_code, exceptionTable := #[], attributes := #[] }
def k1m2 : Method := { name := "run", desc := "(Lcom/example/rackwise/rackwise/PathSearch;IJJ[J)Z", sig := { parameters := [(.object "com/example/rackwise/rackwise/PathSearch"), .int, .long, .long, (.array .long)], returnType := some .boolean }, accessFlags := 10, code := some k1c2 }
/-- com/example/rackwise/rackwise/PathSearchFinishBackPinLaw -/
def k1 : Class := { plain "com/example/rackwise/rackwise/PathSearchFinishBackPinLaw" (some 0) with
  accessFlags := 49
  interfaces := #[]
  cf := some (fileOf pool1 12 #[] #[{ accessFlags := 1, nameIndex := 5, descriptorIndex := 6, attributes := #[] }, { accessFlags := 9, nameIndex := 51, descriptorIndex := 52, attributes := #[] }, { accessFlags := 10, nameIndex := 18, descriptorIndex := 19, attributes := #[] }] 49 2 #[] #[{ accessFlags := 26, nameIndex := 46, descriptorIndex := 47, attributes := #[] }])
  fields := #[{ name := "MASK", type := .long, accessFlags := 26, slot := 0, constantValue := 0 }]
  methods := #[k1m0, k1m1, k1m2]
  instanceTypes := #[]
  staticTypes := #[.long]
  resolved := Array.replicate 60 none
  statics := none }

def pool2 : Array CpInfo := pool [(11, u "<init>"), (8, .methodref 21 22), (0, .class_ 23), (0, .nameAndType 11 24), (0, u "java/lang/Object"), (0, u "()V"), (0, .class_ 26), (0, u "com/example/rackwise/rackwise/RadixHeap"), (0, .methodref 25 22), (0, .fieldref 29 30), (0, .class_ 31), (0, .nameAndType 32 33), (0, u "com/example/rackwise/rackwise/PathSearch"), (0, u "queue"), (0, u "Lcom/example/rackwise/rackwise/RadixHeap;"), (0, .fieldref 29 35), (0, .nameAndType 36 37), (0, u "potential"), (0, u "[J"), (0, .fieldref 29 39), (0, .nameAndType 40 37), (0, u "distance"), (0, .fieldref 29 42), (0, .nameAndType 43 44), (0, u "marks"), (0, u "[I"), (0, .fieldref 29 46), (0, .nameAndType 47 44), (0, u "settled"), (0, .fieldref 29 49), (0, .nameAndType 50 44), (0, u "ready"), (6, .fieldref 29 58), (0, .nameAndType 59 60), (0, u "mark"), (0, u "I"), (0, .fieldref 29 62), (0, .nameAndType 63 60), (0, u "settledCount"), (0, .fieldref 29 65), (0, .nameAndType 66 60), (0, u "readyCount"), (0, .methodref 25 68), (0, .nameAndType 69 24), (0, u "clear"), (0, .long 9223372036854775807), (1, .fieldref 29 73), (0, .nameAndType 74 75), (0, u "settling"), (0, u "J"), (0, .fieldref 29 77), (0, .nameAndType 78 75), (0, u "limit"), (0, .fieldref 29 80), (0, .nameAndType 81 60), (0, u "end"), (0, .fieldref 29 83), (0, .nameAndType 84 85), (0, u "toSources"), (0, u "Z"), (0, .fieldref 29 87), (0, .nameAndType 88 60), (0, u "sourcesLeft"), (0, .fieldref 29 90), (0, .nameAndType 91 44), (0, u "sourceIn"), (0, .methodref 25 93), (0, .nameAndType 94 95), (0, u "push"), (0, u "(JI)V"), (0, .methodref 25 97), (0, .nameAndType 98 99), (0, u "isEmpty"), (0, u "()Z"), (0, .methodref 25 101), (0, .nameAndType 102 103), (0, u "topKey"), (0, u "()J"), (0, .methodref 25 105), (0, .nameAndType 106 107), (0, u "topId"), (0, u "()I"), (0, .methodref 25 109), (0, .nameAndType 110 24), (0, u "pop"), (0, u "NONE"), (2, u "UNREACHED"), (8, u "(I)V"), (1, u "(I)J"), (0, u "beginBack"), (0, u "([II)V"), (0, u "reachBack"), (0, u "(IJ)V"), (1, u "next"), (0, u "finishBack")] 20

def k2c0 : Code := { maxStack := 3, maxLocals := 2, code := prog_96_method_2_code, exceptionTable := #[], attributes := #[] }
def k2m0 : Method := { name := "<init>", desc := "(I)V", sig := { parameters := [.int], returnType := none }, accessFlags := 0, code := some k2c0 }
def k2c1 : Code := { maxStack := 2, maxLocals := 2, code := prog_96_method_4_code, exceptionTable := #[], attributes := #[] }
def k2m1 : Method := { name := "potential", desc := "(I)J", sig := { parameters := [.int], returnType := some .long }, accessFlags := 0, code := some k2c1 }
def k2c2 : Code := { maxStack := 3, maxLocals := 4, code := prog_96_method_5_code, exceptionTable := #[], attributes := #[] }
def k2m2 : Method := { name := "beginBack", desc := "([II)V", sig := { parameters := [(.array .int), .int], returnType := none }, accessFlags := 0, code := some k2c2 }
def k2c3 : Code := { maxStack := 5, maxLocals := 7, code := prog_96_method_6_code, exceptionTable := #[], attributes := #[] }
def k2m3 : Method := { name := "reachBack", desc := "(IJ)V", sig := { parameters := [.int, .long], returnType := none }, accessFlags := 0, code := some k2c3 }
def k2c4 : Code := { maxStack := 5, maxLocals := 2, code := prog_96_method_8_code, exceptionTable := #[], attributes := #[] }
def k2m4 : Method := { name := "next", desc := "()I", sig := { parameters := [], returnType := some .int }, accessFlags := 0, code := some k2c4 }
def k2c5 : Code := { maxStack := 9, maxLocals := 5, code := prog_96_method_9_code, exceptionTable := #[], attributes := #[] }
def k2m5 : Method := { name := "finishBack", desc := "()Z", sig := { parameters := [], returnType := some .boolean }, accessFlags := 0, code := some k2c5 }
/-- com/example/rackwise/rackwise/PathSearch -/
def k2 : Class := { plain "com/example/rackwise/rackwise/PathSearch" (some 0) with
  accessFlags := 48
  interfaces := #[]
  cf := some (fileOf pool2 29 #[] #[{ accessFlags := 0, nameIndex := 11, descriptorIndex := 123, attributes := #[] }, { accessFlags := 0, nameIndex := 36, descriptorIndex := 125, attributes := #[] }, { accessFlags := 0, nameIndex := 126, descriptorIndex := 127, attributes := #[] }, { accessFlags := 0, nameIndex := 128, descriptorIndex := 129, attributes := #[] }, { accessFlags := 0, nameIndex := 131, descriptorIndex := 107, attributes := #[] }, { accessFlags := 0, nameIndex := 132, descriptorIndex := 99, attributes := #[] }] 48 21 #[] #[{ accessFlags := 24, nameIndex := 111, descriptorIndex := 60, attributes := #[] }, { accessFlags := 26, nameIndex := 114, descriptorIndex := 75, attributes := #[] }, { accessFlags := 18, nameIndex := 36, descriptorIndex := 37, attributes := #[] }, { accessFlags := 2, nameIndex := 59, descriptorIndex := 60, attributes := #[] }, { accessFlags := 18, nameIndex := 40, descriptorIndex := 37, attributes := #[] }, { accessFlags := 18, nameIndex := 43, descriptorIndex := 44, attributes := #[] }, { accessFlags := 18, nameIndex := 47, descriptorIndex := 44, attributes := #[] }, { accessFlags := 2, nameIndex := 63, descriptorIndex := 60, attributes := #[] }, { accessFlags := 18, nameIndex := 32, descriptorIndex := 33, attributes := #[] }, { accessFlags := 18, nameIndex := 50, descriptorIndex := 44, attributes := #[] }, { accessFlags := 2, nameIndex := 66, descriptorIndex := 60, attributes := #[] }, { accessFlags := 2, nameIndex := 74, descriptorIndex := 75, attributes := #[] }, { accessFlags := 2, nameIndex := 78, descriptorIndex := 75, attributes := #[] }, { accessFlags := 2, nameIndex := 81, descriptorIndex := 60, attributes := #[] }, { accessFlags := 2, nameIndex := 84, descriptorIndex := 85, attributes := #[] }, { accessFlags := 2, nameIndex := 91, descriptorIndex := 44, attributes := #[] }, { accessFlags := 2, nameIndex := 88, descriptorIndex := 60, attributes := #[] }])
  fields := #[{ name := "NONE", type := .int, accessFlags := 24, slot := 0, constantValue := 0 }, { name := "UNREACHED", type := .long, accessFlags := 26, slot := 1, constantValue := 0 }, { name := "potential", type := (.array .long), accessFlags := 18, slot := 0, constantValue := 0 }, { name := "mark", type := .int, accessFlags := 2, slot := 1, constantValue := 0 }, { name := "distance", type := (.array .long), accessFlags := 18, slot := 2, constantValue := 0 }, { name := "marks", type := (.array .int), accessFlags := 18, slot := 3, constantValue := 0 }, { name := "settled", type := (.array .int), accessFlags := 18, slot := 4, constantValue := 0 }, { name := "settledCount", type := .int, accessFlags := 2, slot := 5, constantValue := 0 }, { name := "queue", type := (.object "com/example/rackwise/rackwise/RadixHeap"), accessFlags := 18, slot := 6, constantValue := 0 }, { name := "ready", type := (.array .int), accessFlags := 18, slot := 7, constantValue := 0 }, { name := "readyCount", type := .int, accessFlags := 2, slot := 8, constantValue := 0 }, { name := "settling", type := .long, accessFlags := 2, slot := 9, constantValue := 0 }, { name := "limit", type := .long, accessFlags := 2, slot := 10, constantValue := 0 }, { name := "end", type := .int, accessFlags := 2, slot := 11, constantValue := 0 }, { name := "toSources", type := .boolean, accessFlags := 2, slot := 12, constantValue := 0 }, { name := "sourceIn", type := (.array .int), accessFlags := 2, slot := 13, constantValue := 0 }, { name := "sourcesLeft", type := .int, accessFlags := 2, slot := 14, constantValue := 0 }]
  methods := #[k2m0, k2m1, k2m2, k2m3, k2m4, k2m5]
  instanceTypes := #[(.array .long), .int, (.array .long), (.array .int), (.array .int), .int, (.object "com/example/rackwise/rackwise/RadixHeap"), (.array .int), .int, .long, .long, .int, .boolean, (.array .int), .int]
  staticTypes := #[.int, .long]
  resolved := Array.replicate 153 none
  statics := none }

def pool3 : Array CpInfo := pool [(1, .methodref 2 3), (0, .class_ 4), (0, .nameAndType 5 6), (0, u "java/lang/Object"), (0, u "<init>"), (0, u "()V"), (0, .class_ 8), (0, u "com/example/rackwise/rackwise/RadixHeap"), (0, .class_ 10), (0, u "[J"), (0, .fieldref 7 12), (0, .nameAndType 13 14), (0, u "keys"), (0, u "[[J"), (0, .class_ 16), (0, u "[I"), (0, .fieldref 7 18), (0, .nameAndType 19 20), (0, u "ids"), (0, u "[[I"), (0, .fieldref 7 22), (0, .nameAndType 23 16), (0, u "sizes"), (0, .class_ 25), (0, u "java/lang/Long"), (0, .long 9223372036854775808), (1, .fieldref 7 29), (0, .nameAndType 30 31), (0, u "last"), (0, u "J"), (0, .methodref 33 34), (0, .class_ 35), (0, .nameAndType 36 37), (0, u "java/util/Arrays"), (0, u "fill"), (0, u "([II)V"), (0, .fieldref 7 39), (0, .nameAndType 40 41), (0, u "size"), (0, u "I"), (0, .methodref 7 43), (0, .nameAndType 44 45), (0, u "bucketOf"), (0, u "(J)I"), (0, .methodref 7 47), (0, .nameAndType 48 49), (0, u "add"), (0, u "(IJI)V"), (0, .methodref 7 51), (0, .nameAndType 52 6), (0, u "fillFirstBucket"), (0, .methodref 24 54), (0, .nameAndType 55 45), (0, u "numberOfLeadingZeros"), (7, .methodref 64 65), (0, .class_ 66), (0, .nameAndType 67 68), (0, u "java/lang/Math"), (0, u "min"), (0, u "(JJ)J"), (0, u "BUCKETS"), (5, u "clear"), (0, u "isEmpty"), (0, u "()Z"), (0, u "push"), (0, u "(JI)V"), (0, u "topKey"), (0, u "()J"), (0, u "topId"), (0, u "()I"), (0, u "pop")] 2

def k3c0 : Code := { maxStack := 3, maxLocals := 2, code := prog_107_method_1_code, exceptionTable := #[], attributes := #[] }
def k3m0 : Method := { name := "<init>", desc := "()V", sig := { parameters := [], returnType := none }, accessFlags := 0, code := some k3c0 }
def k3c1 : Code := { maxStack := 3, maxLocals := 1, code := prog_107_method_2_code, exceptionTable := #[], attributes := #[] }
def k3m1 : Method := { name := "clear", desc := "()V", sig := { parameters := [], returnType := none }, accessFlags := 0, code := some k3c1 }
def k3c2 : Code := { maxStack := 1, maxLocals := 1, code := prog_107_method_3_code, exceptionTable := #[], attributes := #[] }
def k3m2 : Method := { name := "isEmpty", desc := "()Z", sig := { parameters := [], returnType := some .boolean }, accessFlags := 0, code := some k3c2 }
def k3c3 : Code := { maxStack := 5, maxLocals := 4, code := prog_107_method_4_code, exceptionTable := #[], attributes := #[] }
def k3m3 : Method := { name := "push", desc := "(JI)V", sig := { parameters := [.long, .int], returnType := none }, accessFlags := 0, code := some k3c3 }
def k3c4 : Code := { maxStack := 3, maxLocals := 1, code := prog_107_method_5_code, exceptionTable := #[], attributes := #[] }
def k3m4 : Method := { name := "topKey", desc := "()J", sig := { parameters := [], returnType := some .long }, accessFlags := 0, code := some k3c4 }
def k3c5 : Code := { maxStack := 3, maxLocals := 1, code := prog_107_method_6_code, exceptionTable := #[], attributes := #[] }
def k3m5 : Method := { name := "topId", desc := "()I", sig := { parameters := [], returnType := some .int }, accessFlags := 0, code := some k3c5 }
def k3c6 : Code := { maxStack := 4, maxLocals := 1, code := prog_107_method_7_code, exceptionTable := #[], attributes := #[] }
def k3m6 : Method := { name := "pop", desc := "()V", sig := { parameters := [], returnType := none }, accessFlags := 0, code := some k3c6 }
def k3c7 : Code := { maxStack := 5, maxLocals := 3, code := prog_107_method_8_code, exceptionTable := #[], attributes := #[] }
def k3m7 : Method := { name := "bucketOf", desc := "(J)I", sig := { parameters := [.long], returnType := some .int }, accessFlags := 2, code := some k3c7 }
def k3c8 : Code := { maxStack := 5, maxLocals := 6, code := prog_107_method_9_code, exceptionTable := #[], attributes := #[] }
def k3m8 : Method := { name := "add", desc := "(IJI)V", sig := { parameters := [.int, .long, .int], returnType := none }, accessFlags := 2, code := some k3c8 }
def k3c9 : Code := { maxStack := 6, maxLocals := 8, code := prog_107_method_10_code, exceptionTable := #[], attributes := #[] }
def k3m9 : Method := { name := "fillFirstBucket", desc := "()V", sig := { parameters := [], returnType := none }, accessFlags := 2, code := some k3c9 }
/-- com/example/rackwise/rackwise/RadixHeap -/
def k3 : Class := { plain "com/example/rackwise/rackwise/RadixHeap" (some 0) with
  accessFlags := 48
  interfaces := #[]
  cf := some (fileOf pool3 7 #[] #[{ accessFlags := 0, nameIndex := 5, descriptorIndex := 6, attributes := #[] }, { accessFlags := 0, nameIndex := 75, descriptorIndex := 6, attributes := #[] }, { accessFlags := 0, nameIndex := 76, descriptorIndex := 77, attributes := #[] }, { accessFlags := 0, nameIndex := 78, descriptorIndex := 79, attributes := #[] }, { accessFlags := 0, nameIndex := 80, descriptorIndex := 81, attributes := #[] }, { accessFlags := 0, nameIndex := 82, descriptorIndex := 83, attributes := #[] }, { accessFlags := 0, nameIndex := 84, descriptorIndex := 6, attributes := #[] }, { accessFlags := 2, nameIndex := 44, descriptorIndex := 45, attributes := #[] }, { accessFlags := 2, nameIndex := 48, descriptorIndex := 49, attributes := #[] }, { accessFlags := 2, nameIndex := 52, descriptorIndex := 6, attributes := #[] }] 48 2 #[] #[{ accessFlags := 26, nameIndex := 69, descriptorIndex := 41, attributes := #[] }, { accessFlags := 18, nameIndex := 13, descriptorIndex := 14, attributes := #[] }, { accessFlags := 18, nameIndex := 19, descriptorIndex := 20, attributes := #[] }, { accessFlags := 18, nameIndex := 23, descriptorIndex := 16, attributes := #[] }, { accessFlags := 2, nameIndex := 40, descriptorIndex := 41, attributes := #[] }, { accessFlags := 2, nameIndex := 30, descriptorIndex := 31, attributes := #[] }])
  fields := #[{ name := "BUCKETS", type := .int, accessFlags := 26, slot := 0, constantValue := 0 }, { name := "keys", type := (.array (.array .long)), accessFlags := 18, slot := 0, constantValue := 0 }, { name := "ids", type := (.array (.array .int)), accessFlags := 18, slot := 1, constantValue := 0 }, { name := "sizes", type := (.array .int), accessFlags := 18, slot := 2, constantValue := 0 }, { name := "size", type := .int, accessFlags := 2, slot := 3, constantValue := 0 }, { name := "last", type := .long, accessFlags := 2, slot := 4, constantValue := 0 }]
  methods := #[k3m0, k3m1, k3m2, k3m3, k3m4, k3m5, k3m6, k3m7, k3m8, k3m9]
  instanceTypes := #[(.array (.array .long)), (.array (.array .int)), (.array .int), .int, .long]
  staticTypes := #[.int]
  resolved := Array.replicate 87 none
  statics := none }

def pool4 : Array CpInfo := pool [(2, .class_ 4), (1, u "java/lang/Object"), (0, u "<init>"), (0, u "()V"), (7, .class_ 16), (1, u "java/util/Arrays"), (57, .class_ 76), (1, u "java/util/Arrays$NaturalOrder"), (36, .class_ 115), (1, u "java/util/Arrays$LegacyMergeSort"), (1, u "Z"), (257, .class_ 376), (0, u "java/util/Arrays$ArrayList"), (68, u "$assertionsDisabled"), (269, u "MIN_ARRAY_SORT_GRAN"), (0, u "I"), (2, u "INSERTIONSORT_THRESHOLD"), (120, u "fill"), (4, u "([II)V"), (129, .class_ 976), (0, u "java/util/Arrays$ArrayItr")] 52

def k4m0 : Method := { name := "<init>", desc := "()V", sig := { parameters := [], returnType := none }, accessFlags := 2, code := none }
def k4c1 : Code := { maxStack := 3, maxLocals := 4, code := jdk_65_method_103_code, exceptionTable := #[], attributes := #[] }
def k4m1 : Method := { name := "fill", desc := "([II)V", sig := { parameters := [(.array .int), .int], returnType := none }, accessFlags := 9, code := some k4c1 }
/-- java/util/Arrays -/
def k4 : Class := { plain "java/util/Arrays" (some 0) with
  accessFlags := 49
  interfaces := #[]
  cf := some (fileOf pool4 14 #[.nestMembers #[975, 375, 113, 74]] #[{ accessFlags := 2, nameIndex := 5, descriptorIndex := 6, attributes := #[] }, { accessFlags := 9, nameIndex := 840, descriptorIndex := 845, attributes := #[] }] 49 2 #[] #[{ accessFlags := 26, nameIndex := 715, descriptorIndex := 716, attributes := #[] }, { accessFlags := 26, nameIndex := 719, descriptorIndex := 716, attributes := #[] }, { accessFlags := 4120, nameIndex := 445, descriptorIndex := 117, attributes := #[] }])
  fields := #[{ name := "MIN_ARRAY_SORT_GRAN", type := .int, accessFlags := 26, slot := 0, constantValue := 0 }, { name := "INSERTIONSORT_THRESHOLD", type := .int, accessFlags := 26, slot := 1, constantValue := 0 }, { name := "$assertionsDisabled", type := .boolean, accessFlags := 4120, slot := 2, constantValue := 0 }]
  methods := #[k4m0, k4m1]
  instanceTypes := #[]
  staticTypes := #[.int, .int, .boolean]
  resolved := Array.replicate 1029 none
  statics := none }

def pool5 : Array CpInfo := pool [(1, .class_ 2), (0, u "java/io/Serializable"), (0, .class_ 4), (0, u "java/lang/Object")] 2

/-- java/io/Serializable -/
def k5 : Class := { plain "java/io/Serializable" (some 0) with
  accessFlags := 1537
  interfaces := #[]
  cf := some (fileOf pool5 1 #[] #[] 1537 3 #[] #[])
  fields := #[]
  methods := #[]
  instanceTypes := #[]
  staticTypes := #[]
  resolved := Array.replicate 7 none
  statics := none }

def pool6 : Array CpInfo := pool [(2, .class_ 4), (1, u "java/lang/Object"), (0, u "<init>"), (0, u "()V"), (1, .class_ 10), (1, u "java/lang/Number"), (2, .class_ 14), (0, u "java/io/Serializable"), (0, u "serialVersionUID"), (0, u "J")] 20

def k6m0 : Method := { name := "<init>", desc := "()V", sig := { parameters := [], returnType := none }, accessFlags := 1, code := none }
/-- java/lang/Number -/
def k6 : Class := { plain "java/lang/Number" (some 0) with
  accessFlags := 1057
  interfaces := #[5]
  cf := some (fileOf pool6 8 #[] #[{ accessFlags := 1, nameIndex := 5, descriptorIndex := 6, attributes := #[] }] 1057 2 #[13] #[{ accessFlags := 26, nameIndex := 15, descriptorIndex := 16, attributes := #[] }])
  fields := #[{ name := "serialVersionUID", type := .long, accessFlags := 26, slot := 0, constantValue := 0 }]
  methods := #[k6m0]
  instanceTypes := #[]
  staticTypes := #[.long]
  resolved := Array.replicate 37 none
  statics := none }

def pool7 : Array CpInfo := pool [(1, .class_ 2), (0, u "java/lang/Comparable"), (0, .class_ 4), (0, u "java/lang/Object")] 7

/-- java/lang/Comparable -/
def k7 : Class := { plain "java/lang/Comparable" (some 0) with
  accessFlags := 1537
  interfaces := #[]
  cf := some (fileOf pool7 1 #[] #[] 1537 3 #[] #[])
  fields := #[]
  methods := #[]
  instanceTypes := #[]
  staticTypes := #[]
  resolved := Array.replicate 12 none
  statics := none }

def pool8 : Array CpInfo := pool [(1, .class_ 2), (0, u "java/lang/constant/Constable"), (0, .class_ 4), (0, u "java/lang/Object")] 6

/-- java/lang/constant/Constable -/
def k8 : Class := { plain "java/lang/constant/Constable" (some 0) with
  accessFlags := 1537
  interfaces := #[]
  cf := some (fileOf pool8 1 #[] #[] 1537 3 #[] #[])
  fields := #[]
  methods := #[]
  instanceTypes := #[]
  staticTypes := #[]
  resolved := Array.replicate 11 none
  statics := none }

def pool9 : Array CpInfo := pool [(1, .class_ 2), (0, u "java/lang/constant/ConstantDesc"), (0, .class_ 4), (0, u "java/lang/Object")] 32

/-- java/lang/constant/ConstantDesc -/
def k9 : Class := { plain "java/lang/constant/ConstantDesc" (some 0) with
  accessFlags := 1537
  interfaces := #[]
  cf := some (fileOf pool9 1 #[] #[] 1537 3 #[] #[])
  fields := #[]
  methods := #[]
  instanceTypes := #[]
  staticTypes := #[]
  resolved := Array.replicate 37 none
  statics := none }

def pool10 : Array CpInfo := pool [(1, .class_ 2), (0, u "java/lang/Long"), (15, .class_ 20), (1, u "java/lang/Integer"), (79, u "numberOfLeadingZeros"), (0, u "(J)I"), (133, .class_ 237), (1, u "java/lang/Long$LongCache"), (33, .class_ 272), (0, u "java/lang/Number"), (2, u "value"), (0, u "J"), (31, .methodref 18 309), (0, .nameAndType 100 310), (0, u "(I)I"), (50, u "TYPE"), (0, u "Ljava/lang/Class;"), (0, .class_ 364), (0, u "java/lang/Comparable"), (0, .class_ 366), (0, u "java/lang/constant/Constable"), (0, .class_ 368), (0, u "java/lang/constant/ConstantDesc"), (0, u "MIN_VALUE"), (1, u "MAX_VALUE"), (4, u "SIZE"), (0, u "I"), (1, u "BYTES"), (1, u "serialVersionUID")] 142

def k10c0 : Code := { maxStack := 3, maxLocals := 3, code := jdk_35_method_48_code, exceptionTable := #[], attributes := #[] }
def k10m0 : Method := { name := "numberOfLeadingZeros", desc := "(J)I", sig := { parameters := [.long], returnType := some .int }, accessFlags := 9, code := some k10c0 }
/-- java/lang/Long -/
def k10 : Class := { plain "java/lang/Long" (some 6) with
  accessFlags := 49
  interfaces := #[7, 8, 9]
  cf := some (fileOf pool10 1 #[.nestMembers #[235]] #[{ accessFlags := 9, nameIndex := 100, descriptorIndex := 101, attributes := #[] }] 49 271 #[363, 365, 367] #[{ accessFlags := 25, nameIndex := 369, descriptorIndex := 276, attributes := #[] }, { accessFlags := 25, nameIndex := 371, descriptorIndex := 276, attributes := #[] }, { accessFlags := 25, nameIndex := 361, descriptorIndex := 362, attributes := #[] }, { accessFlags := 18, nameIndex := 275, descriptorIndex := 276, attributes := #[] }, { accessFlags := 25, nameIndex := 376, descriptorIndex := 377, attributes := #[] }, { accessFlags := 25, nameIndex := 379, descriptorIndex := 377, attributes := #[] }, { accessFlags := 26, nameIndex := 381, descriptorIndex := 276, attributes := #[] }])
  fields := #[{ name := "MIN_VALUE", type := .long, accessFlags := 25, slot := 0, constantValue := 0 }, { name := "MAX_VALUE", type := .long, accessFlags := 25, slot := 1, constantValue := 0 }, { name := "TYPE", type := (.object "java/lang/Class"), accessFlags := 25, slot := 2, constantValue := 0 }, { name := "value", type := .long, accessFlags := 18, slot := 0, constantValue := 0 }, { name := "SIZE", type := .int, accessFlags := 25, slot := 3, constantValue := 0 }, { name := "BYTES", type := .int, accessFlags := 25, slot := 4, constantValue := 0 }, { name := "serialVersionUID", type := .long, accessFlags := 26, slot := 5, constantValue := 0 }]
  methods := #[k10m0]
  instanceTypes := #[.long]
  staticTypes := #[.long, .long, (.object "java/lang/Class"), .int, .int, .long]
  resolved := Array.replicate 524 none
  statics := none }

def pool11 : Array CpInfo := pool [(1, .class_ 2), (0, u "java/lang/Integer"), (16, u "digits"), (0, u "[C"), (32, u "numberOfLeadingZeros"), (0, u "(I)I"), (30, u "DigitOnes"), (0, u "[B"), (2, u "DigitTens"), (99, .class_ 190), (0, u "java/lang/Integer$IntegerCache"), (3, u "I"), (8, .class_ 204), (0, u "java/lang/Number"), (2, u "value"), (56, .integer 65536), (37, u "TYPE"), (0, u "Ljava/lang/Class;"), (0, .class_ 305), (0, u "java/lang/Comparable"), (0, .class_ 307), (0, u "java/lang/constant/Constable"), (0, .class_ 309), (0, u "java/lang/constant/ConstantDesc"), (0, u "MIN_VALUE"), (1, u "MAX_VALUE"), (3, u "SIZE"), (1, u "BYTES"), (1, u "serialVersionUID"), (0, u "J")] 131

def k11c0 : Code := { maxStack := 3, maxLocals := 2, code := jdk_33_method_47_code, exceptionTable := #[], attributes := #[] }
def k11m0 : Method := { name := "numberOfLeadingZeros", desc := "(I)I", sig := { parameters := [.int], returnType := some .int }, accessFlags := 9, code := some k11c0 }
/-- java/lang/Integer -/
def k11 : Class := { plain "java/lang/Integer" (some 6) with
  accessFlags := 49
  interfaces := #[7, 8, 9]
  cf := some (fileOf pool11 1 #[.nestMembers #[189]] #[{ accessFlags := 9, nameIndex := 53, descriptorIndex := 54, attributes := #[] }] 49 203 #[304, 306, 308] #[{ accessFlags := 25, nameIndex := 310, descriptorIndex := 194, attributes := #[] }, { accessFlags := 25, nameIndex := 312, descriptorIndex := 194, attributes := #[] }, { accessFlags := 25, nameIndex := 302, descriptorIndex := 303, attributes := #[] }, { accessFlags := 24, nameIndex := 19, descriptorIndex := 20, attributes := #[] }, { accessFlags := 24, nameIndex := 89, descriptorIndex := 86, attributes := #[] }, { accessFlags := 24, nameIndex := 85, descriptorIndex := 86, attributes := #[] }, { accessFlags := 18, nameIndex := 207, descriptorIndex := 194, attributes := #[] }, { accessFlags := 25, nameIndex := 316, descriptorIndex := 194, attributes := #[] }, { accessFlags := 25, nameIndex := 318, descriptorIndex := 194, attributes := #[] }, { accessFlags := 26, nameIndex := 320, descriptorIndex := 321, attributes := #[] }])
  fields := #[{ name := "MIN_VALUE", type := .int, accessFlags := 25, slot := 0, constantValue := 0 }, { name := "MAX_VALUE", type := .int, accessFlags := 25, slot := 1, constantValue := 0 }, { name := "TYPE", type := (.object "java/lang/Class"), accessFlags := 25, slot := 2, constantValue := 0 }, { name := "digits", type := (.array .char), accessFlags := 24, slot := 3, constantValue := 0 }, { name := "DigitTens", type := (.array .byte), accessFlags := 24, slot := 4, constantValue := 0 }, { name := "DigitOnes", type := (.array .byte), accessFlags := 24, slot := 5, constantValue := 0 }, { name := "value", type := .int, accessFlags := 18, slot := 0, constantValue := 0 }, { name := "SIZE", type := .int, accessFlags := 25, slot := 6, constantValue := 0 }, { name := "BYTES", type := .int, accessFlags := 25, slot := 7, constantValue := 0 }, { name := "serialVersionUID", type := .long, accessFlags := 26, slot := 8, constantValue := 0 }]
  methods := #[k11m0]
  instanceTypes := #[.int]
  staticTypes := #[.int, .int, (.object "java/lang/Class"), (.array .char), (.array .byte), (.array .byte), .int, .int, .long]
  resolved := Array.replicate 453 none
  statics := none }

def pool12 : Array CpInfo := pool [(1, .class_ 2), (0, u "java/lang/Math"), (1, .class_ 6), (1, u "java/lang/Object"), (0, u "<init>"), (0, u "()V"), (89, .class_ 100), (1, u "java/lang/Math$RandomNumberGeneratorHolder"), (20, u "(JJ)J"), (50, u "negativeZeroFloatBits"), (0, u "J"), (2, u "negativeZeroDoubleBits"), (21, u "max"), (2, u "min"), (43, u "$assertionsDisabled"), (0, u "Z"), (91, u "twoToTheDoubleScaleDown"), (0, u "D"), (4, u "twoToTheDoubleScaleUp"), (9, u "E"), (3, u "PI"), (2, u "TAU"), (2, u "DEGREES_TO_RADIANS"), (0, u "RADIANS_TO_DEGREES")] 94

def k12m0 : Method := { name := "<init>", desc := "()V", sig := { parameters := [], returnType := none }, accessFlags := 2, code := none }
def k12c1 : Code := { maxStack := 4, maxLocals := 4, code := jdk_29_method_66_code, exceptionTable := #[], attributes := #[] }
def k12m1 : Method := { name := "max", desc := "(JJ)J", sig := { parameters := [.long, .long], returnType := some .long }, accessFlags := 9, code := some k12c1 }
def k12c2 : Code := { maxStack := 4, maxLocals := 4, code := jdk_29_method_70_code, exceptionTable := #[], attributes := #[] }
def k12m2 : Method := { name := "min", desc := "(JJ)J", sig := { parameters := [.long, .long], returnType := some .long }, accessFlags := 9, code := some k12c2 }
/-- java/lang/Math -/
def k12 : Class := { plain "java/lang/Math" (some 0) with
  accessFlags := 49
  interfaces := #[]
  cf := some (fileOf pool12 1 #[.nestMembers #[98]] #[{ accessFlags := 2, nameIndex := 7, descriptorIndex := 8, attributes := #[] }, { accessFlags := 9, nameIndex := 198, descriptorIndex := 121, attributes := #[] }, { accessFlags := 9, nameIndex := 201, descriptorIndex := 121, attributes := #[] }] 49 4 #[] #[{ accessFlags := 25, nameIndex := 354, descriptorIndex := 339, attributes := #[] }, { accessFlags := 25, nameIndex := 358, descriptorIndex := 339, attributes := #[] }, { accessFlags := 25, nameIndex := 361, descriptorIndex := 339, attributes := #[] }, { accessFlags := 26, nameIndex := 364, descriptorIndex := 339, attributes := #[] }, { accessFlags := 26, nameIndex := 365, descriptorIndex := 339, attributes := #[] }, { accessFlags := 26, nameIndex := 172, descriptorIndex := 173, attributes := #[] }, { accessFlags := 26, nameIndex := 176, descriptorIndex := 173, attributes := #[] }, { accessFlags := 8, nameIndex := 344, descriptorIndex := 339, attributes := #[] }, { accessFlags := 8, nameIndex := 338, descriptorIndex := 339, attributes := #[] }, { accessFlags := 4120, nameIndex := 245, descriptorIndex := 246, attributes := #[] }])
  fields := #[{ name := "E", type := .double, accessFlags := 25, slot := 0, constantValue := 0 }, { name := "PI", type := .double, accessFlags := 25, slot := 1, constantValue := 0 }, { name := "TAU", type := .double, accessFlags := 25, slot := 2, constantValue := 0 }, { name := "DEGREES_TO_RADIANS", type := .double, accessFlags := 26, slot := 3, constantValue := 0 }, { name := "RADIANS_TO_DEGREES", type := .double, accessFlags := 26, slot := 4, constantValue := 0 }, { name := "negativeZeroFloatBits", type := .long, accessFlags := 26, slot := 5, constantValue := 0 }, { name := "negativeZeroDoubleBits", type := .long, accessFlags := 26, slot := 6, constantValue := 0 }, { name := "twoToTheDoubleScaleUp", type := .double, accessFlags := 8, slot := 7, constantValue := 0 }, { name := "twoToTheDoubleScaleDown", type := .double, accessFlags := 8, slot := 8, constantValue := 0 }, { name := "$assertionsDisabled", type := .boolean, accessFlags := 4120, slot := 9, constantValue := 0 }]
  methods := #[k12m0, k12m1, k12m2]
  instanceTypes := #[]
  staticTypes := #[.double, .double, .double, .double, .double, .long, .long, .double, .double, .boolean]
  resolved := Array.replicate 460 none
  statics := none }

def pool13 : Array CpInfo := pool [(1, u "java/lang/Cloneable"), (0, .class_ 1), (0, u "java/lang/Object"), (0, .class_ 3)] 3

/-- java/lang/Cloneable -/
def k13 : Class := { plain "java/lang/Cloneable" (some 0) with
  accessFlags := 1537
  interfaces := #[]
  cf := some (fileOf pool13 2 #[] #[] 1537 4 #[] #[])
  fields := #[]
  methods := #[]
  instanceTypes := #[]
  staticTypes := #[]
  resolved := Array.replicate 8 none
  statics := none }

/-- the primitive byte -/
def k14 : Class := { plain "byte" none with kind := .primitive 'B', accessFlags := 0x411 }
/-- [B -/
def k15 : Class := { plain "[B" (some 0) with kind := .array 14 .byte, interfaces := #[13, 5], accessFlags := 1041 }

/-- the primitive int -/
def k16 : Class := { plain "int" none with kind := .primitive 'I', accessFlags := 0x411 }
/-- [I -/
def k17 : Class := { plain "[I" (some 0) with kind := .array 16 .int, interfaces := #[13, 5], accessFlags := 1041 }

/-- the primitive long -/
def k18 : Class := { plain "long" none with kind := .primitive 'J', accessFlags := 0x411 }
/-- [J -/
def k19 : Class := { plain "[J" (some 0) with kind := .array 18 .long, interfaces := #[13, 5], accessFlags := 1041 }

def heap : Heap := #[]
def k20 : Class := { plain "[[I" (some 0) with kind := .array 17 (.array .int), interfaces := #[13, 5], accessFlags := 1041 }
def k21 : Class := { plain "[[J" (some 0) with kind := .array 19 (.array .long), interfaces := #[13, 5], accessFlags := 1041 }
def classes : Array Class := #[k0, k1, k2, k3, k4, k5, k6, k7, k8, k9, k10, k11, k12, k13, k14, k15, k16, k17, k18, k19, k20, k21]
def interned : List (Array UInt16 × Addr) := []
def slotsUsed : Nat := 0
def theMethod : MethodId := ⟨1, 1⟩
def args0 : Array Value := #[.int 13, .long 5, .long 7, .long 3, .long 9]
def aboutOver (below : List Frame) : State where
  vm := { classes := classes, interned := interned.toArray }
  heap := heap
  slotsUsed := slotsUsed
  threads := #[{ frames := .invoking theMethod args0 :: below }]
def below0 : List Frame := [.native { method := ⟨0, 0⟩, args := #[] }]
def about1 : State := aboutOver below0
def p0 : Program := .bare "" "" ""
def e0 : Env := launch0.env 0 0 0
theorem w_frames : about1.frames = Frame.invoking theMethod args0 :: below0 := rfl
set_option maxRecDepth 65536 in
theorem w_args : argsFit about1.vm theMethod args0 = true := by decide +kernel
set_option maxRecDepth 65536 in
theorem w_heap : heapFits about1 = true := by decide +kernel
set_option maxRecDepth 65536 in
theorem w_runnable : about1.curStatus? = some .runnable := by decide +kernel
set_option maxRecDepth 65536 in
theorem w_alone : about1.alone = true := by decide +kernel
set_option maxRecDepth 65536 in
theorem w_named : about1.methodNamed? x = some theMethod := by decide +kernel
set_option maxRecDepth 65536 in
theorem w_hears : about1.hears theMethod below0 = true := by decide +kernel
set_option maxRecDepth 65536 in
theorem w_ripe : about1.ripe theMethod args0 below0 = true := by decide +kernel
theorem w_running : about1.status = .running := rfl
set_option maxRecDepth 65536 in
theorem w_room : about1.hasRoom e0.platform room_1 = true :=
  launch0.hasRoom_least _ room_1 (by decide +kernel) (by decide +kernel) (by decide +kernel) (by decide +kernel) (by decide +kernel) (by decide +kernel)
theorem allAtoms_all (ts : List Jvm.Cond) (a : Array Jvm.Value) (st : Jvm.State) : (allAtoms ts).before a st = ts.all (fun c => c.before a st) := by
  induction ts with
  | nil => rfl
  | cons c t ih =>
    show (Jvm.Cond.and c (allAtoms t)).before a st = _
    rw [Jvm.Cond.before_and, ih, List.all_cons]
def words1 : List Jvm.Cond := Jvm.Cond.code x code maxLocals ret :: tables_1
/-- a 'code' word, met by the world's own term for the bytes: nothing is compared byte by byte -/
theorem code_word {y : MethodName} {bytes : ByteArray} {mx : Nat} {rt : Option FieldType} {a : Array Value} {s : State} {m : MethodId} {meth : Method} {c : Code} (h1 : s.methodNamed? y = some m) (h2 : s.vm.method? m = some meth) (h3 : meth.code = some c) (h4 : c.code = bytes)
    (h5 : (c.maxLocals == mx && c.exceptionTable.isEmpty && decide (c.maxStack ≤ mostOperands) && decide (meth.sig.returnType = rt) && !meth.locks && decide (parseMethodDescriptor y.desc = some meth.sig)) = true) : (Jvm.Cond.code y bytes mx rt).before a s = true := by
  simp only [Bool.and_eq_true, beq_iff_eq, Bool.not_eq_true', decide_eq_true_eq] at h5
  obtain ⟨⟨⟨⟨⟨g1, g2⟩, g3⟩, g4⟩, g5⟩, g6⟩ := h5
  simp [Cond.before, Cond.holds, Cond.value, h1, h2, h3, h4, g1, g2, g3, g4, g5, g6]
def isCode : Jvm.Cond → Bool
  | .code _ _ _ _ => true
  | _ => false
theorem all_split {L : List Jvm.Cond} {P : Jvm.Cond → Bool} (h1 : L.all (fun c => isCode c || P c) = true) (h2 : ∀ c ∈ L.filter isCode, P c = true) : L.all P = true := by
  refine List.all_eq_true.mpr fun c hc => ?_
  have h := List.all_eq_true.mp h1 c hc
  rcases Bool.eq_false_or_eq_true (isCode c) with hi | hi
  · exact h2 c (List.mem_filter.mpr ⟨hc, hi⟩)
  · simpa [hi] using h
set_option maxRecDepth 65536 in
theorem w_c0 : (Jvm.Cond.code x code maxLocals ret).before args0 about1 = true := code_word (m := ⟨1, 1⟩) (meth := k1m1) (c := k1c1) (by decide +kernel) rfl rfl rfl (by decide +kernel)
set_option maxRecDepth 65536 in
theorem w_c1 : (Jvm.Cond.code ({ cls := "com/example/rackwise/rackwise/PathSearch", name := "<init>", desc := "(I)V" } : Jvm.MethodName) prog_96_method_2_code (2 : Nat) (Option.none : Option Jvm.ClassFile.FieldType)).before args0 about1 = true := code_word (m := ⟨2, 0⟩) (meth := k2m0) (c := k2c0) (by decide +kernel) rfl rfl rfl (by decide +kernel)
set_option maxRecDepth 65536 in
theorem w_c2 : (Jvm.Cond.code ({ cls := "java/lang/Object", name := "<init>", desc := "()V" } : Jvm.MethodName) object_method_1_code (1 : Nat) (Option.none : Option Jvm.ClassFile.FieldType)).before args0 about1 = true := code_word (m := ⟨0, 0⟩) (meth := k0m0) (c := k0c0) (by decide +kernel) rfl rfl rfl (by decide +kernel)
set_option maxRecDepth 65536 in
theorem w_c3 : (Jvm.Cond.code ({ cls := "com/example/rackwise/rackwise/RadixHeap", name := "<init>", desc := "()V" } : Jvm.MethodName) prog_107_method_1_code (2 : Nat) (Option.none : Option Jvm.ClassFile.FieldType)).before args0 about1 = true := code_word (m := ⟨3, 0⟩) (meth := k3m0) (c := k3c0) (by decide +kernel) rfl rfl rfl (by decide +kernel)
set_option maxRecDepth 65536 in
theorem w_c4 : (Jvm.Cond.code ({ cls := "com/example/rackwise/rackwise/PathSearchFinishBackPinLaw", name := "run", desc := "(Lcom/example/rackwise/rackwise/PathSearch;IJJ[J)Z" } : Jvm.MethodName) method_3_code (21 : Nat) (Option.some Jvm.ClassFile.FieldType.boolean)).before args0 about1 = true := code_word (m := ⟨1, 2⟩) (meth := k1m2) (c := k1c2) (by decide +kernel) rfl rfl rfl (by decide +kernel)
set_option maxRecDepth 65536 in
theorem w_c5 : (Jvm.Cond.code ({ cls := "com/example/rackwise/rackwise/PathSearch", name := "beginBack", desc := "([II)V" } : Jvm.MethodName) prog_96_method_5_code (4 : Nat) (Option.none : Option Jvm.ClassFile.FieldType)).before args0 about1 = true := code_word (m := ⟨2, 2⟩) (meth := k2m2) (c := k2c2) (by decide +kernel) rfl rfl rfl (by decide +kernel)
set_option maxRecDepth 65536 in
theorem w_c6 : (Jvm.Cond.code ({ cls := "com/example/rackwise/rackwise/RadixHeap", name := "clear", desc := "()V" } : Jvm.MethodName) prog_107_method_2_code (1 : Nat) (Option.none : Option Jvm.ClassFile.FieldType)).before args0 about1 = true := code_word (m := ⟨3, 1⟩) (meth := k3m1) (c := k3c1) (by decide +kernel) rfl rfl rfl (by decide +kernel)
set_option maxRecDepth 65536 in
theorem w_c7 : (Jvm.Cond.code ({ cls := "java/util/Arrays", name := "fill", desc := "([II)V" } : Jvm.MethodName) jdk_65_method_103_code (4 : Nat) (Option.none : Option Jvm.ClassFile.FieldType)).before args0 about1 = true := code_word (m := ⟨4, 1⟩) (meth := k4m1) (c := k4c1) (by decide +kernel) rfl rfl rfl (by decide +kernel)
set_option maxRecDepth 65536 in
theorem w_c8 : (Jvm.Cond.code ({ cls := "com/example/rackwise/rackwise/PathSearch", name := "finishBack", desc := "()Z" } : Jvm.MethodName) prog_96_method_9_code (5 : Nat) (Option.some Jvm.ClassFile.FieldType.boolean)).before args0 about1 = true := code_word (m := ⟨2, 5⟩) (meth := k2m5) (c := k2c5) (by decide +kernel) rfl rfl rfl (by decide +kernel)
set_option maxRecDepth 65536 in
theorem w_c9 : (Jvm.Cond.code ({ cls := "com/example/rackwise/rackwise/PathSearch", name := "potential", desc := "(I)J" } : Jvm.MethodName) prog_96_method_4_code (2 : Nat) (Option.some Jvm.ClassFile.FieldType.long)).before args0 about1 = true := code_word (m := ⟨2, 1⟩) (meth := k2m1) (c := k2c1) (by decide +kernel) rfl rfl rfl (by decide +kernel)
set_option maxRecDepth 65536 in
theorem w_c10 : (Jvm.Cond.code ({ cls := "com/example/rackwise/rackwise/PathSearch", name := "reachBack", desc := "(IJ)V" } : Jvm.MethodName) prog_96_method_6_code (7 : Nat) (Option.none : Option Jvm.ClassFile.FieldType)).before args0 about1 = true := code_word (m := ⟨2, 3⟩) (meth := k2m3) (c := k2c3) (by decide +kernel) rfl rfl rfl (by decide +kernel)
set_option maxRecDepth 65536 in
theorem w_c11 : (Jvm.Cond.code ({ cls := "com/example/rackwise/rackwise/RadixHeap", name := "push", desc := "(JI)V" } : Jvm.MethodName) prog_107_method_4_code (4 : Nat) (Option.none : Option Jvm.ClassFile.FieldType)).before args0 about1 = true := code_word (m := ⟨3, 3⟩) (meth := k3m3) (c := k3c3) (by decide +kernel) rfl rfl rfl (by decide +kernel)
set_option maxRecDepth 65536 in
theorem w_c12 : (Jvm.Cond.code ({ cls := "com/example/rackwise/rackwise/RadixHeap", name := "bucketOf", desc := "(J)I" } : Jvm.MethodName) prog_107_method_8_code (3 : Nat) (Option.some Jvm.ClassFile.FieldType.int)).before args0 about1 = true := code_word (m := ⟨3, 7⟩) (meth := k3m7) (c := k3c7) (by decide +kernel) rfl rfl rfl (by decide +kernel)
set_option maxRecDepth 65536 in
theorem w_c13 : (Jvm.Cond.code ({ cls := "java/lang/Long", name := "numberOfLeadingZeros", desc := "(J)I" } : Jvm.MethodName) jdk_35_method_48_code (3 : Nat) (Option.some Jvm.ClassFile.FieldType.int)).before args0 about1 = true := code_word (m := ⟨10, 0⟩) (meth := k10m0) (c := k10c0) (by decide +kernel) rfl rfl rfl (by decide +kernel)
set_option maxRecDepth 65536 in
theorem w_c14 : (Jvm.Cond.code ({ cls := "java/lang/Integer", name := "numberOfLeadingZeros", desc := "(I)I" } : Jvm.MethodName) jdk_33_method_47_code (2 : Nat) (Option.some Jvm.ClassFile.FieldType.int)).before args0 about1 = true := code_word (m := ⟨11, 0⟩) (meth := k11m0) (c := k11c0) (by decide +kernel) rfl rfl rfl (by decide +kernel)
set_option maxRecDepth 65536 in
theorem w_c15 : (Jvm.Cond.code ({ cls := "com/example/rackwise/rackwise/RadixHeap", name := "add", desc := "(IJI)V" } : Jvm.MethodName) prog_107_method_9_code (6 : Nat) (Option.none : Option Jvm.ClassFile.FieldType)).before args0 about1 = true := code_word (m := ⟨3, 8⟩) (meth := k3m8) (c := k3c8) (by decide +kernel) rfl rfl rfl (by decide +kernel)
set_option maxRecDepth 65536 in
theorem w_c16 : (Jvm.Cond.code ({ cls := "com/example/rackwise/rackwise/PathSearch", name := "next", desc := "()I" } : Jvm.MethodName) prog_96_method_8_code (2 : Nat) (Option.some Jvm.ClassFile.FieldType.int)).before args0 about1 = true := code_word (m := ⟨2, 4⟩) (meth := k2m4) (c := k2c4) (by decide +kernel) rfl rfl rfl (by decide +kernel)
set_option maxRecDepth 65536 in
theorem w_c17 : (Jvm.Cond.code ({ cls := "com/example/rackwise/rackwise/RadixHeap", name := "isEmpty", desc := "()Z" } : Jvm.MethodName) prog_107_method_3_code (1 : Nat) (Option.some Jvm.ClassFile.FieldType.boolean)).before args0 about1 = true := code_word (m := ⟨3, 2⟩) (meth := k3m2) (c := k3c2) (by decide +kernel) rfl rfl rfl (by decide +kernel)
set_option maxRecDepth 65536 in
theorem w_c18 : (Jvm.Cond.code ({ cls := "com/example/rackwise/rackwise/RadixHeap", name := "topKey", desc := "()J" } : Jvm.MethodName) prog_107_method_5_code (1 : Nat) (Option.some Jvm.ClassFile.FieldType.long)).before args0 about1 = true := code_word (m := ⟨3, 4⟩) (meth := k3m4) (c := k3c4) (by decide +kernel) rfl rfl rfl (by decide +kernel)
set_option maxRecDepth 65536 in
theorem w_c19 : (Jvm.Cond.code ({ cls := "com/example/rackwise/rackwise/RadixHeap", name := "fillFirstBucket", desc := "()V" } : Jvm.MethodName) prog_107_method_10_code (8 : Nat) (Option.none : Option Jvm.ClassFile.FieldType)).before args0 about1 = true := code_word (m := ⟨3, 9⟩) (meth := k3m9) (c := k3c9) (by decide +kernel) rfl rfl rfl (by decide +kernel)
set_option maxRecDepth 65536 in
theorem w_c20 : (Jvm.Cond.code ({ cls := "java/lang/Math", name := "min", desc := "(JJ)J" } : Jvm.MethodName) jdk_29_method_70_code (4 : Nat) (Option.some Jvm.ClassFile.FieldType.long)).before args0 about1 = true := code_word (m := ⟨12, 2⟩) (meth := k12m2) (c := k12c2) (by decide +kernel) rfl rfl rfl (by decide +kernel)
set_option maxRecDepth 65536 in
theorem w_c21 : (Jvm.Cond.code ({ cls := "com/example/rackwise/rackwise/RadixHeap", name := "topId", desc := "()I" } : Jvm.MethodName) prog_107_method_6_code (1 : Nat) (Option.some Jvm.ClassFile.FieldType.int)).before args0 about1 = true := code_word (m := ⟨3, 5⟩) (meth := k3m5) (c := k3c5) (by decide +kernel) rfl rfl rfl (by decide +kernel)
set_option maxRecDepth 65536 in
theorem w_c22 : (Jvm.Cond.code ({ cls := "com/example/rackwise/rackwise/RadixHeap", name := "pop", desc := "()V" } : Jvm.MethodName) prog_107_method_7_code (1 : Nat) (Option.none : Option Jvm.ClassFile.FieldType)).before args0 about1 = true := code_word (m := ⟨3, 6⟩) (meth := k3m6) (c := k3c6) (by decide +kernel) rfl rfl rfl (by decide +kernel)
set_option maxRecDepth 65536 in
theorem w_c23 : (Jvm.Cond.code ({ cls := "java/lang/Math", name := "max", desc := "(JJ)J" } : Jvm.MethodName) jdk_29_method_66_code (4 : Nat) (Option.some Jvm.ClassFile.FieldType.long)).before args0 about1 = true := code_word (m := ⟨12, 1⟩) (meth := k12m1) (c := k12c1) (by decide +kernel) rfl rfl rfl (by decide +kernel)
def codes1 : List Jvm.Cond := [Jvm.Cond.code x code maxLocals ret, Jvm.Cond.code ({ cls := "com/example/rackwise/rackwise/PathSearch", name := "<init>", desc := "(I)V" } : Jvm.MethodName) prog_96_method_2_code (2 : Nat) (Option.none : Option Jvm.ClassFile.FieldType), Jvm.Cond.code ({ cls := "java/lang/Object", name := "<init>", desc := "()V" } : Jvm.MethodName) object_method_1_code (1 : Nat) (Option.none : Option Jvm.ClassFile.FieldType), Jvm.Cond.code ({ cls := "com/example/rackwise/rackwise/RadixHeap", name := "<init>", desc := "()V" } : Jvm.MethodName) prog_107_method_1_code (2 : Nat) (Option.none : Option Jvm.ClassFile.FieldType), Jvm.Cond.code ({ cls := "com/example/rackwise/rackwise/PathSearchFinishBackPinLaw", name := "run", desc := "(Lcom/example/rackwise/rackwise/PathSearch;IJJ[J)Z" } : Jvm.MethodName) method_3_code (21 : Nat) (Option.some Jvm.ClassFile.FieldType.boolean), Jvm.Cond.code ({ cls := "com/example/rackwise/rackwise/PathSearch", name := "beginBack", desc := "([II)V" } : Jvm.MethodName) prog_96_method_5_code (4 : Nat) (Option.none : Option Jvm.ClassFile.FieldType), Jvm.Cond.code ({ cls := "com/example/rackwise/rackwise/RadixHeap", name := "clear", desc := "()V" } : Jvm.MethodName) prog_107_method_2_code (1 : Nat) (Option.none : Option Jvm.ClassFile.FieldType), Jvm.Cond.code ({ cls := "java/util/Arrays", name := "fill", desc := "([II)V" } : Jvm.MethodName) jdk_65_method_103_code (4 : Nat) (Option.none : Option Jvm.ClassFile.FieldType), Jvm.Cond.code ({ cls := "com/example/rackwise/rackwise/PathSearch", name := "finishBack", desc := "()Z" } : Jvm.MethodName) prog_96_method_9_code (5 : Nat) (Option.some Jvm.ClassFile.FieldType.boolean), Jvm.Cond.code ({ cls := "com/example/rackwise/rackwise/PathSearch", name := "potential", desc := "(I)J" } : Jvm.MethodName) prog_96_method_4_code (2 : Nat) (Option.some Jvm.ClassFile.FieldType.long), Jvm.Cond.code ({ cls := "com/example/rackwise/rackwise/PathSearch", name := "reachBack", desc := "(IJ)V" } : Jvm.MethodName) prog_96_method_6_code (7 : Nat) (Option.none : Option Jvm.ClassFile.FieldType), Jvm.Cond.code ({ cls := "com/example/rackwise/rackwise/RadixHeap", name := "push", desc := "(JI)V" } : Jvm.MethodName) prog_107_method_4_code (4 : Nat) (Option.none : Option Jvm.ClassFile.FieldType), Jvm.Cond.code ({ cls := "com/example/rackwise/rackwise/RadixHeap", name := "bucketOf", desc := "(J)I" } : Jvm.MethodName) prog_107_method_8_code (3 : Nat) (Option.some Jvm.ClassFile.FieldType.int), Jvm.Cond.code ({ cls := "java/lang/Long", name := "numberOfLeadingZeros", desc := "(J)I" } : Jvm.MethodName) jdk_35_method_48_code (3 : Nat) (Option.some Jvm.ClassFile.FieldType.int), Jvm.Cond.code ({ cls := "java/lang/Integer", name := "numberOfLeadingZeros", desc := "(I)I" } : Jvm.MethodName) jdk_33_method_47_code (2 : Nat) (Option.some Jvm.ClassFile.FieldType.int), Jvm.Cond.code ({ cls := "com/example/rackwise/rackwise/RadixHeap", name := "add", desc := "(IJI)V" } : Jvm.MethodName) prog_107_method_9_code (6 : Nat) (Option.none : Option Jvm.ClassFile.FieldType), Jvm.Cond.code ({ cls := "com/example/rackwise/rackwise/PathSearch", name := "next", desc := "()I" } : Jvm.MethodName) prog_96_method_8_code (2 : Nat) (Option.some Jvm.ClassFile.FieldType.int), Jvm.Cond.code ({ cls := "com/example/rackwise/rackwise/RadixHeap", name := "isEmpty", desc := "()Z" } : Jvm.MethodName) prog_107_method_3_code (1 : Nat) (Option.some Jvm.ClassFile.FieldType.boolean), Jvm.Cond.code ({ cls := "com/example/rackwise/rackwise/RadixHeap", name := "topKey", desc := "()J" } : Jvm.MethodName) prog_107_method_5_code (1 : Nat) (Option.some Jvm.ClassFile.FieldType.long), Jvm.Cond.code ({ cls := "com/example/rackwise/rackwise/RadixHeap", name := "fillFirstBucket", desc := "()V" } : Jvm.MethodName) prog_107_method_10_code (8 : Nat) (Option.none : Option Jvm.ClassFile.FieldType), Jvm.Cond.code ({ cls := "java/lang/Math", name := "min", desc := "(JJ)J" } : Jvm.MethodName) jdk_29_method_70_code (4 : Nat) (Option.some Jvm.ClassFile.FieldType.long), Jvm.Cond.code ({ cls := "com/example/rackwise/rackwise/RadixHeap", name := "topId", desc := "()I" } : Jvm.MethodName) prog_107_method_6_code (1 : Nat) (Option.some Jvm.ClassFile.FieldType.int), Jvm.Cond.code ({ cls := "com/example/rackwise/rackwise/RadixHeap", name := "pop", desc := "()V" } : Jvm.MethodName) prog_107_method_7_code (1 : Nat) (Option.none : Option Jvm.ClassFile.FieldType), Jvm.Cond.code ({ cls := "java/lang/Math", name := "max", desc := "(JJ)J" } : Jvm.MethodName) jdk_29_method_66_code (4 : Nat) (Option.some Jvm.ClassFile.FieldType.long)]
set_option maxRecDepth 65536 in
theorem codes_eq : words1.filter isCode = codes1 := rfl
theorem w_codes : ∀ c ∈ words1.filter isCode, c.before args0 about1 = true := by
  rw [codes_eq]
  intro c hc
  simp only [codes1, List.mem_cons, List.not_mem_nil, or_false] at hc
  rcases hc with rfl | rfl | rfl | rfl | rfl | rfl | rfl | rfl | rfl | rfl | rfl | rfl | rfl | rfl | rfl | rfl | rfl | rfl | rfl | rfl | rfl | rfl | rfl | rfl
  · exact w_c0
  · exact w_c1
  · exact w_c2
  · exact w_c3
  · exact w_c4
  · exact w_c5
  · exact w_c6
  · exact w_c7
  · exact w_c8
  · exact w_c9
  · exact w_c10
  · exact w_c11
  · exact w_c12
  · exact w_c13
  · exact w_c14
  · exact w_c15
  · exact w_c16
  · exact w_c17
  · exact w_c18
  · exact w_c19
  · exact w_c20
  · exact w_c21
  · exact w_c22
  · exact w_c23
set_option maxRecDepth 65536 in
theorem w_t1 : (words1.take 24).all (fun c => isCode c || c.before args0 about1) = true := by decide +kernel
set_option maxRecDepth 65536 in
theorem w_t2 : ((words1.drop 24).take 24).all (fun c => isCode c || c.before args0 about1) = true := by decide +kernel
set_option maxRecDepth 65536 in
theorem w_t3 : (((words1.drop 24).drop 24).take 24).all (fun c => isCode c || c.before args0 about1) = true := by decide +kernel
set_option maxRecDepth 65536 in
theorem w_t4 : ((((words1.drop 24).drop 24).drop 24).take 24).all (fun c => isCode c || c.before args0 about1) = true := by decide +kernel
set_option maxRecDepth 65536 in
theorem w_t5 : (((((words1.drop 24).drop 24).drop 24).drop 24).take 24).all (fun c => isCode c || c.before args0 about1) = true := by decide +kernel
set_option maxRecDepth 65536 in
theorem w_t6 : ((((((words1.drop 24).drop 24).drop 24).drop 24).drop 24).take 24).all (fun c => isCode c || c.before args0 about1) = true := by decide +kernel
set_option maxRecDepth 65536 in
theorem w_t7 : ((((((words1.drop 24).drop 24).drop 24).drop 24).drop 24).drop 24).all (fun c => isCode c || c.before args0 about1) = true := by decide +kernel
theorem w_tables : (allAtoms (Jvm.Cond.code x code maxLocals ret :: tables_1)).before args0 about1 = true := by
  rw [allAtoms_all]
  show words1.all (fun c => c.before args0 about1) = true
  refine all_split ?_ w_codes
  rw [← List.take_append_drop 24 words1, List.all_append, w_t1, ← List.take_append_drop 24 (words1.drop 24), List.all_append, w_t2, ← List.take_append_drop 24 ((words1.drop 24).drop 24), List.all_append, w_t3, ← List.take_append_drop 24 (((words1.drop 24).drop 24).drop 24), List.all_append, w_t4, ← List.take_append_drop 24 ((((words1.drop 24).drop 24).drop 24).drop 24), List.all_append, w_t5, ← List.take_append_drop 24 (((((words1.drop 24).drop 24).drop 24).drop 24).drop 24), List.all_append, w_t6, w_t7]
  rfl
set_option maxRecDepth 65536 in
theorem w_case : (Jvm.Cond.and given_1 narrow_1).before args0 about1 = true := by decide +kernel
theorem w_applies : (headSpec (Jvm.Cond.code x code maxLocals ret :: tables_1) room_1).applies x e0.platform about1 = true :=
  (Spec.applies_iff w_frames).mpr ⟨w_running, w_runnable, w_alone, w_named, w_hears, w_ripe, w_room, w_tables⟩
theorem atStart : AtStart classFile x code maxLocals ret World_1 tables_1 room_1 Calls_1 rest_1 Pre_1 launch0 p0 e0 about1 theMethod args0 below0 :=
  ⟨lists_1, trivial, launch0.admits_env _ _ _, launch0.least_env, fairChoices_fair.cas, fairChoices_fair.clock, w_frames, w_args, w_heap, w_applies, trivial, trivial, w_case⟩
end start1
theorem witness_1 : WitnessClaimed_1 := ⟨start1.p0, start1.e0, start1.about1, start1.theMethod, start1.args0, start1.below0, start1.atStart⟩
end Jvm.Pilot.@@N@@
