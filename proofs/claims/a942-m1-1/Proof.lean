import JvmDerived
import JvmDerived.Pilot.@@N@@Statement
import JvmDerived.Pilot.@@N@@Code
set_option linter.unusedVariables false
set_option linter.unusedSimpArgs false
namespace Jvm.OwnGo
open Jvm Jvm.ClassFile Sem Op Lib Jvm.Free Jvm.Stand Jvm.LawKit Jvm.RoadKit
section Own
variable {p : Program} {l : Launch} {e : Env} {R : Room} {s : State} {m : MethodId} {args : Array Value} {below : List Frame} {meth : Method} {c : Code} {T : State} {locs : List Loc} {cells slots : Nat} {Q : Option Value → Heap → List Loc → Prop} {C N : Nat}
/-- from A on the run comes to its return, and what it returns and leaves is as Q says -/
def Go (p : Program) (e : Env) (below : List Frame) (s : State) (Q : Option Value → Heap → List Loc → Prop) (C N : Nat) (A : State) : Prop :=
  ∃ s₂ o, Steps p.tables e below A s₂ ∧ s₂.status = .running ∧ Ended s₂ below o ∧ ∃ v L, o = .returned v ∧ Q v s₂.heap L ∧ FrameEnd s o s₂ L C N
theorem Go.st {A B : State} (h : ∀ t, Steps p.tables e below B t → Steps p.tables e below A t) (k : Go p e below s Q C N B) : Go p e below s Q C N A := by
  obtain ⟨s₂, o, h1, r⟩ := k
  exact ⟨s₂, o, h _ h1, r⟩
theorem Go.tr {A B : State} (h : Steps p.tables e below A B) (k : Go p e below s Q C N B) : Go p e below s Q C N A := k.st fun _ q => h.trans q
theorem Go.retI (X : Stand p l e R s m args below meth c T locs cells slots) (hx : p.tables.exec = Jvm.exec) (hlk : meth.locks = false) (hret : meth.sig.returnType = some .int) {pc : Nat} {Ls : Array Slot} {z : Int32} {rest : List Value} (hd : decode c.code pc = .ok (.ireturn, 1))
    (q : Q (some (.int z)) T.heap locs) (hc : cells ≤ C) (hn : slots ≤ N) : Go p e below s Q C N (T.setTop (mkF m pc Ls (.int z :: rest))) := by
  obtain ⟨fs, hr, hrun, hended, hW, hsame⟩ := X.leave (v := some (.int z)) (fun h => by rw [hret] at h; cases h) hlk
  exact ⟨_, _, retOut X hx hret rfl (Or.inl ⟨rfl, Or.inl rfl, _, rfl⟩) hd hr, hrun, hended, _, _, rfl, q, ⟨_, rfl⟩, hW, hsame.mono hc hn⟩
theorem Go.retN (X : Stand p l e R s m args below meth c T locs cells slots) (hx : p.tables.exec = Jvm.exec) (hlk : meth.locks = false) {t : FieldType} (ht : t = .boolean ∨ t = .byte ∨ t = .char ∨ t = .short) (hret : meth.sig.returnType = some t) {pc : Nat} {Ls : Array Slot} {z z' : Int32} {rest : List Value} (hd : decode c.code pc = .ok (.ireturn, 1))
    (hz : nar t z = z') (q : Q (some (.int z')) T.heap locs) (hc : cells ≤ C) (hn : slots ≤ N) : Go p e below s Q C N (T.setTop (mkF m pc Ls (.int z :: rest))) := by
  subst hz
  obtain ⟨fs, hr, hrun, hended, hW, hsame⟩ := X.leave (v := some (.int (nar t z))) (fun h => by rw [hret] at h; cases h) hlk
  exact ⟨_, _, Jvm.RoadKit.retN X hx hret ht hd hr, hrun, hended, _, _, rfl, q, ⟨_, rfl⟩, hW, hsame.mono hc hn⟩
theorem Go.retJ (X : Stand p l e R s m args below meth c T locs cells slots) (hx : p.tables.exec = Jvm.exec) (hlk : meth.locks = false) (hret : meth.sig.returnType = some .long) {pc : Nat} {Ls : Array Slot} {z : Int64} {rest : List Value} (hd : decode c.code pc = .ok (.lreturn, 1))
    (q : Q (some (.long z)) T.heap locs) (hc : cells ≤ C) (hn : slots ≤ N) : Go p e below s Q C N (T.setTop (mkF m pc Ls (.long z :: rest))) := by
  obtain ⟨fs, hr, hrun, hended, hW, hsame⟩ := X.leave (v := some (.long z)) (fun h => by rw [hret] at h; cases h) hlk
  exact ⟨_, _, retOut X hx hret rfl (Or.inr (Or.inl ⟨rfl, rfl, _, rfl⟩)) hd hr, hrun, hended, _, _, rfl, q, ⟨_, rfl⟩, hW, hsame.mono hc hn⟩
theorem nar_ref {t : FieldType} {w : Value} (hw : w.isRef = true) : narrow t w = w := by
  cases t <;> cases w <;> first | rfl | (simp [Value.isRef] at hw)
theorem Go.retA (X : Stand p l e R s m args below meth c T locs cells slots) (hx : p.tables.exec = Jvm.exec) (hlk : meth.locks = false) {t : FieldType} (ht : t.isReference = true) (hret : meth.sig.returnType = some t) {pc : Nat} {Ls : Array Slot} {w : Value} {rest : List Value} (hw : w.isRef = true) (hd : decode c.code pc = .ok (.areturn, 1))
    (q : Q (some w) T.heap locs) (hc : cells ≤ C) (hn : slots ≤ N) : Go p e below s Q C N (T.setTop (mkF m pc Ls (w :: rest))) := by
  obtain ⟨fs, hr, hrun, hended, hW, hsame⟩ := X.leave (v := some w) (fun h => by rw [hret] at h; cases h) hlk
  exact ⟨_, _, retOut X hx hret (nar_ref hw) (Or.inr (Or.inr (Or.inr (Or.inr ⟨rfl, ht, hw⟩)))) hd hr, hrun, hended, _, _, rfl, q, ⟨_, rfl⟩, hW, hsame.mono hc hn⟩
theorem Go.retV (X : Stand p l e R s m args below meth c T locs cells slots) (hx : p.tables.exec = Jvm.exec) (hlk : meth.locks = false) (hret : meth.sig.returnType = none) {pc : Nat} {Ls : Array Slot} (hd : decode c.code pc = .ok (.return_, 1))
    (q : Q none T.heap locs) (hc : cells ≤ C) (hn : slots ≤ N) : Go p e below s Q C N (T.setTop (mkF m pc Ls [])) := by
  obtain ⟨fs, hr, hrun, hended, hW, hsame⟩ := X.leave (v := none) (fun _ => rfl) hlk
  exact ⟨_, _, X.returnOut hx hret hd hr, hrun, hended, _, _, rfl, q, ⟨_, rfl⟩, hW, hsame.mono hc hn⟩
theorem up {k n : Nat} (X : Stand p l e R s m args below meth c T locs cells slots) (hc : cells ≤ k) (hn : slots ≤ n) : Stand p l e R s m args below meth c T locs k n := { X with same := X.same.mono hc hn }
end Own
section Num
variable {x y : Int32} {u v : Int64} {a b : Int}
theorem ltI (ha : x.toInt = a) (hb : y.toInt = b) (h : a < b) : x < y := by rw [Int32.lt_iff_toInt_lt, ha, hb]; exact h
theorem nltI (ha : x.toInt = a) (hb : y.toInt = b) (h : ¬ a < b) : ¬ x < y := by rw [Int32.lt_iff_toInt_lt, ha, hb]; exact h
theorem eqI (ha : x.toInt = a) (hb : y.toInt = b) (h : a = b) : x = y := Int32.toInt_inj.mp (by rw [ha, hb]; exact h)
theorem neI (ha : x.toInt = a) (hb : y.toInt = b) (h : ¬ a = b) : ¬ x = y := fun q => h (by rw [← ha, ← hb, q])
theorem ltJ (ha : u.toInt = a) (hb : v.toInt = b) (h : a < b) : u < v := by rw [Int64.lt_iff_toInt_lt, ha, hb]; exact h
theorem nltJ (ha : u.toInt = a) (hb : v.toInt = b) (h : ¬ a < b) : ¬ u < v := by rw [Int64.lt_iff_toInt_lt, ha, hb]; exact h
theorem eqJ (ha : u.toInt = a) (hb : v.toInt = b) (h : a = b) : u = v := Int64.toInt_inj.mp (by rw [ha, hb]; exact h)
theorem neJ (ha : u.toInt = a) (hb : v.toInt = b) (h : ¬ a = b) : ¬ u = v := fun q => h (by rw [← ha, ← hb, q])
theorem bool_nar (h : x.toInt = 0 ∨ x.toInt = 1) : nar .boolean x = x := by
  rcases h with h | h
  · rw [Int32.toInt_inj.mp (h.trans (by decide : (0 : Int) = (0 : Int32).toInt))]; decide
  · rw [Int32.toInt_inj.mp (h.trans (by decide : (1 : Int) = (1 : Int32).toInt))]; decide
end Num
section Words
variable {Z : State} {args : Array Value} {t : Term} {C n d : String} {a : Addr}
theorem fld_int {k : Int32} (ht : t.eval args Z none [] Z = some (.ref a)) (h : (Cond.eq (Term.field t C n d) (Term.int k)).value args Z none Z [] = some true) : Fld Z Z.heap a C n d (.int k) := by
  obtain ⟨u, v, e1, e2, k1, k2⟩ := cmp_v (Or.inl h)
  have e3 : v = .int k := Option.some.inj (e2.symm.trans (Term.int_eval k))
  subst e3
  obtain ⟨w, rfl⟩ : ∃ w, u = .int w := k2
  have q := gotT (Cond.eq_ints e1 (Term.int_eval k)) h
  subst q
  exact Fld.start (by rw [← fld_at (args := args) (first := Z) (o := none) (idx := []) ht]; exact e1)
theorem sta_long {k : Int64} (h : (Cond.eq (Term.static C n d) (Term.long k)).value args Z none Z [] = some true) : (Term.static C n d).eval args Z none [] Z = some (.long k) := by
  obtain ⟨u, v, e1, e2, k1, k2⟩ := cmp_v (Or.inl h)
  have e3 : v = .long k := Option.some.inj (e2.symm.trans rfl)
  subst e3
  obtain ⟨w, rfl⟩ : ∃ w, u = .long w := k2
  have q := gotT (eq_L (y := k) e1 rfl) h
  subst q
  exact e1
theorem sta_int {k : Int32} (h : (Cond.eq (Term.static C n d) (Term.int k)).value args Z none Z [] = some true) : (Term.static C n d).eval args Z none [] Z = some (.int k) := by
  obtain ⟨u, v, e1, e2, k1, k2⟩ := cmp_v (Or.inl h)
  have e3 : v = .int k := Option.some.inj (e2.symm.trans rfl)
  subst e3
  obtain ⟨w, rfl⟩ : ∃ w, u = .int w := k2
  have q := gotT (Cond.eq_ints e1 (Term.int_eval k)) h
  subst q
  exact e1
/-- a cell that is no class's statics -/
def Exi (h : Heap) (x : Addr) : Prop := ∃ c : Cell, h[x]? = some c ∧ c.vm.isStatics = false
theorem exi_exa {h : Heap} (F : Exa Z h a C) : Exi h a := by obtain ⟨c, k, h1, -, -, h4, -⟩ := F; exact ⟨c, h1, h4⟩
theorem sta_keep {h h' : Heap} {v : Value} {ws : List Addr} (F : Sta Z h C n d v) (K : Keep h h' ws) (q : ∀ x ∈ ws, Exi h x) : Sta Z h' C n d v := by
  obtain ⟨cf, i, k, f, st, cell, h1, h2, h3, h4, h5, h6, h7⟩ := F
  refine ⟨cf, i, k, f, st, cell, h1, h2, h3, h4, K.2.1 st cell h5 (fun hm => ?_), h6, h7⟩
  obtain ⟨c, e1, e2⟩ := q st hm
  cases h5.symm.trans e1
  rw [h6] at e2; cases e2
theorem self_sel {s : State} {as as' : Array Value} {y z : MethodName} (hs : (Cond.selects C z z).before as s = true) (hc : z.cls = y.cls) (hp : s.PrivateAt y) (hi : (Cond.instanceMethod y).before as' s = true) (hy : y.cls ≠ "java/lang/invoke/MethodHandle" ∧ y.cls ≠ "java/lang/invoke/VarHandle") : (Cond.selects y.cls y y).before as' s = true := by
  obtain ⟨c, r, m, h1, h2, h3, h4, mk, h5, h6⟩ := Cond.selects_spec hs
  exact selects_self_of_private (hc ▸ findClass_of_methodNamed h3) h5 h6 hp hi hy
end Words
end Jvm.OwnGo
namespace Jvm.Pilot.@@N@@
open Jvm Jvm.ClassFile Sem Op Lib Jvm.Free Jvm.Stand Jvm.LawKit Jvm.RoadKit Bundle Jvm.OwnGo Jvm.Pilot.@@N@@.Jvm.D
theorem d1_0 : decode jdk_29_method_69_code 0 = .ok (.iload_n 0, 1) := by decide +kernel
theorem d1_1 : decode jdk_29_method_69_code 1 = .ok (.iload_n 1, 1) := by decide +kernel
theorem d1_2 : decode jdk_29_method_69_code 2 = .ok (.if_icmp .gt 7, 3) := by decide +kernel
theorem d1_9 : decode jdk_29_method_69_code 9 = .ok (.iload_n 1, 1) := by decide +kernel
theorem d1_10 : decode jdk_29_method_69_code 10 = .ok (.ireturn, 1) := by decide +kernel
theorem d1_5 : decode jdk_29_method_69_code 5 = .ok (.iload_n 0, 1) := by decide +kernel
theorem d1_6 : decode jdk_29_method_69_code 6 = .ok (.goto 4, 3) := by decide +kernel
theorem ef_rm1 (m : MethodId) (a : Int32) (b : Int32) : entryFrame m #[(.int a), (.int b)] 2 = mkF m 0 #[.val (.int a), .val (.int b)] [] := by first | (simp [entryFrame, mkF, argsToLocals, Value.category]; done) | rfl
def Q1 (Z : State) (a : Int32) (b : Int32) (h0 : Heap) (n0 : Nat) (vv : Option Value) (h : Heap) (LL : List Loc) : Prop := ∃ (r : Int32), vv = some (.int r) ∧ Fr n0 LL ∧ ((a.toInt ≤ b.toInt ∧ r.toInt = a.toInt) ∨ (b.toInt < a.toInt ∧ r.toInt = b.toInt)) ∧ h = h0
set_option maxRecDepth 65536 in
set_option maxHeartbeats 40000000 in
theorem rm1 (l : Launch) (Z : State) (a0 : Array Value) (hw : ∀ d ∈ tables_1, d.before a0 Z = true) (ws : List Jvm.Cond) (a : Int32) (b : Int32) (h0 : Heap) (n0 : Nat) (Z0 : n0 ≤ h0.size) :
    MetFree l (⟨"java/lang/Math", "min", "(II)I"⟩ : MethodName) (head1 (Jvm.Cond.code (⟨"java/lang/Math", "min", "(II)I"⟩ : MethodName) jdk_29_method_69_code 2 (some .int) :: ws) ({ frames := 0, cells := 0, slots := 0, locals := 0 } : Room)) (fun aa UU => aa = #[(.int a), (.int b)] ∧ Z.Warmed39 UU.vm ∧ UU.heap = h0) (fun _ _ _ _ _ => True) (fun _ UU oo UU' => ∃ vv LL, oo = .returned vv ∧ Q1 Z a b h0 n0 vv UU'.heap LL ∧ FrameEnd UU oo UU' LL 0 0) := by
  refine MetFree.of_bodySF (Jvm.Free.JP.mathPlain rfl (by decide +kernel)) hisR ?_
  intro p e s m args below meth c s₁ Bd hml0 hP hK
  obtain ⟨rfl, hZ, hh⟩ := hP
  have hx := Bd.exec
  have hby := Bd.bytes
  have hlk : meth.locks = false := BodyLoose.notSynchronized Bd
  have hml : c.maxLocals = 2 := hml0
  have hown : s.vm.findClass "java/lang/Math" = some m.cls := findClass_of_methodNamed Bd.named
  have hnm := (name_of_methodNamed Bd.named Bd.method).1
  have X0 : Stand p l e ({ frames := 0, cells := 0, slots := 0, locals := 0 } : Room) s m #[(.int a), (.int b)] below meth c s₁ [] 0 0 := Stand.of_body Bd
  have e0 : s₁.heap = h0 := by rw [← hh, Bd.state]; rfl
  have N0 := Fr.nil n0
  have K0 : Keep h0 h0 [] := Keep.refl h0 _
  refine (?_ : Go p e below s (Q1 Z a b h0 n0) 0 0 (s₁.setTop (entryFrame m #[(.int a), (.int b)] 2)))
  rw [ef_rm1]
  generalize hQ : Q1 Z a b h0 n0 = Q
  show Go p e below s Q 0 0 (s₁.setTop (mkF m 0 #[.val (.int a), .val (.int b)] []))
  have f1 := rng32 a
  have f2 := rng32 b
  refine Go.st (fun _ k => XS.iloadN X0.here hx rfl (hb hby d1_0) rfl k) ?_
  show Go p e below s Q 0 0 (s₁.setTop (mkF m 1 #[.val (.int a), .val (.int b)] [(.int a)]))
  refine Go.st (fun _ k => XS.iloadN X0.here hx rfl (hb hby d1_1) rfl k) ?_
  show Go p e below s Q 0 0 (s₁.setTop (mkF m 2 #[.val (.int a), .val (.int b)] [(.int b), (.int a)]))
  by_cases c3 : b.toInt < a.toInt
  ·
    refine Go.st (fun _ k => XS.icmpYes X0.here hx rfl (pc0 := 2) (pc' := 9) rfl (hb hby d1_2) rfl (tlt (ltI rfl rfl c3)).2.2.1 (by decide) (by decide) k) ?_
    show Go p e below s Q 0 0 (s₁.setTop (mkF m 9 #[.val (.int a), .val (.int b)] []))
    refine Go.st (fun _ k => XS.iloadN X0.here hx rfl (hb hby d1_9) rfl k) ?_
    show Go p e below s Q 0 0 (s₁.setTop (mkF m 10 #[.val (.int a), .val (.int b)] [(.int b)]))
    exact Go.retI X0 hx hlk Bd.returns (hb hby d1_10) (by rw [← hQ, e0]; exact ⟨b, rfl, N0, (by omega), rfl⟩) (by decide) (by decide)
  ·
    refine Go.st (fun _ k => XS.icmpNo X0.here hx rfl (hb hby d1_2) rfl (flt (nltI rfl rfl c3)).2.2.1 k) ?_
    show Go p e below s Q 0 0 (s₁.setTop (mkF m 5 #[.val (.int a), .val (.int b)] []))
    refine Go.st (fun _ k => XS.iloadN X0.here hx rfl (hb hby d1_5) rfl k) ?_
    show Go p e below s Q 0 0 (s₁.setTop (mkF m 6 #[.val (.int a), .val (.int b)] [(.int a)]))
    refine Go.st (fun _ k => XS.goto X0.here hx rfl (pc0 := 6) (pc' := 10) rfl (hb hby d1_6) (by decide) (by decide) k) ?_
    show Go p e below s Q 0 0 (s₁.setTop (mkF m 10 #[.val (.int a), .val (.int b)] [(.int a)]))
    exact Go.retI X0 hx hlk Bd.returns (hb hby d1_10) (by rw [← hQ, e0]; exact ⟨a, rfl, N0, (by omega), rfl⟩) (by decide) (by decide)
theorem d2_0 : decode jdk_29_method_65_code 0 = .ok (.iload_n 0, 1) := by decide +kernel
theorem d2_1 : decode jdk_29_method_65_code 1 = .ok (.iload_n 1, 1) := by decide +kernel
theorem d2_2 : decode jdk_29_method_65_code 2 = .ok (.if_icmp .lt 7, 3) := by decide +kernel
theorem d2_9 : decode jdk_29_method_65_code 9 = .ok (.iload_n 1, 1) := by decide +kernel
theorem d2_10 : decode jdk_29_method_65_code 10 = .ok (.ireturn, 1) := by decide +kernel
theorem d2_5 : decode jdk_29_method_65_code 5 = .ok (.iload_n 0, 1) := by decide +kernel
theorem d2_6 : decode jdk_29_method_65_code 6 = .ok (.goto 4, 3) := by decide +kernel
theorem ef_rm2 (m : MethodId) (a : Int32) (b : Int32) : entryFrame m #[(.int a), (.int b)] 2 = mkF m 0 #[.val (.int a), .val (.int b)] [] := by first | (simp [entryFrame, mkF, argsToLocals, Value.category]; done) | rfl
def Q2 (Z : State) (a : Int32) (b : Int32) (h0 : Heap) (n0 : Nat) (vv : Option Value) (h : Heap) (LL : List Loc) : Prop := ∃ (r : Int32), vv = some (.int r) ∧ Fr n0 LL ∧ ((b.toInt ≤ a.toInt ∧ r.toInt = a.toInt) ∨ (a.toInt < b.toInt ∧ r.toInt = b.toInt)) ∧ h = h0
set_option maxRecDepth 65536 in
set_option maxHeartbeats 40000000 in
theorem rm2 (l : Launch) (Z : State) (a0 : Array Value) (hw : ∀ d ∈ tables_1, d.before a0 Z = true) (ws : List Jvm.Cond) (a : Int32) (b : Int32) (h0 : Heap) (n0 : Nat) (Z0 : n0 ≤ h0.size) :
    MetFree l (⟨"java/lang/Math", "max", "(II)I"⟩ : MethodName) (head1 (Jvm.Cond.code (⟨"java/lang/Math", "max", "(II)I"⟩ : MethodName) jdk_29_method_65_code 2 (some .int) :: ws) ({ frames := 0, cells := 0, slots := 0, locals := 0 } : Room)) (fun aa UU => aa = #[(.int a), (.int b)] ∧ Z.Warmed39 UU.vm ∧ UU.heap = h0) (fun _ _ _ _ _ => True) (fun _ UU oo UU' => ∃ vv LL, oo = .returned vv ∧ Q2 Z a b h0 n0 vv UU'.heap LL ∧ FrameEnd UU oo UU' LL 0 0) := by
  refine MetFree.of_bodySF (Jvm.Free.JP.mathPlain rfl (by decide +kernel)) hisR ?_
  intro p e s m args below meth c s₁ Bd hml0 hP hK
  obtain ⟨rfl, hZ, hh⟩ := hP
  have hx := Bd.exec
  have hby := Bd.bytes
  have hlk : meth.locks = false := BodyLoose.notSynchronized Bd
  have hml : c.maxLocals = 2 := hml0
  have hown : s.vm.findClass "java/lang/Math" = some m.cls := findClass_of_methodNamed Bd.named
  have hnm := (name_of_methodNamed Bd.named Bd.method).1
  have X0 : Stand p l e ({ frames := 0, cells := 0, slots := 0, locals := 0 } : Room) s m #[(.int a), (.int b)] below meth c s₁ [] 0 0 := Stand.of_body Bd
  have e0 : s₁.heap = h0 := by rw [← hh, Bd.state]; rfl
  have N0 := Fr.nil n0
  have K0 : Keep h0 h0 [] := Keep.refl h0 _
  refine (?_ : Go p e below s (Q2 Z a b h0 n0) 0 0 (s₁.setTop (entryFrame m #[(.int a), (.int b)] 2)))
  rw [ef_rm2]
  generalize hQ : Q2 Z a b h0 n0 = Q
  show Go p e below s Q 0 0 (s₁.setTop (mkF m 0 #[.val (.int a), .val (.int b)] []))
  have f1 := rng32 a
  have f2 := rng32 b
  refine Go.st (fun _ k => XS.iloadN X0.here hx rfl (hb hby d2_0) rfl k) ?_
  show Go p e below s Q 0 0 (s₁.setTop (mkF m 1 #[.val (.int a), .val (.int b)] [(.int a)]))
  refine Go.st (fun _ k => XS.iloadN X0.here hx rfl (hb hby d2_1) rfl k) ?_
  show Go p e below s Q 0 0 (s₁.setTop (mkF m 2 #[.val (.int a), .val (.int b)] [(.int b), (.int a)]))
  by_cases c3 : a.toInt < b.toInt
  ·
    refine Go.st (fun _ k => XS.icmpYes X0.here hx rfl (pc0 := 2) (pc' := 9) rfl (hb hby d2_2) rfl (tlt (ltI rfl rfl c3)).1 (by decide) (by decide) k) ?_
    show Go p e below s Q 0 0 (s₁.setTop (mkF m 9 #[.val (.int a), .val (.int b)] []))
    refine Go.st (fun _ k => XS.iloadN X0.here hx rfl (hb hby d2_9) rfl k) ?_
    show Go p e below s Q 0 0 (s₁.setTop (mkF m 10 #[.val (.int a), .val (.int b)] [(.int b)]))
    exact Go.retI X0 hx hlk Bd.returns (hb hby d2_10) (by rw [← hQ, e0]; exact ⟨b, rfl, N0, (by omega), rfl⟩) (by decide) (by decide)
  ·
    refine Go.st (fun _ k => XS.icmpNo X0.here hx rfl (hb hby d2_2) rfl (flt (nltI rfl rfl c3)).1 k) ?_
    show Go p e below s Q 0 0 (s₁.setTop (mkF m 5 #[.val (.int a), .val (.int b)] []))
    refine Go.st (fun _ k => XS.iloadN X0.here hx rfl (hb hby d2_5) rfl k) ?_
    show Go p e below s Q 0 0 (s₁.setTop (mkF m 6 #[.val (.int a), .val (.int b)] [(.int a)]))
    refine Go.st (fun _ k => XS.goto X0.here hx rfl (pc0 := 6) (pc' := 10) rfl (hb hby d2_6) (by decide) (by decide) k) ?_
    show Go p e below s Q 0 0 (s₁.setTop (mkF m 10 #[.val (.int a), .val (.int b)] [(.int a)]))
    exact Go.retI X0 hx hlk Bd.returns (hb hby d2_10) (by rw [← hQ, e0]; exact ⟨a, rfl, N0, (by omega), rfl⟩) (by decide) (by decide)
theorem pn_0 : plainName "com/example/graf/graf/flow/Step" = true := by first | (simp [plainName, overriddenIn]; done) | decide +kernel
theorem d3_0 : decode prog_10_method_2_code 0 = .ok (.iload_n 0, 1) := by decide +kernel
theorem d3_1 : decode prog_10_method_2_code 1 = .ok (.sipush 400, 3) := by decide +kernel
theorem d3_4 : decode prog_10_method_2_code 4 = .ok (.if_icmp .ge 7, 3) := by decide +kernel
theorem liI_400 : (400 : Int32).toInt = 400 := by decide
theorem d3_7 : decode prog_10_method_2_code 7 = .ok (.iconst 1, 1) := by decide +kernel
theorem d3_8 : decode prog_10_method_2_code 8 = .ok (.goto 4, 3) := by decide +kernel
theorem liI_1 : (1 : Int32).toInt = 1 := by decide
theorem d3_12 : decode prog_10_method_2_code 12 = .ok (.ireturn, 1) := by decide +kernel
theorem d3_11 : decode prog_10_method_2_code 11 = .ok (.iconst 0, 1) := by decide +kernel
theorem liI_0 : (0 : Int32).toInt = 0 := by decide
theorem ef_rm3 (m : MethodId) (a : Int32) : entryFrame m #[(.int a)] 1 = mkF m 0 #[.val (.int a)] [] := by first | (simp [entryFrame, mkF, argsToLocals, Value.category]; done) | rfl
def Q3 (Z : State) (a : Int32) (h0 : Heap) (n0 : Nat) (vv : Option Value) (h : Heap) (LL : List Loc) : Prop := ∃ (r : Int32), vv = some (.int r) ∧ Fr n0 LL ∧ ((a.toInt < 400 ∧ r.toInt = 1) ∨ (400 ≤ a.toInt ∧ r.toInt = 0)) ∧ h = h0
set_option maxRecDepth 65536 in
set_option maxHeartbeats 40000000 in
theorem rm3 (l : Launch) (Z : State) (a0 : Array Value) (hw : ∀ d ∈ tables_1, d.before a0 Z = true) (ws : List Jvm.Cond) (a : Int32) (h0 : Heap) (n0 : Nat) (Z0 : n0 ≤ h0.size) :
    MetFree l (⟨"com/example/graf/graf/flow/Step", "isSuccess", "(I)Z"⟩ : MethodName) (head1 (Jvm.Cond.code (⟨"com/example/graf/graf/flow/Step", "isSuccess", "(I)Z"⟩ : MethodName) prog_10_method_2_code 1 (some .boolean) :: ws) ({ frames := 0, cells := 0, slots := 0, locals := 0 } : Room)) (fun aa UU => aa = #[(.int a)] ∧ Z.Warmed39 UU.vm ∧ UU.heap = h0) (fun _ _ _ _ _ => True) (fun _ UU oo UU' => ∃ vv LL, oo = .returned vv ∧ Q3 Z a h0 n0 vv UU'.heap LL ∧ FrameEnd UU oo UU' LL 0 0) := by
  refine MetFree.of_bodySF (plainFor_of_name pn_0) hisR ?_
  intro p e s m args below meth c s₁ Bd hml0 hP hK
  obtain ⟨rfl, hZ, hh⟩ := hP
  have hx := Bd.exec
  have hby := Bd.bytes
  have hlk : meth.locks = false := BodyLoose.notSynchronized Bd
  have hml : c.maxLocals = 1 := hml0
  have hown : s.vm.findClass "com/example/graf/graf/flow/Step" = some m.cls := findClass_of_methodNamed Bd.named
  have hnm := (name_of_methodNamed Bd.named Bd.method).1
  have X0 : Stand p l e ({ frames := 0, cells := 0, slots := 0, locals := 0 } : Room) s m #[(.int a)] below meth c s₁ [] 0 0 := Stand.of_body Bd
  have e0 : s₁.heap = h0 := by rw [← hh, Bd.state]; rfl
  have N0 := Fr.nil n0
  have K0 : Keep h0 h0 [] := Keep.refl h0 _
  refine (?_ : Go p e below s (Q3 Z a h0 n0) 0 0 (s₁.setTop (entryFrame m #[(.int a)] 1)))
  rw [ef_rm3]
  generalize hQ : Q3 Z a h0 n0 = Q
  show Go p e below s Q 0 0 (s₁.setTop (mkF m 0 #[.val (.int a)] []))
  have f1 := rng32 a
  refine Go.st (fun _ k => XS.iloadN X0.here hx rfl (hb hby d3_0) rfl k) ?_
  show Go p e below s Q 0 0 (s₁.setTop (mkF m 1 #[.val (.int a)] [(.int a)]))
  refine Go.st (fun _ k => XS.sipush X0.here hx rfl (hb hby d3_1) k) ?_
  show Go p e below s Q 0 0 (s₁.setTop (mkF m 4 #[.val (.int a)] [(.int (400 : Int32)), (.int a)]))
  have f2 := liI_400
  by_cases c3 : a.toInt < 400
  ·
    refine Go.st (fun _ k => XS.icmpNo X0.here hx rfl (hb hby d3_4) rfl (tlt (ltI rfl liI_400 c3)).2.1 k) ?_
    show Go p e below s Q 0 0 (s₁.setTop (mkF m 7 #[.val (.int a)] []))
    refine Go.st (fun _ k => XS.iconst X0.here hx rfl (hb hby d3_7) k) ?_
    show Go p e below s Q 0 0 (s₁.setTop (mkF m 8 #[.val (.int a)] [(.int (1 : Int32))]))
    refine Go.st (fun _ k => XS.goto X0.here hx rfl (pc0 := 8) (pc' := 12) rfl (hb hby d3_8) (by decide) (by decide) k) ?_
    show Go p e below s Q 0 0 (s₁.setTop (mkF m 12 #[.val (.int a)] [(.int (1 : Int32))]))
    have f4 := liI_1
    exact Go.retN X0 hx hlk (by simp) Bd.returns (hb hby d3_12) (z' := (1 : Int32)) (by decide) (by rw [← hQ, e0]; exact ⟨(1 : Int32), rfl, N0, (by omega), rfl⟩) (by decide) (by decide)
  ·
    refine Go.st (fun _ k => XS.icmpYes X0.here hx rfl (pc0 := 4) (pc' := 11) rfl (hb hby d3_4) rfl (flt (nltI rfl liI_400 c3)).2.1 (by decide) (by decide) k) ?_
    show Go p e below s Q 0 0 (s₁.setTop (mkF m 11 #[.val (.int a)] []))
    refine Go.st (fun _ k => XS.iconst X0.here hx rfl (hb hby d3_11) k) ?_
    show Go p e below s Q 0 0 (s₁.setTop (mkF m 12 #[.val (.int a)] [(.int (0 : Int32))]))
    have f5 := liI_0
    exact Go.retN X0 hx hlk (by simp) Bd.returns (hb hby d3_12) (z' := (0 : Int32)) (by decide) (by rw [← hQ, e0]; exact ⟨(0 : Int32), rfl, N0, (by omega), rfl⟩) (by decide) (by decide)
theorem pn_1 : plainName "com/example/graf/graf/flow/StepIsSuccessPinLaw" = true := by first | (simp [plainName, overriddenIn]; done) | decide +kernel
theorem pd_0 : parseMethodDescriptor "(II)I" = some ⟨[.int, .int], some .int⟩ := by decide +kernel
theorem pd_1 : parseMethodDescriptor "(I)Z" = some ⟨[.int], some .boolean⟩ := by decide +kernel
theorem liI_399 : (399 : Int32).toInt = 399 := by decide
theorem ef_rm0 (m : MethodId) (a : Int32) (b : Int32) : entryFrame m #[(.int a), (.int b)] maxLocals = mkF m 0 #[.val (.int a), .val (.int b), .unset, .unset, .unset, .unset] [] := by first | (simp [entryFrame, mkF, argsToLocals, Value.category, maxLocals]; done) | rfl
def Q0 (Z : State) (a : Int32) (b : Int32) (h0 : Heap) (n0 : Nat) (vv : Option Value) (h : Heap) (LL : List Loc) : Prop := vv = some (.int (1 : Int32)) ∧ Fr n0 LL ∧ h = h0
set_option maxRecDepth 65536 in
set_option maxHeartbeats 40000000 in
theorem rm0 (l : Launch) (Z : State) (a0 : Array Value) (hw : ∀ d ∈ tables_1, d.before a0 Z = true) (ws : List Jvm.Cond) (a : Int32) (b : Int32) (h0 : Heap) (n0 : Nat) (Z0 : n0 ≤ h0.size) :
    MetFree l x (head1 (Jvm.Cond.code x code maxLocals ret :: ws) room_1) (fun aa UU => aa = #[(.int a), (.int b)] ∧ Z.Warmed39 UU.vm ∧ UU.heap = h0) (fun _ _ _ _ _ => True) (fun _ UU oo UU' => ∃ vv LL, oo = .returned vv ∧ Q0 Z a b h0 n0 vv UU'.heap LL ∧ FrameEnd UU oo UU' LL 0 0) := by
  refine MetFree.of_bodySF (plainFor_of_name pn_1) hisR ?_
  intro p e s m args below meth c s₁ Bd hml0 hP hK
  obtain ⟨rfl, hZ, hh⟩ := hP
  have hx := Bd.exec
  have hby := Bd.bytes
  have hlk : meth.locks = false := BodyLoose.notSynchronized Bd
  have hml : c.maxLocals = 6 := hml0
  have hown : s.vm.findClass "com/example/graf/graf/flow/StepIsSuccessPinLaw" = some m.cls := findClass_of_methodNamed Bd.named
  have hnm := (name_of_methodNamed Bd.named Bd.method).1
  have X0 : Stand p l e room_1 s m #[(.int a), (.int b)] below meth c s₁ [] 0 0 := Stand.of_body Bd
  have e0 : s₁.heap = h0 := by rw [← hh, Bd.state]; rfl
  have N0 := Fr.nil n0
  have K0 : Keep h0 h0 [] := Keep.refl h0 _
  refine (?_ : Go p e below s (Q0 Z a b h0 n0) 0 0 (s₁.setTop (entryFrame m #[(.int a), (.int b)] maxLocals)))
  rw [ef_rm0]
  generalize hQ : Q0 Z a b h0 n0 = Q
  show Go p e below s Q 0 0 (s₁.setTop (mkF m 0 #[.val (.int a), .val (.int b), .unset, .unset, .unset, .unset] []))
  have f1 := rng32 a
  have f2 := rng32 b
  refine Go.st (fun _ k => XS.iloadN X0.here hx rfl (hb hby at_0) rfl k) ?_
  show Go p e below s Q 0 0 (s₁.setTop (mkF m 1 #[.val (.int a), .val (.int b), .unset, .unset, .unset, .unset] [(.int a)]))
  refine Go.st (fun _ k => XS.iloadN X0.here hx rfl (hb hby at_1) rfl k) ?_
  show Go p e below s Q 0 0 (s₁.setTop (mkF m 2 #[.val (.int a), .val (.int b), .unset, .unset, .unset, .unset] [(.int b), (.int a)]))
  obtain ⟨_, _, ⟨T3, L3, k3, n3⟩, -, X3, ⟨Lc3, hQ3, l3, y3, z3⟩, st3⟩ := Jvm.LawKit.callS X0 hx (y := (⟨"java/lang/Math", "min", "(II)I"⟩ : MethodName)) hown (mvT hZ (hw _ (List.mem_of_getElem? (i := 0) rfl))) (mvT hZ (hw _ (List.mem_of_getElem? (i := 1) rfl))) (mvT hZ (hw _ (List.mem_of_getElem? (i := 2) rfl))) (mvT hZ (hw _ (List.mem_of_getElem? (i := 3) rfl))) (by decide) (backOf (W := 0) (rm1 l Z a0 hw [] a b h0 n0 (Nat.le_trans Z0 K0.1) ) hZ (hw _ (List.mem_of_getElem? (i := 3) rfl)) (hw _ (List.mem_of_getElem? (i := 2) rfl)) (by decide) (by decide)) (g := (mkF m 2 #[.val (.int a), .val (.int b), .unset, .unset, .unset, .unset] [(.int b), (.int a)])) rfl (by rw [hml]; rfl) (argsL := [(.int a), (.int b)]) (rest := []) (lenOf pd_0 rfl) rfl (by show 2 * 0 + _ ≤ _; exact Nat.le_of_eq rfl) (hb hby at_2) (fun _ _ => ⟨rfl, e0, (by decide : 0 + 0 ≤ _), (by decide : 0 + 0 ≤ _)⟩)
  dsimp only [Pt.U, Pt.locs, Pt.cells, Pt.slots] at X3 l3 y3 z3 st3 hQ3
  subst l3 y3 z3
  obtain ⟨r_4, rfl, N3q, f5, e3⟩ := hQ3
  have N3 := Fr.app N0 N3q
  refine Go.st st3 ?_
  show Go p e below s Q 0 0 (T3.setTop (mkF m 5 #[.val (.int a), .val (.int b), .unset, .unset, .unset, .unset] [(.int r_4)]))
  have f6 := rng32 r_4
  refine Go.st (fun _ k => XS.istoreN X3.here hx rfl (hb hby at_5) rfl (l' := #[.val (.int a), .val (.int b), .val (.int r_4), .unset, .unset, .unset]) rfl k) ?_
  show Go p e below s Q 0 0 (T3.setTop (mkF m 6 #[.val (.int a), .val (.int b), .val (.int r_4), .unset, .unset, .unset] []))
  refine Go.st (fun _ k => XS.iloadN X3.here hx rfl (hb hby at_6) rfl k) ?_
  show Go p e below s Q 0 0 (T3.setTop (mkF m 7 #[.val (.int a), .val (.int b), .val (.int r_4), .unset, .unset, .unset] [(.int a)]))
  refine Go.st (fun _ k => XS.iloadN X3.here hx rfl (hb hby at_7) rfl k) ?_
  show Go p e below s Q 0 0 (T3.setTop (mkF m 8 #[.val (.int a), .val (.int b), .val (.int r_4), .unset, .unset, .unset] [(.int b), (.int a)]))
  obtain ⟨_, _, ⟨T7, L7, k7, n7⟩, -, X7, ⟨Lc7, hQ7, l7, y7, z7⟩, st7⟩ := Jvm.LawKit.callS X3 hx (y := (⟨"java/lang/Math", "max", "(II)I"⟩ : MethodName)) hown (mvT hZ (hw _ (List.mem_of_getElem? (i := 4) rfl))) (mvT hZ (hw _ (List.mem_of_getElem? (i := 5) rfl))) (mvT hZ (hw _ (List.mem_of_getElem? (i := 2) rfl))) (mvT hZ (hw _ (List.mem_of_getElem? (i := 6) rfl))) (by decide) (backOf (W := 0) (rm2 l Z a0 hw [] a b h0 n0 (Nat.le_trans Z0 K0.1) ) hZ (hw _ (List.mem_of_getElem? (i := 6) rfl)) (hw _ (List.mem_of_getElem? (i := 2) rfl)) (by decide) (by decide)) (g := (mkF m 8 #[.val (.int a), .val (.int b), .val (.int r_4), .unset, .unset, .unset] [(.int b), (.int a)])) rfl (by rw [hml]; rfl) (argsL := [(.int a), (.int b)]) (rest := []) (lenOf pd_0 rfl) rfl (by show 2 * 0 + _ ≤ _; exact Nat.le_of_eq rfl) (hb hby at_8) (fun _ _ => ⟨rfl, e3, (by decide : 0 + 0 ≤ _), (by decide : 0 + 0 ≤ _)⟩)
  dsimp only [Pt.U, Pt.locs, Pt.cells, Pt.slots] at X7 l7 y7 z7 st7 hQ7
  subst l7 y7 z7
  obtain ⟨r_8, rfl, N7q, f9, e7⟩ := hQ7
  have N7 := Fr.app N3 N7q
  refine Go.st st7 ?_
  show Go p e below s Q 0 0 (T7.setTop (mkF m 11 #[.val (.int a), .val (.int b), .val (.int r_4), .unset, .unset, .unset] [(.int r_8)]))
  have f10 := rng32 r_8
  refine Go.st (fun _ k => XS.istoreN X7.here hx rfl (hb hby at_11) rfl (l' := #[.val (.int a), .val (.int b), .val (.int r_4), .val (.int r_8), .unset, .unset]) rfl k) ?_
  show Go p e below s Q 0 0 (T7.setTop (mkF m 12 #[.val (.int a), .val (.int b), .val (.int r_4), .val (.int r_8), .unset, .unset] []))
  refine Go.st (fun _ k => XS.iloadN X7.here hx rfl (hb hby at_12) rfl k) ?_
  show Go p e below s Q 0 0 (T7.setTop (mkF m 13 #[.val (.int a), .val (.int b), .val (.int r_4), .val (.int r_8), .unset, .unset] [(.int r_8)]))
  obtain ⟨_, _, ⟨T11, L11, k11, n11⟩, -, X11, ⟨Lc11, hQ11, l11, y11, z11⟩, st11⟩ := Jvm.LawKit.callS X7 hx (y := (⟨"com/example/graf/graf/flow/Step", "isSuccess", "(I)Z"⟩ : MethodName)) hown (mvT hZ (hw _ (List.mem_of_getElem? (i := 7) rfl))) (mvT hZ (hw _ (List.mem_of_getElem? (i := 8) rfl))) (mvT hZ (hw _ (List.mem_of_getElem? (i := 9) rfl))) (mvT hZ (hw _ (List.mem_of_getElem? (i := 10) rfl))) (by decide) (backOf (W := 0) (rm3 l Z a0 hw [] r_8 h0 n0 (Nat.le_trans Z0 K0.1) ) hZ (hw _ (List.mem_of_getElem? (i := 10) rfl)) (hw _ (List.mem_of_getElem? (i := 9) rfl)) (by decide) (by decide)) (g := (mkF m 13 #[.val (.int a), .val (.int b), .val (.int r_4), .val (.int r_8), .unset, .unset] [(.int r_8)])) rfl (by rw [hml]; rfl) (argsL := [(.int r_8)]) (rest := []) (lenOf pd_1 rfl) rfl (by show 2 * 0 + _ ≤ _; exact Nat.le_of_eq rfl) (hb hby at_13) (fun _ _ => ⟨rfl, e7, (by decide : 0 + 0 ≤ _), (by decide : 0 + 0 ≤ _)⟩)
  dsimp only [Pt.U, Pt.locs, Pt.cells, Pt.slots] at X11 l11 y11 z11 st11 hQ11
  subst l11 y11 z11
  obtain ⟨r_12, rfl, N11q, f13, e11⟩ := hQ11
  have N11 := Fr.app N7 N11q
  refine Go.st st11 ?_
  show Go p e below s Q 0 0 (T11.setTop (mkF m 16 #[.val (.int a), .val (.int b), .val (.int r_4), .val (.int r_8), .unset, .unset] [(.int r_12)]))
  have f14 := rng32 r_12
  have f15 := liI_0
  by_cases c16 : r_12.toInt = 0
  ·
    refine Go.st (fun _ k => XS.ifYes X11.here hx rfl (pc0 := 16) (pc' := 26) rfl (hb hby at_16) rfl ((if0 _ _).trans (teq (eqI rfl liI_0 c16)).1) (by decide) (by decide) k) ?_
    show Go p e below s Q 0 0 (T11.setTop (mkF m 26 #[.val (.int a), .val (.int b), .val (.int r_4), .val (.int r_8), .unset, .unset] []))
    refine Go.st (fun _ k => XS.iconst X11.here hx rfl (hb hby at_26) k) ?_
    show Go p e below s Q 0 0 (T11.setTop (mkF m 27 #[.val (.int a), .val (.int b), .val (.int r_4), .val (.int r_8), .unset, .unset] [(.int (1 : Int32))]))
    refine Go.st (fun _ k => XS.goto X11.here hx rfl (pc0 := 27) (pc' := 31) rfl (hb hby at_27) (by decide) (by decide) k) ?_
    show Go p e below s Q 0 0 (T11.setTop (mkF m 31 #[.val (.int a), .val (.int b), .val (.int r_4), .val (.int r_8), .unset, .unset] [(.int (1 : Int32))]))
    refine Go.st (fun _ k => XS.istore X11.here hx rfl (hb hby at_31) rfl (l' := #[.val (.int a), .val (.int b), .val (.int r_4), .val (.int r_8), .val (.int (1 : Int32)), .unset]) rfl k) ?_
    show Go p e below s Q 0 0 (T11.setTop (mkF m 33 #[.val (.int a), .val (.int b), .val (.int r_4), .val (.int r_8), .val (.int (1 : Int32)), .unset] []))
    refine Go.st (fun _ k => XS.sipush X11.here hx rfl (hb hby at_33) k) ?_
    show Go p e below s Q 0 0 (T11.setTop (mkF m 36 #[.val (.int a), .val (.int b), .val (.int r_4), .val (.int r_8), .val (.int (1 : Int32)), .unset] [(.int (399 : Int32))]))
    have f18 := liI_399
    obtain ⟨_, _, ⟨T17, L17, k17, n17⟩, -, X17, ⟨Lc17, hQ17, l17, y17, z17⟩, st17⟩ := Jvm.LawKit.callS X11 hx (y := (⟨"com/example/graf/graf/flow/Step", "isSuccess", "(I)Z"⟩ : MethodName)) hown (mvT hZ (hw _ (List.mem_of_getElem? (i := 7) rfl))) (mvT hZ (hw _ (List.mem_of_getElem? (i := 8) rfl))) (mvT hZ (hw _ (List.mem_of_getElem? (i := 9) rfl))) (mvT hZ (hw _ (List.mem_of_getElem? (i := 10) rfl))) (by decide) (backOf (W := 0) (rm3 l Z a0 hw [] (399 : Int32) h0 n0 (Nat.le_trans Z0 K0.1) ) hZ (hw _ (List.mem_of_getElem? (i := 10) rfl)) (hw _ (List.mem_of_getElem? (i := 9) rfl)) (by decide) (by decide)) (g := (mkF m 36 #[.val (.int a), .val (.int b), .val (.int r_4), .val (.int r_8), .val (.int (1 : Int32)), .unset] [(.int (399 : Int32))])) rfl (by rw [hml]; rfl) (argsL := [(.int (399 : Int32))]) (rest := []) (lenOf pd_1 rfl) rfl (by show 2 * 0 + _ ≤ _; exact Nat.le_of_eq rfl) (hb hby at_36) (fun _ _ => ⟨rfl, e11, (by decide : 0 + 0 ≤ _), (by decide : 0 + 0 ≤ _)⟩)
    dsimp only [Pt.U, Pt.locs, Pt.cells, Pt.slots] at X17 l17 y17 z17 st17 hQ17
    subst l17 y17 z17
    obtain ⟨r_19, rfl, N17q, f20, e17⟩ := hQ17
    have N17 := Fr.app N11 N17q
    refine Go.st st17 ?_
    show Go p e below s Q 0 0 (T17.setTop (mkF m 39 #[.val (.int a), .val (.int b), .val (.int r_4), .val (.int r_8), .val (.int (1 : Int32)), .unset] [(.int r_19)]))
    have f21 := rng32 r_19
    by_cases c22 : r_19.toInt = 0
    ·
      refine Go.st (fun _ k => XS.ifYes X17.here hx rfl (pc0 := 39) (pc' := 55) rfl (hb hby at_39) rfl ((if0 _ _).trans (teq (eqI rfl liI_0 c22)).1) (by decide) (by decide) k) ?_
      show Go p e below s Q 0 0 (T17.setTop (mkF m 55 #[.val (.int a), .val (.int b), .val (.int r_4), .val (.int r_8), .val (.int (1 : Int32)), .unset] []))
      refine Go.st (fun _ k => XS.iconst X17.here hx rfl (hb hby at_55) k) ?_
      show Go p e below s Q 0 0 (T17.setTop (mkF m 56 #[.val (.int a), .val (.int b), .val (.int r_4), .val (.int r_8), .val (.int (1 : Int32)), .unset] [(.int (0 : Int32))]))
      refine Go.st (fun _ k => XS.istore X17.here hx rfl (hb hby at_56) rfl (l' := #[.val (.int a), .val (.int b), .val (.int r_4), .val (.int r_8), .val (.int (1 : Int32)), .val (.int (0 : Int32))]) rfl k) ?_
      show Go p e below s Q 0 0 (T17.setTop (mkF m 58 #[.val (.int a), .val (.int b), .val (.int r_4), .val (.int r_8), .val (.int (1 : Int32)), .val (.int (0 : Int32))] []))
      refine Go.st (fun _ k => XS.iload X17.here hx rfl (hb hby at_58) rfl k) ?_
      show Go p e below s Q 0 0 (T17.setTop (mkF m 60 #[.val (.int a), .val (.int b), .val (.int r_4), .val (.int r_8), .val (.int (1 : Int32)), .val (.int (0 : Int32))] [(.int (1 : Int32))]))
      refine Go.st (fun _ k => XS.ifNo X17.here hx rfl (hb hby at_60) rfl ((if0 _ _).trans (feq (neI liI_1 liI_0 (by decide))).1) k) ?_
      show Go p e below s Q 0 0 (T17.setTop (mkF m 63 #[.val (.int a), .val (.int b), .val (.int r_4), .val (.int r_8), .val (.int (1 : Int32)), .val (.int (0 : Int32))] []))
      refine Go.st (fun _ k => XS.iload X17.here hx rfl (hb hby at_63) rfl k) ?_
      show Go p e below s Q 0 0 (T17.setTop (mkF m 65 #[.val (.int a), .val (.int b), .val (.int r_4), .val (.int r_8), .val (.int (1 : Int32)), .val (.int (0 : Int32))] [(.int (0 : Int32))]))
      refine Go.st (fun _ k => XS.ifYes X17.here hx rfl (pc0 := 65) (pc' := 72) rfl (hb hby at_65) rfl ((if0 _ _).trans (teq (eqI liI_0 liI_0 (by decide))).1) (by decide) (by decide) k) ?_
      show Go p e below s Q 0 0 (T17.setTop (mkF m 72 #[.val (.int a), .val (.int b), .val (.int r_4), .val (.int r_8), .val (.int (1 : Int32)), .val (.int (0 : Int32))] []))
      refine Go.st (fun _ k => XS.iconst X17.here hx rfl (hb hby at_72) k) ?_
      show Go p e below s Q 0 0 (T17.setTop (mkF m 73 #[.val (.int a), .val (.int b), .val (.int r_4), .val (.int r_8), .val (.int (1 : Int32)), .val (.int (0 : Int32))] [(.int (0 : Int32))]))
      have f23 := liI_1
      exact Go.retN X17 hx hlk (by simp) Bd.returns (hb hby at_73) (z' := (0 : Int32)) (by decide) (by rw [← hQ, e17]; exact ⟨congrArg (fun z => some (Value.int z)) (Int32.toInt_inj.mp (by omega)), N17, rfl⟩) (by decide) (by decide)
    ·
      refine Go.st (fun _ k => XS.ifNo X17.here hx rfl (hb hby at_39) rfl ((if0 _ _).trans (feq (neI rfl liI_0 c22)).1) k) ?_
      show Go p e below s Q 0 0 (T17.setTop (mkF m 42 #[.val (.int a), .val (.int b), .val (.int r_4), .val (.int r_8), .val (.int (1 : Int32)), .unset] []))
      refine Go.st (fun _ k => XS.sipush X17.here hx rfl (hb hby at_42) k) ?_
      show Go p e below s Q 0 0 (T17.setTop (mkF m 45 #[.val (.int a), .val (.int b), .val (.int r_4), .val (.int r_8), .val (.int (1 : Int32)), .unset] [(.int (400 : Int32))]))
      have f25 := liI_400
      obtain ⟨_, _, ⟨T24, L24, k24, n24⟩, -, X24, ⟨Lc24, hQ24, l24, y24, z24⟩, st24⟩ := Jvm.LawKit.callS X17 hx (y := (⟨"com/example/graf/graf/flow/Step", "isSuccess", "(I)Z"⟩ : MethodName)) hown (mvT hZ (hw _ (List.mem_of_getElem? (i := 7) rfl))) (mvT hZ (hw _ (List.mem_of_getElem? (i := 8) rfl))) (mvT hZ (hw _ (List.mem_of_getElem? (i := 9) rfl))) (mvT hZ (hw _ (List.mem_of_getElem? (i := 10) rfl))) (by decide) (backOf (W := 0) (rm3 l Z a0 hw [] (400 : Int32) h0 n0 (Nat.le_trans Z0 K0.1) ) hZ (hw _ (List.mem_of_getElem? (i := 10) rfl)) (hw _ (List.mem_of_getElem? (i := 9) rfl)) (by decide) (by decide)) (g := (mkF m 45 #[.val (.int a), .val (.int b), .val (.int r_4), .val (.int r_8), .val (.int (1 : Int32)), .unset] [(.int (400 : Int32))])) rfl (by rw [hml]; rfl) (argsL := [(.int (400 : Int32))]) (rest := []) (lenOf pd_1 rfl) rfl (by show 2 * 0 + _ ≤ _; exact Nat.le_of_eq rfl) (hb hby at_45) (fun _ _ => ⟨rfl, e17, (by decide : 0 + 0 ≤ _), (by decide : 0 + 0 ≤ _)⟩)
      dsimp only [Pt.U, Pt.locs, Pt.cells, Pt.slots] at X24 l24 y24 z24 st24 hQ24
      subst l24 y24 z24
      obtain ⟨r_26, rfl, N24q, f27, e24⟩ := hQ24
      have N24 := Fr.app N17 N24q
      refine Go.st st24 ?_
      show Go p e below s Q 0 0 (T24.setTop (mkF m 48 #[.val (.int a), .val (.int b), .val (.int r_4), .val (.int r_8), .val (.int (1 : Int32)), .unset] [(.int r_26)]))
      have f28 := rng32 r_26
      by_cases c29 : r_26.toInt = 0
      ·
        refine Go.st (fun _ k => XS.ifNo X24.here hx rfl (hb hby at_48) rfl ((if0 _ _).trans (teq (eqI rfl liI_0 c29)).2) k) ?_
        show Go p e below s Q 0 0 (T24.setTop (mkF m 51 #[.val (.int a), .val (.int b), .val (.int r_4), .val (.int r_8), .val (.int (1 : Int32)), .unset] []))
        refine Go.st (fun _ k => XS.iconst X24.here hx rfl (hb hby at_51) k) ?_
        show Go p e below s Q 0 0 (T24.setTop (mkF m 52 #[.val (.int a), .val (.int b), .val (.int r_4), .val (.int r_8), .val (.int (1 : Int32)), .unset] [(.int (1 : Int32))]))
        refine Go.st (fun _ k => XS.goto X24.here hx rfl (pc0 := 52) (pc' := 56) rfl (hb hby at_52) (by decide) (by decide) k) ?_
        show Go p e below s Q 0 0 (T24.setTop (mkF m 56 #[.val (.int a), .val (.int b), .val (.int r_4), .val (.int r_8), .val (.int (1 : Int32)), .unset] [(.int (1 : Int32))]))
        refine Go.st (fun _ k => XS.istore X24.here hx rfl (hb hby at_56) rfl (l' := #[.val (.int a), .val (.int b), .val (.int r_4), .val (.int r_8), .val (.int (1 : Int32)), .val (.int (1 : Int32))]) rfl k) ?_
        show Go p e below s Q 0 0 (T24.setTop (mkF m 58 #[.val (.int a), .val (.int b), .val (.int r_4), .val (.int r_8), .val (.int (1 : Int32)), .val (.int (1 : Int32))] []))
        refine Go.st (fun _ k => XS.iload X24.here hx rfl (hb hby at_58) rfl k) ?_
        show Go p e below s Q 0 0 (T24.setTop (mkF m 60 #[.val (.int a), .val (.int b), .val (.int r_4), .val (.int r_8), .val (.int (1 : Int32)), .val (.int (1 : Int32))] [(.int (1 : Int32))]))
        refine Go.st (fun _ k => XS.ifNo X24.here hx rfl (hb hby at_60) rfl ((if0 _ _).trans (feq (neI liI_1 liI_0 (by decide))).1) k) ?_
        show Go p e below s Q 0 0 (T24.setTop (mkF m 63 #[.val (.int a), .val (.int b), .val (.int r_4), .val (.int r_8), .val (.int (1 : Int32)), .val (.int (1 : Int32))] []))
        refine Go.st (fun _ k => XS.iload X24.here hx rfl (hb hby at_63) rfl k) ?_
        show Go p e below s Q 0 0 (T24.setTop (mkF m 65 #[.val (.int a), .val (.int b), .val (.int r_4), .val (.int r_8), .val (.int (1 : Int32)), .val (.int (1 : Int32))] [(.int (1 : Int32))]))
        refine Go.st (fun _ k => XS.ifNo X24.here hx rfl (hb hby at_65) rfl ((if0 _ _).trans (feq (neI liI_1 liI_0 (by decide))).1) k) ?_
        show Go p e below s Q 0 0 (T24.setTop (mkF m 68 #[.val (.int a), .val (.int b), .val (.int r_4), .val (.int r_8), .val (.int (1 : Int32)), .val (.int (1 : Int32))] []))
        refine Go.st (fun _ k => XS.iconst X24.here hx rfl (hb hby at_68) k) ?_
        show Go p e below s Q 0 0 (T24.setTop (mkF m 69 #[.val (.int a), .val (.int b), .val (.int r_4), .val (.int r_8), .val (.int (1 : Int32)), .val (.int (1 : Int32))] [(.int (1 : Int32))]))
        refine Go.st (fun _ k => XS.goto X24.here hx rfl (pc0 := 69) (pc' := 73) rfl (hb hby at_69) (by decide) (by decide) k) ?_
        show Go p e below s Q 0 0 (T24.setTop (mkF m 73 #[.val (.int a), .val (.int b), .val (.int r_4), .val (.int r_8), .val (.int (1 : Int32)), .val (.int (1 : Int32))] [(.int (1 : Int32))]))
        have f30 := liI_1
        exact Go.retN X24 hx hlk (by simp) Bd.returns (hb hby at_73) (z' := (1 : Int32)) (by decide) (by rw [← hQ, e24]; exact ⟨rfl, N24, rfl⟩) (by decide) (by decide)
      ·
        refine Go.st (fun _ k => XS.ifYes X24.here hx rfl (pc0 := 48) (pc' := 55) rfl (hb hby at_48) rfl ((if0 _ _).trans (feq (neI rfl liI_0 c29)).2) (by decide) (by decide) k) ?_
        show Go p e below s Q 0 0 (T24.setTop (mkF m 55 #[.val (.int a), .val (.int b), .val (.int r_4), .val (.int r_8), .val (.int (1 : Int32)), .unset] []))
        refine Go.st (fun _ k => XS.iconst X24.here hx rfl (hb hby at_55) k) ?_
        show Go p e below s Q 0 0 (T24.setTop (mkF m 56 #[.val (.int a), .val (.int b), .val (.int r_4), .val (.int r_8), .val (.int (1 : Int32)), .unset] [(.int (0 : Int32))]))
        refine Go.st (fun _ k => XS.istore X24.here hx rfl (hb hby at_56) rfl (l' := #[.val (.int a), .val (.int b), .val (.int r_4), .val (.int r_8), .val (.int (1 : Int32)), .val (.int (0 : Int32))]) rfl k) ?_
        show Go p e below s Q 0 0 (T24.setTop (mkF m 58 #[.val (.int a), .val (.int b), .val (.int r_4), .val (.int r_8), .val (.int (1 : Int32)), .val (.int (0 : Int32))] []))
        refine Go.st (fun _ k => XS.iload X24.here hx rfl (hb hby at_58) rfl k) ?_
        show Go p e below s Q 0 0 (T24.setTop (mkF m 60 #[.val (.int a), .val (.int b), .val (.int r_4), .val (.int r_8), .val (.int (1 : Int32)), .val (.int (0 : Int32))] [(.int (1 : Int32))]))
        refine Go.st (fun _ k => XS.ifNo X24.here hx rfl (hb hby at_60) rfl ((if0 _ _).trans (feq (neI liI_1 liI_0 (by decide))).1) k) ?_
        show Go p e below s Q 0 0 (T24.setTop (mkF m 63 #[.val (.int a), .val (.int b), .val (.int r_4), .val (.int r_8), .val (.int (1 : Int32)), .val (.int (0 : Int32))] []))
        refine Go.st (fun _ k => XS.iload X24.here hx rfl (hb hby at_63) rfl k) ?_
        show Go p e below s Q 0 0 (T24.setTop (mkF m 65 #[.val (.int a), .val (.int b), .val (.int r_4), .val (.int r_8), .val (.int (1 : Int32)), .val (.int (0 : Int32))] [(.int (0 : Int32))]))
        refine Go.st (fun _ k => XS.ifYes X24.here hx rfl (pc0 := 65) (pc' := 72) rfl (hb hby at_65) rfl ((if0 _ _).trans (teq (eqI liI_0 liI_0 (by decide))).1) (by decide) (by decide) k) ?_
        show Go p e below s Q 0 0 (T24.setTop (mkF m 72 #[.val (.int a), .val (.int b), .val (.int r_4), .val (.int r_8), .val (.int (1 : Int32)), .val (.int (0 : Int32))] []))
        refine Go.st (fun _ k => XS.iconst X24.here hx rfl (hb hby at_72) k) ?_
        show Go p e below s Q 0 0 (T24.setTop (mkF m 73 #[.val (.int a), .val (.int b), .val (.int r_4), .val (.int r_8), .val (.int (1 : Int32)), .val (.int (0 : Int32))] [(.int (0 : Int32))]))
        have f31 := liI_1
        exact Go.retN X24 hx hlk (by simp) Bd.returns (hb hby at_73) (z' := (0 : Int32)) (by decide) (by rw [← hQ, e24]; exact ⟨congrArg (fun z => some (Value.int z)) (Int32.toInt_inj.mp (by omega)), N24, rfl⟩) (by decide) (by decide)
  ·
    refine Go.st (fun _ k => XS.ifNo X11.here hx rfl (hb hby at_16) rfl ((if0 _ _).trans (feq (neI rfl liI_0 c16)).1) k) ?_
    show Go p e below s Q 0 0 (T11.setTop (mkF m 19 #[.val (.int a), .val (.int b), .val (.int r_4), .val (.int r_8), .unset, .unset] []))
    refine Go.st (fun _ k => XS.iloadN X11.here hx rfl (hb hby at_19) rfl k) ?_
    show Go p e below s Q 0 0 (T11.setTop (mkF m 20 #[.val (.int a), .val (.int b), .val (.int r_4), .val (.int r_8), .unset, .unset] [(.int r_4)]))
    obtain ⟨_, _, ⟨T32, L32, k32, n32⟩, -, X32, ⟨Lc32, hQ32, l32, y32, z32⟩, st32⟩ := Jvm.LawKit.callS X11 hx (y := (⟨"com/example/graf/graf/flow/Step", "isSuccess", "(I)Z"⟩ : MethodName)) hown (mvT hZ (hw _ (List.mem_of_getElem? (i := 7) rfl))) (mvT hZ (hw _ (List.mem_of_getElem? (i := 8) rfl))) (mvT hZ (hw _ (List.mem_of_getElem? (i := 9) rfl))) (mvT hZ (hw _ (List.mem_of_getElem? (i := 10) rfl))) (by decide) (backOf (W := 0) (rm3 l Z a0 hw [] r_4 h0 n0 (Nat.le_trans Z0 K0.1) ) hZ (hw _ (List.mem_of_getElem? (i := 10) rfl)) (hw _ (List.mem_of_getElem? (i := 9) rfl)) (by decide) (by decide)) (g := (mkF m 20 #[.val (.int a), .val (.int b), .val (.int r_4), .val (.int r_8), .unset, .unset] [(.int r_4)])) rfl (by rw [hml]; rfl) (argsL := [(.int r_4)]) (rest := []) (lenOf pd_1 rfl) rfl (by show 2 * 0 + _ ≤ _; exact Nat.le_of_eq rfl) (hb hby at_20) (fun _ _ => ⟨rfl, e11, (by decide : 0 + 0 ≤ _), (by decide : 0 + 0 ≤ _)⟩)
    dsimp only [Pt.U, Pt.locs, Pt.cells, Pt.slots] at X32 l32 y32 z32 st32 hQ32
    subst l32 y32 z32
    obtain ⟨r_33, rfl, N32q, f34, e32⟩ := hQ32
    have N32 := Fr.app N11 N32q
    refine Go.st st32 ?_
    show Go p e below s Q 0 0 (T32.setTop (mkF m 23 #[.val (.int a), .val (.int b), .val (.int r_4), .val (.int r_8), .unset, .unset] [(.int r_33)]))
    have f35 := rng32 r_33
    by_cases c36 : r_33.toInt = 0
    ·
      refine Go.st (fun _ k => XS.ifYes X32.here hx rfl (pc0 := 23) (pc' := 30) rfl (hb hby at_23) rfl ((if0 _ _).trans (teq (eqI rfl liI_0 c36)).1) (by decide) (by decide) k) ?_
      show Go p e below s Q 0 0 (T32.setTop (mkF m 30 #[.val (.int a), .val (.int b), .val (.int r_4), .val (.int r_8), .unset, .unset] []))
      refine Go.st (fun _ k => XS.iconst X32.here hx rfl (hb hby at_30) k) ?_
      show Go p e below s Q 0 0 (T32.setTop (mkF m 31 #[.val (.int a), .val (.int b), .val (.int r_4), .val (.int r_8), .unset, .unset] [(.int (0 : Int32))]))
      refine Go.st (fun _ k => XS.istore X32.here hx rfl (hb hby at_31) rfl (l' := #[.val (.int a), .val (.int b), .val (.int r_4), .val (.int r_8), .val (.int (0 : Int32)), .unset]) rfl k) ?_
      show Go p e below s Q 0 0 (T32.setTop (mkF m 33 #[.val (.int a), .val (.int b), .val (.int r_4), .val (.int r_8), .val (.int (0 : Int32)), .unset] []))
      refine Go.st (fun _ k => XS.sipush X32.here hx rfl (hb hby at_33) k) ?_
      show Go p e below s Q 0 0 (T32.setTop (mkF m 36 #[.val (.int a), .val (.int b), .val (.int r_4), .val (.int r_8), .val (.int (0 : Int32)), .unset] [(.int (399 : Int32))]))
      have f38 := liI_399
      obtain ⟨_, _, ⟨T37, L37, k37, n37⟩, -, X37, ⟨Lc37, hQ37, l37, y37, z37⟩, st37⟩ := Jvm.LawKit.callS X32 hx (y := (⟨"com/example/graf/graf/flow/Step", "isSuccess", "(I)Z"⟩ : MethodName)) hown (mvT hZ (hw _ (List.mem_of_getElem? (i := 7) rfl))) (mvT hZ (hw _ (List.mem_of_getElem? (i := 8) rfl))) (mvT hZ (hw _ (List.mem_of_getElem? (i := 9) rfl))) (mvT hZ (hw _ (List.mem_of_getElem? (i := 10) rfl))) (by decide) (backOf (W := 0) (rm3 l Z a0 hw [] (399 : Int32) h0 n0 (Nat.le_trans Z0 K0.1) ) hZ (hw _ (List.mem_of_getElem? (i := 10) rfl)) (hw _ (List.mem_of_getElem? (i := 9) rfl)) (by decide) (by decide)) (g := (mkF m 36 #[.val (.int a), .val (.int b), .val (.int r_4), .val (.int r_8), .val (.int (0 : Int32)), .unset] [(.int (399 : Int32))])) rfl (by rw [hml]; rfl) (argsL := [(.int (399 : Int32))]) (rest := []) (lenOf pd_1 rfl) rfl (by show 2 * 0 + _ ≤ _; exact Nat.le_of_eq rfl) (hb hby at_36) (fun _ _ => ⟨rfl, e32, (by decide : 0 + 0 ≤ _), (by decide : 0 + 0 ≤ _)⟩)
      dsimp only [Pt.U, Pt.locs, Pt.cells, Pt.slots] at X37 l37 y37 z37 st37 hQ37
      subst l37 y37 z37
      obtain ⟨r_39, rfl, N37q, f40, e37⟩ := hQ37
      have N37 := Fr.app N32 N37q
      refine Go.st st37 ?_
      show Go p e below s Q 0 0 (T37.setTop (mkF m 39 #[.val (.int a), .val (.int b), .val (.int r_4), .val (.int r_8), .val (.int (0 : Int32)), .unset] [(.int r_39)]))
      have f41 := rng32 r_39
      by_cases c42 : r_39.toInt = 0
      ·
        refine Go.st (fun _ k => XS.ifYes X37.here hx rfl (pc0 := 39) (pc' := 55) rfl (hb hby at_39) rfl ((if0 _ _).trans (teq (eqI rfl liI_0 c42)).1) (by decide) (by decide) k) ?_
        show Go p e below s Q 0 0 (T37.setTop (mkF m 55 #[.val (.int a), .val (.int b), .val (.int r_4), .val (.int r_8), .val (.int (0 : Int32)), .unset] []))
        refine Go.st (fun _ k => XS.iconst X37.here hx rfl (hb hby at_55) k) ?_
        show Go p e below s Q 0 0 (T37.setTop (mkF m 56 #[.val (.int a), .val (.int b), .val (.int r_4), .val (.int r_8), .val (.int (0 : Int32)), .unset] [(.int (0 : Int32))]))
        refine Go.st (fun _ k => XS.istore X37.here hx rfl (hb hby at_56) rfl (l' := #[.val (.int a), .val (.int b), .val (.int r_4), .val (.int r_8), .val (.int (0 : Int32)), .val (.int (0 : Int32))]) rfl k) ?_
        show Go p e below s Q 0 0 (T37.setTop (mkF m 58 #[.val (.int a), .val (.int b), .val (.int r_4), .val (.int r_8), .val (.int (0 : Int32)), .val (.int (0 : Int32))] []))
        refine Go.st (fun _ k => XS.iload X37.here hx rfl (hb hby at_58) rfl k) ?_
        show Go p e below s Q 0 0 (T37.setTop (mkF m 60 #[.val (.int a), .val (.int b), .val (.int r_4), .val (.int r_8), .val (.int (0 : Int32)), .val (.int (0 : Int32))] [(.int (0 : Int32))]))
        refine Go.st (fun _ k => XS.ifYes X37.here hx rfl (pc0 := 60) (pc' := 72) rfl (hb hby at_60) rfl ((if0 _ _).trans (teq (eqI liI_0 liI_0 (by decide))).1) (by decide) (by decide) k) ?_
        show Go p e below s Q 0 0 (T37.setTop (mkF m 72 #[.val (.int a), .val (.int b), .val (.int r_4), .val (.int r_8), .val (.int (0 : Int32)), .val (.int (0 : Int32))] []))
        refine Go.st (fun _ k => XS.iconst X37.here hx rfl (hb hby at_72) k) ?_
        show Go p e below s Q 0 0 (T37.setTop (mkF m 73 #[.val (.int a), .val (.int b), .val (.int r_4), .val (.int r_8), .val (.int (0 : Int32)), .val (.int (0 : Int32))] [(.int (0 : Int32))]))
        have f43 := liI_1
        exact Go.retN X37 hx hlk (by simp) Bd.returns (hb hby at_73) (z' := (0 : Int32)) (by decide) (by rw [← hQ, e37]; exact ⟨congrArg (fun z => some (Value.int z)) (Int32.toInt_inj.mp (by omega)), N37, rfl⟩) (by decide) (by decide)
      ·
        refine Go.st (fun _ k => XS.ifNo X37.here hx rfl (hb hby at_39) rfl ((if0 _ _).trans (feq (neI rfl liI_0 c42)).1) k) ?_
        show Go p e below s Q 0 0 (T37.setTop (mkF m 42 #[.val (.int a), .val (.int b), .val (.int r_4), .val (.int r_8), .val (.int (0 : Int32)), .unset] []))
        refine Go.st (fun _ k => XS.sipush X37.here hx rfl (hb hby at_42) k) ?_
        show Go p e below s Q 0 0 (T37.setTop (mkF m 45 #[.val (.int a), .val (.int b), .val (.int r_4), .val (.int r_8), .val (.int (0 : Int32)), .unset] [(.int (400 : Int32))]))
        have f45 := liI_400
        obtain ⟨_, _, ⟨T44, L44, k44, n44⟩, -, X44, ⟨Lc44, hQ44, l44, y44, z44⟩, st44⟩ := Jvm.LawKit.callS X37 hx (y := (⟨"com/example/graf/graf/flow/Step", "isSuccess", "(I)Z"⟩ : MethodName)) hown (mvT hZ (hw _ (List.mem_of_getElem? (i := 7) rfl))) (mvT hZ (hw _ (List.mem_of_getElem? (i := 8) rfl))) (mvT hZ (hw _ (List.mem_of_getElem? (i := 9) rfl))) (mvT hZ (hw _ (List.mem_of_getElem? (i := 10) rfl))) (by decide) (backOf (W := 0) (rm3 l Z a0 hw [] (400 : Int32) h0 n0 (Nat.le_trans Z0 K0.1) ) hZ (hw _ (List.mem_of_getElem? (i := 10) rfl)) (hw _ (List.mem_of_getElem? (i := 9) rfl)) (by decide) (by decide)) (g := (mkF m 45 #[.val (.int a), .val (.int b), .val (.int r_4), .val (.int r_8), .val (.int (0 : Int32)), .unset] [(.int (400 : Int32))])) rfl (by rw [hml]; rfl) (argsL := [(.int (400 : Int32))]) (rest := []) (lenOf pd_1 rfl) rfl (by show 2 * 0 + _ ≤ _; exact Nat.le_of_eq rfl) (hb hby at_45) (fun _ _ => ⟨rfl, e37, (by decide : 0 + 0 ≤ _), (by decide : 0 + 0 ≤ _)⟩)
        dsimp only [Pt.U, Pt.locs, Pt.cells, Pt.slots] at X44 l44 y44 z44 st44 hQ44
        subst l44 y44 z44
        obtain ⟨r_46, rfl, N44q, f47, e44⟩ := hQ44
        have N44 := Fr.app N37 N44q
        refine Go.st st44 ?_
        show Go p e below s Q 0 0 (T44.setTop (mkF m 48 #[.val (.int a), .val (.int b), .val (.int r_4), .val (.int r_8), .val (.int (0 : Int32)), .unset] [(.int r_46)]))
        have f48 := rng32 r_46
        by_cases c49 : r_46.toInt = 0
        ·
          refine Go.st (fun _ k => XS.ifNo X44.here hx rfl (hb hby at_48) rfl ((if0 _ _).trans (teq (eqI rfl liI_0 c49)).2) k) ?_
          show Go p e below s Q 0 0 (T44.setTop (mkF m 51 #[.val (.int a), .val (.int b), .val (.int r_4), .val (.int r_8), .val (.int (0 : Int32)), .unset] []))
          refine Go.st (fun _ k => XS.iconst X44.here hx rfl (hb hby at_51) k) ?_
          show Go p e below s Q 0 0 (T44.setTop (mkF m 52 #[.val (.int a), .val (.int b), .val (.int r_4), .val (.int r_8), .val (.int (0 : Int32)), .unset] [(.int (1 : Int32))]))
          refine Go.st (fun _ k => XS.goto X44.here hx rfl (pc0 := 52) (pc' := 56) rfl (hb hby at_52) (by decide) (by decide) k) ?_
          show Go p e below s Q 0 0 (T44.setTop (mkF m 56 #[.val (.int a), .val (.int b), .val (.int r_4), .val (.int r_8), .val (.int (0 : Int32)), .unset] [(.int (1 : Int32))]))
          refine Go.st (fun _ k => XS.istore X44.here hx rfl (hb hby at_56) rfl (l' := #[.val (.int a), .val (.int b), .val (.int r_4), .val (.int r_8), .val (.int (0 : Int32)), .val (.int (1 : Int32))]) rfl k) ?_
          show Go p e below s Q 0 0 (T44.setTop (mkF m 58 #[.val (.int a), .val (.int b), .val (.int r_4), .val (.int r_8), .val (.int (0 : Int32)), .val (.int (1 : Int32))] []))
          refine Go.st (fun _ k => XS.iload X44.here hx rfl (hb hby at_58) rfl k) ?_
          show Go p e below s Q 0 0 (T44.setTop (mkF m 60 #[.val (.int a), .val (.int b), .val (.int r_4), .val (.int r_8), .val (.int (0 : Int32)), .val (.int (1 : Int32))] [(.int (0 : Int32))]))
          refine Go.st (fun _ k => XS.ifYes X44.here hx rfl (pc0 := 60) (pc' := 72) rfl (hb hby at_60) rfl ((if0 _ _).trans (teq (eqI liI_0 liI_0 (by decide))).1) (by decide) (by decide) k) ?_
          show Go p e below s Q 0 0 (T44.setTop (mkF m 72 #[.val (.int a), .val (.int b), .val (.int r_4), .val (.int r_8), .val (.int (0 : Int32)), .val (.int (1 : Int32))] []))
          refine Go.st (fun _ k => XS.iconst X44.here hx rfl (hb hby at_72) k) ?_
          show Go p e below s Q 0 0 (T44.setTop (mkF m 73 #[.val (.int a), .val (.int b), .val (.int r_4), .val (.int r_8), .val (.int (0 : Int32)), .val (.int (1 : Int32))] [(.int (0 : Int32))]))
          have f50 := liI_1
          exact Go.retN X44 hx hlk (by simp) Bd.returns (hb hby at_73) (z' := (0 : Int32)) (by decide) (by rw [← hQ, e44]; exact ⟨congrArg (fun z => some (Value.int z)) (Int32.toInt_inj.mp (by omega)), N44, rfl⟩) (by decide) (by decide)
        ·
          refine Go.st (fun _ k => XS.ifYes X44.here hx rfl (pc0 := 48) (pc' := 55) rfl (hb hby at_48) rfl ((if0 _ _).trans (feq (neI rfl liI_0 c49)).2) (by decide) (by decide) k) ?_
          show Go p e below s Q 0 0 (T44.setTop (mkF m 55 #[.val (.int a), .val (.int b), .val (.int r_4), .val (.int r_8), .val (.int (0 : Int32)), .unset] []))
          refine Go.st (fun _ k => XS.iconst X44.here hx rfl (hb hby at_55) k) ?_
          show Go p e below s Q 0 0 (T44.setTop (mkF m 56 #[.val (.int a), .val (.int b), .val (.int r_4), .val (.int r_8), .val (.int (0 : Int32)), .unset] [(.int (0 : Int32))]))
          refine Go.st (fun _ k => XS.istore X44.here hx rfl (hb hby at_56) rfl (l' := #[.val (.int a), .val (.int b), .val (.int r_4), .val (.int r_8), .val (.int (0 : Int32)), .val (.int (0 : Int32))]) rfl k) ?_
          show Go p e below s Q 0 0 (T44.setTop (mkF m 58 #[.val (.int a), .val (.int b), .val (.int r_4), .val (.int r_8), .val (.int (0 : Int32)), .val (.int (0 : Int32))] []))
          refine Go.st (fun _ k => XS.iload X44.here hx rfl (hb hby at_58) rfl k) ?_
          show Go p e below s Q 0 0 (T44.setTop (mkF m 60 #[.val (.int a), .val (.int b), .val (.int r_4), .val (.int r_8), .val (.int (0 : Int32)), .val (.int (0 : Int32))] [(.int (0 : Int32))]))
          refine Go.st (fun _ k => XS.ifYes X44.here hx rfl (pc0 := 60) (pc' := 72) rfl (hb hby at_60) rfl ((if0 _ _).trans (teq (eqI liI_0 liI_0 (by decide))).1) (by decide) (by decide) k) ?_
          show Go p e below s Q 0 0 (T44.setTop (mkF m 72 #[.val (.int a), .val (.int b), .val (.int r_4), .val (.int r_8), .val (.int (0 : Int32)), .val (.int (0 : Int32))] []))
          refine Go.st (fun _ k => XS.iconst X44.here hx rfl (hb hby at_72) k) ?_
          show Go p e below s Q 0 0 (T44.setTop (mkF m 73 #[.val (.int a), .val (.int b), .val (.int r_4), .val (.int r_8), .val (.int (0 : Int32)), .val (.int (0 : Int32))] [(.int (0 : Int32))]))
          have f51 := liI_1
          exact Go.retN X44 hx hlk (by simp) Bd.returns (hb hby at_73) (z' := (0 : Int32)) (by decide) (by rw [← hQ, e44]; exact ⟨congrArg (fun z => some (Value.int z)) (Int32.toInt_inj.mp (by omega)), N44, rfl⟩) (by decide) (by decide)
    ·
      refine Go.st (fun _ k => XS.ifNo X32.here hx rfl (hb hby at_23) rfl ((if0 _ _).trans (feq (neI rfl liI_0 c36)).1) k) ?_
      show Go p e below s Q 0 0 (T32.setTop (mkF m 26 #[.val (.int a), .val (.int b), .val (.int r_4), .val (.int r_8), .unset, .unset] []))
      refine Go.st (fun _ k => XS.iconst X32.here hx rfl (hb hby at_26) k) ?_
      show Go p e below s Q 0 0 (T32.setTop (mkF m 27 #[.val (.int a), .val (.int b), .val (.int r_4), .val (.int r_8), .unset, .unset] [(.int (1 : Int32))]))
      refine Go.st (fun _ k => XS.goto X32.here hx rfl (pc0 := 27) (pc' := 31) rfl (hb hby at_27) (by decide) (by decide) k) ?_
      show Go p e below s Q 0 0 (T32.setTop (mkF m 31 #[.val (.int a), .val (.int b), .val (.int r_4), .val (.int r_8), .unset, .unset] [(.int (1 : Int32))]))
      refine Go.st (fun _ k => XS.istore X32.here hx rfl (hb hby at_31) rfl (l' := #[.val (.int a), .val (.int b), .val (.int r_4), .val (.int r_8), .val (.int (1 : Int32)), .unset]) rfl k) ?_
      show Go p e below s Q 0 0 (T32.setTop (mkF m 33 #[.val (.int a), .val (.int b), .val (.int r_4), .val (.int r_8), .val (.int (1 : Int32)), .unset] []))
      refine Go.st (fun _ k => XS.sipush X32.here hx rfl (hb hby at_33) k) ?_
      show Go p e below s Q 0 0 (T32.setTop (mkF m 36 #[.val (.int a), .val (.int b), .val (.int r_4), .val (.int r_8), .val (.int (1 : Int32)), .unset] [(.int (399 : Int32))]))
      have f53 := liI_399
      obtain ⟨_, _, ⟨T52, L52, k52, n52⟩, -, X52, ⟨Lc52, hQ52, l52, y52, z52⟩, st52⟩ := Jvm.LawKit.callS X32 hx (y := (⟨"com/example/graf/graf/flow/Step", "isSuccess", "(I)Z"⟩ : MethodName)) hown (mvT hZ (hw _ (List.mem_of_getElem? (i := 7) rfl))) (mvT hZ (hw _ (List.mem_of_getElem? (i := 8) rfl))) (mvT hZ (hw _ (List.mem_of_getElem? (i := 9) rfl))) (mvT hZ (hw _ (List.mem_of_getElem? (i := 10) rfl))) (by decide) (backOf (W := 0) (rm3 l Z a0 hw [] (399 : Int32) h0 n0 (Nat.le_trans Z0 K0.1) ) hZ (hw _ (List.mem_of_getElem? (i := 10) rfl)) (hw _ (List.mem_of_getElem? (i := 9) rfl)) (by decide) (by decide)) (g := (mkF m 36 #[.val (.int a), .val (.int b), .val (.int r_4), .val (.int r_8), .val (.int (1 : Int32)), .unset] [(.int (399 : Int32))])) rfl (by rw [hml]; rfl) (argsL := [(.int (399 : Int32))]) (rest := []) (lenOf pd_1 rfl) rfl (by show 2 * 0 + _ ≤ _; exact Nat.le_of_eq rfl) (hb hby at_36) (fun _ _ => ⟨rfl, e32, (by decide : 0 + 0 ≤ _), (by decide : 0 + 0 ≤ _)⟩)
      dsimp only [Pt.U, Pt.locs, Pt.cells, Pt.slots] at X52 l52 y52 z52 st52 hQ52
      subst l52 y52 z52
      obtain ⟨r_54, rfl, N52q, f55, e52⟩ := hQ52
      have N52 := Fr.app N32 N52q
      refine Go.st st52 ?_
      show Go p e below s Q 0 0 (T52.setTop (mkF m 39 #[.val (.int a), .val (.int b), .val (.int r_4), .val (.int r_8), .val (.int (1 : Int32)), .unset] [(.int r_54)]))
      have f56 := rng32 r_54
      by_cases c57 : r_54.toInt = 0
      ·
        refine Go.st (fun _ k => XS.ifYes X52.here hx rfl (pc0 := 39) (pc' := 55) rfl (hb hby at_39) rfl ((if0 _ _).trans (teq (eqI rfl liI_0 c57)).1) (by decide) (by decide) k) ?_
        show Go p e below s Q 0 0 (T52.setTop (mkF m 55 #[.val (.int a), .val (.int b), .val (.int r_4), .val (.int r_8), .val (.int (1 : Int32)), .unset] []))
        refine Go.st (fun _ k => XS.iconst X52.here hx rfl (hb hby at_55) k) ?_
        show Go p e below s Q 0 0 (T52.setTop (mkF m 56 #[.val (.int a), .val (.int b), .val (.int r_4), .val (.int r_8), .val (.int (1 : Int32)), .unset] [(.int (0 : Int32))]))
        refine Go.st (fun _ k => XS.istore X52.here hx rfl (hb hby at_56) rfl (l' := #[.val (.int a), .val (.int b), .val (.int r_4), .val (.int r_8), .val (.int (1 : Int32)), .val (.int (0 : Int32))]) rfl k) ?_
        show Go p e below s Q 0 0 (T52.setTop (mkF m 58 #[.val (.int a), .val (.int b), .val (.int r_4), .val (.int r_8), .val (.int (1 : Int32)), .val (.int (0 : Int32))] []))
        refine Go.st (fun _ k => XS.iload X52.here hx rfl (hb hby at_58) rfl k) ?_
        show Go p e below s Q 0 0 (T52.setTop (mkF m 60 #[.val (.int a), .val (.int b), .val (.int r_4), .val (.int r_8), .val (.int (1 : Int32)), .val (.int (0 : Int32))] [(.int (1 : Int32))]))
        refine Go.st (fun _ k => XS.ifNo X52.here hx rfl (hb hby at_60) rfl ((if0 _ _).trans (feq (neI liI_1 liI_0 (by decide))).1) k) ?_
        show Go p e below s Q 0 0 (T52.setTop (mkF m 63 #[.val (.int a), .val (.int b), .val (.int r_4), .val (.int r_8), .val (.int (1 : Int32)), .val (.int (0 : Int32))] []))
        refine Go.st (fun _ k => XS.iload X52.here hx rfl (hb hby at_63) rfl k) ?_
        show Go p e below s Q 0 0 (T52.setTop (mkF m 65 #[.val (.int a), .val (.int b), .val (.int r_4), .val (.int r_8), .val (.int (1 : Int32)), .val (.int (0 : Int32))] [(.int (0 : Int32))]))
        refine Go.st (fun _ k => XS.ifYes X52.here hx rfl (pc0 := 65) (pc' := 72) rfl (hb hby at_65) rfl ((if0 _ _).trans (teq (eqI liI_0 liI_0 (by decide))).1) (by decide) (by decide) k) ?_
        show Go p e below s Q 0 0 (T52.setTop (mkF m 72 #[.val (.int a), .val (.int b), .val (.int r_4), .val (.int r_8), .val (.int (1 : Int32)), .val (.int (0 : Int32))] []))
        refine Go.st (fun _ k => XS.iconst X52.here hx rfl (hb hby at_72) k) ?_
        show Go p e below s Q 0 0 (T52.setTop (mkF m 73 #[.val (.int a), .val (.int b), .val (.int r_4), .val (.int r_8), .val (.int (1 : Int32)), .val (.int (0 : Int32))] [(.int (0 : Int32))]))
        have f58 := liI_1
        exact Go.retN X52 hx hlk (by simp) Bd.returns (hb hby at_73) (z' := (0 : Int32)) (by decide) (by rw [← hQ, e52]; exact ⟨congrArg (fun z => some (Value.int z)) (Int32.toInt_inj.mp (by omega)), N52, rfl⟩) (by decide) (by decide)
      ·
        refine Go.st (fun _ k => XS.ifNo X52.here hx rfl (hb hby at_39) rfl ((if0 _ _).trans (feq (neI rfl liI_0 c57)).1) k) ?_
        show Go p e below s Q 0 0 (T52.setTop (mkF m 42 #[.val (.int a), .val (.int b), .val (.int r_4), .val (.int r_8), .val (.int (1 : Int32)), .unset] []))
        refine Go.st (fun _ k => XS.sipush X52.here hx rfl (hb hby at_42) k) ?_
        show Go p e below s Q 0 0 (T52.setTop (mkF m 45 #[.val (.int a), .val (.int b), .val (.int r_4), .val (.int r_8), .val (.int (1 : Int32)), .unset] [(.int (400 : Int32))]))
        have f60 := liI_400
        obtain ⟨_, _, ⟨T59, L59, k59, n59⟩, -, X59, ⟨Lc59, hQ59, l59, y59, z59⟩, st59⟩ := Jvm.LawKit.callS X52 hx (y := (⟨"com/example/graf/graf/flow/Step", "isSuccess", "(I)Z"⟩ : MethodName)) hown (mvT hZ (hw _ (List.mem_of_getElem? (i := 7) rfl))) (mvT hZ (hw _ (List.mem_of_getElem? (i := 8) rfl))) (mvT hZ (hw _ (List.mem_of_getElem? (i := 9) rfl))) (mvT hZ (hw _ (List.mem_of_getElem? (i := 10) rfl))) (by decide) (backOf (W := 0) (rm3 l Z a0 hw [] (400 : Int32) h0 n0 (Nat.le_trans Z0 K0.1) ) hZ (hw _ (List.mem_of_getElem? (i := 10) rfl)) (hw _ (List.mem_of_getElem? (i := 9) rfl)) (by decide) (by decide)) (g := (mkF m 45 #[.val (.int a), .val (.int b), .val (.int r_4), .val (.int r_8), .val (.int (1 : Int32)), .unset] [(.int (400 : Int32))])) rfl (by rw [hml]; rfl) (argsL := [(.int (400 : Int32))]) (rest := []) (lenOf pd_1 rfl) rfl (by show 2 * 0 + _ ≤ _; exact Nat.le_of_eq rfl) (hb hby at_45) (fun _ _ => ⟨rfl, e52, (by decide : 0 + 0 ≤ _), (by decide : 0 + 0 ≤ _)⟩)
        dsimp only [Pt.U, Pt.locs, Pt.cells, Pt.slots] at X59 l59 y59 z59 st59 hQ59
        subst l59 y59 z59
        obtain ⟨r_61, rfl, N59q, f62, e59⟩ := hQ59
        have N59 := Fr.app N52 N59q
        refine Go.st st59 ?_
        show Go p e below s Q 0 0 (T59.setTop (mkF m 48 #[.val (.int a), .val (.int b), .val (.int r_4), .val (.int r_8), .val (.int (1 : Int32)), .unset] [(.int r_61)]))
        have f63 := rng32 r_61
        by_cases c64 : r_61.toInt = 0
        ·
          refine Go.st (fun _ k => XS.ifNo X59.here hx rfl (hb hby at_48) rfl ((if0 _ _).trans (teq (eqI rfl liI_0 c64)).2) k) ?_
          show Go p e below s Q 0 0 (T59.setTop (mkF m 51 #[.val (.int a), .val (.int b), .val (.int r_4), .val (.int r_8), .val (.int (1 : Int32)), .unset] []))
          refine Go.st (fun _ k => XS.iconst X59.here hx rfl (hb hby at_51) k) ?_
          show Go p e below s Q 0 0 (T59.setTop (mkF m 52 #[.val (.int a), .val (.int b), .val (.int r_4), .val (.int r_8), .val (.int (1 : Int32)), .unset] [(.int (1 : Int32))]))
          refine Go.st (fun _ k => XS.goto X59.here hx rfl (pc0 := 52) (pc' := 56) rfl (hb hby at_52) (by decide) (by decide) k) ?_
          show Go p e below s Q 0 0 (T59.setTop (mkF m 56 #[.val (.int a), .val (.int b), .val (.int r_4), .val (.int r_8), .val (.int (1 : Int32)), .unset] [(.int (1 : Int32))]))
          refine Go.st (fun _ k => XS.istore X59.here hx rfl (hb hby at_56) rfl (l' := #[.val (.int a), .val (.int b), .val (.int r_4), .val (.int r_8), .val (.int (1 : Int32)), .val (.int (1 : Int32))]) rfl k) ?_
          show Go p e below s Q 0 0 (T59.setTop (mkF m 58 #[.val (.int a), .val (.int b), .val (.int r_4), .val (.int r_8), .val (.int (1 : Int32)), .val (.int (1 : Int32))] []))
          refine Go.st (fun _ k => XS.iload X59.here hx rfl (hb hby at_58) rfl k) ?_
          show Go p e below s Q 0 0 (T59.setTop (mkF m 60 #[.val (.int a), .val (.int b), .val (.int r_4), .val (.int r_8), .val (.int (1 : Int32)), .val (.int (1 : Int32))] [(.int (1 : Int32))]))
          refine Go.st (fun _ k => XS.ifNo X59.here hx rfl (hb hby at_60) rfl ((if0 _ _).trans (feq (neI liI_1 liI_0 (by decide))).1) k) ?_
          show Go p e below s Q 0 0 (T59.setTop (mkF m 63 #[.val (.int a), .val (.int b), .val (.int r_4), .val (.int r_8), .val (.int (1 : Int32)), .val (.int (1 : Int32))] []))
          refine Go.st (fun _ k => XS.iload X59.here hx rfl (hb hby at_63) rfl k) ?_
          show Go p e below s Q 0 0 (T59.setTop (mkF m 65 #[.val (.int a), .val (.int b), .val (.int r_4), .val (.int r_8), .val (.int (1 : Int32)), .val (.int (1 : Int32))] [(.int (1 : Int32))]))
          refine Go.st (fun _ k => XS.ifNo X59.here hx rfl (hb hby at_65) rfl ((if0 _ _).trans (feq (neI liI_1 liI_0 (by decide))).1) k) ?_
          show Go p e below s Q 0 0 (T59.setTop (mkF m 68 #[.val (.int a), .val (.int b), .val (.int r_4), .val (.int r_8), .val (.int (1 : Int32)), .val (.int (1 : Int32))] []))
          refine Go.st (fun _ k => XS.iconst X59.here hx rfl (hb hby at_68) k) ?_
          show Go p e below s Q 0 0 (T59.setTop (mkF m 69 #[.val (.int a), .val (.int b), .val (.int r_4), .val (.int r_8), .val (.int (1 : Int32)), .val (.int (1 : Int32))] [(.int (1 : Int32))]))
          refine Go.st (fun _ k => XS.goto X59.here hx rfl (pc0 := 69) (pc' := 73) rfl (hb hby at_69) (by decide) (by decide) k) ?_
          show Go p e below s Q 0 0 (T59.setTop (mkF m 73 #[.val (.int a), .val (.int b), .val (.int r_4), .val (.int r_8), .val (.int (1 : Int32)), .val (.int (1 : Int32))] [(.int (1 : Int32))]))
          have f65 := liI_1
          exact Go.retN X59 hx hlk (by simp) Bd.returns (hb hby at_73) (z' := (1 : Int32)) (by decide) (by rw [← hQ, e59]; exact ⟨rfl, N59, rfl⟩) (by decide) (by decide)
        ·
          refine Go.st (fun _ k => XS.ifYes X59.here hx rfl (pc0 := 48) (pc' := 55) rfl (hb hby at_48) rfl ((if0 _ _).trans (feq (neI rfl liI_0 c64)).2) (by decide) (by decide) k) ?_
          show Go p e below s Q 0 0 (T59.setTop (mkF m 55 #[.val (.int a), .val (.int b), .val (.int r_4), .val (.int r_8), .val (.int (1 : Int32)), .unset] []))
          refine Go.st (fun _ k => XS.iconst X59.here hx rfl (hb hby at_55) k) ?_
          show Go p e below s Q 0 0 (T59.setTop (mkF m 56 #[.val (.int a), .val (.int b), .val (.int r_4), .val (.int r_8), .val (.int (1 : Int32)), .unset] [(.int (0 : Int32))]))
          refine Go.st (fun _ k => XS.istore X59.here hx rfl (hb hby at_56) rfl (l' := #[.val (.int a), .val (.int b), .val (.int r_4), .val (.int r_8), .val (.int (1 : Int32)), .val (.int (0 : Int32))]) rfl k) ?_
          show Go p e below s Q 0 0 (T59.setTop (mkF m 58 #[.val (.int a), .val (.int b), .val (.int r_4), .val (.int r_8), .val (.int (1 : Int32)), .val (.int (0 : Int32))] []))
          refine Go.st (fun _ k => XS.iload X59.here hx rfl (hb hby at_58) rfl k) ?_
          show Go p e below s Q 0 0 (T59.setTop (mkF m 60 #[.val (.int a), .val (.int b), .val (.int r_4), .val (.int r_8), .val (.int (1 : Int32)), .val (.int (0 : Int32))] [(.int (1 : Int32))]))
          refine Go.st (fun _ k => XS.ifNo X59.here hx rfl (hb hby at_60) rfl ((if0 _ _).trans (feq (neI liI_1 liI_0 (by decide))).1) k) ?_
          show Go p e below s Q 0 0 (T59.setTop (mkF m 63 #[.val (.int a), .val (.int b), .val (.int r_4), .val (.int r_8), .val (.int (1 : Int32)), .val (.int (0 : Int32))] []))
          refine Go.st (fun _ k => XS.iload X59.here hx rfl (hb hby at_63) rfl k) ?_
          show Go p e below s Q 0 0 (T59.setTop (mkF m 65 #[.val (.int a), .val (.int b), .val (.int r_4), .val (.int r_8), .val (.int (1 : Int32)), .val (.int (0 : Int32))] [(.int (0 : Int32))]))
          refine Go.st (fun _ k => XS.ifYes X59.here hx rfl (pc0 := 65) (pc' := 72) rfl (hb hby at_65) rfl ((if0 _ _).trans (teq (eqI liI_0 liI_0 (by decide))).1) (by decide) (by decide) k) ?_
          show Go p e below s Q 0 0 (T59.setTop (mkF m 72 #[.val (.int a), .val (.int b), .val (.int r_4), .val (.int r_8), .val (.int (1 : Int32)), .val (.int (0 : Int32))] []))
          refine Go.st (fun _ k => XS.iconst X59.here hx rfl (hb hby at_72) k) ?_
          show Go p e below s Q 0 0 (T59.setTop (mkF m 73 #[.val (.int a), .val (.int b), .val (.int r_4), .val (.int r_8), .val (.int (1 : Int32)), .val (.int (0 : Int32))] [(.int (0 : Int32))]))
          have f66 := liI_1
          exact Go.retN X59 hx hlk (by simp) Bd.returns (hb hby at_73) (z' := (0 : Int32)) (by decide) (by rw [← hQ, e59]; exact ⟨congrArg (fun z => some (Value.int z)) (Int32.toInt_inj.mp (by omega)), N59, rfl⟩) (by decide) (by decide)
set_option maxRecDepth 65536 in
set_option maxHeartbeats 40000000 in
theorem comes_1 {Post : Tables → Env → Array Value → State → Outcome → State → Prop} (hpost : ∀ tb e args s v u, (limb_1_1.after args s (.returned v) u = true ∧ limb_1_2.after args s (.returned v) u = true ∧ True) → FrameEnd s (.returned v) u (Jvm.fieldLocs frame_1_writes args s ++ Jvm.arrayLocs frame_1_arrays args s ++ Jvm.staticLocs frame_1_statics s) 0 0 → Post tb e args s (.returned v) u) :
    ArmFor flags0 classFile x code maxLocals ret World_1 tables_1 room_1 Calls_1 rest_1 Pre_1 Post := by
  intro l hfl _ _ p e ha hc hk s m args below hf hA hF happ hP
  obtain ⟨hcalls, hrest, hpre⟩ := hP
  obtain ⟨-, -, -, hnamed, -, -, -, hat⟩ := (Spec.applies_iff hf).mp happ
  obtain ⟨hg, hn⟩ := and_e (Cond.before_iff.mp (show (Jvm.Cond.and given_1 narrow_1).before args s = true from hpre))
  obtain ⟨hcount, g0⟩ := and_e hg
  obtain ⟨a0, g1⟩ := and_e g0
  obtain ⟨w0, w1, rfl⟩ : ∃ w0 w1 : Value, args = #[w0, w1] := by
    have hs : args.size = 2 := by simpa [Cond.value, given_1] using hcount
    obtain ⟨L⟩ := args
    match L, hs with
    | [w0, w1], _ => exact ⟨w0, w1, rfl⟩
  have hw := fun d (hd : d ∈ tables_1) => atoms_spec (ws := Jvm.Cond.code x code maxLocals ret :: tables_1) hat d (List.mem_cons_of_mem _ hd)
  have hfit : Fit s := fun {y c} hc i hi => by
    obtain ⟨ha, rfl⟩ := Array.getElem?_eq_some_iff.mp hc
    have q := List.all_eq_true.mp ((Array.all_eq_true_iff_forall_mem.mp hF) _ (Array.getElem_mem ha)) i (List.mem_range.mpr hi)
    simpa [Array.getElem?_eq_getElem hi] using q
  obtain ⟨i0, ei0⟩ := is_v a0
  obtain rfl : w0 = (.int i0) := Option.some.inj ei0
  obtain ⟨i1, ei1⟩ := is_v g1
  obtain rfl : w1 = (.int i1) := Option.some.inj ei1
  obtain ⟨n, o, h1, h2, h3, _, L, rfl, ⟨rfl, N, _⟩, hq⟩ := rm0 l s _ hw tables_1 i0 i1 s.heap s.heap.size (Nat.le_refl _)  p e ha hc hk s m _ below hf ((Spec.applies_iff_loose hf).mp happ).1 ⟨rfl, State.Warmed39.refl s, rfl⟩ trivial
  refine ⟨n, _, h1, h2, h3, hpost _ _ _ _ _ _ ⟨Cond.after_iff.mpr rfl, Cond.after_iff.mpr (eq_i res_at (Term.int_eval (1)) rfl), trivial⟩ ⟨hq.1, hq.2.1, (hq.2.2.sift fun y hy => Or.inr (N y hy)).mono (by decide) (by decide)⟩⟩
theorem main_1_1 : Claimed_1_1 := comes_1 fun _ _ _ _ _ _ h hF => ⟨h.1, hF⟩
theorem main_1_2 : Claimed_1_2 := comes_1 fun _ _ _ _ _ _ h hF => ⟨h.2.1, hF⟩
end Jvm.Pilot.@@N@@
namespace Jvm.Pilot.@@N@@
open Jvm Jvm.ClassFile Sem Op Lib Jvm.Free Jvm.Stand Jvm.Pilot.@@N@@.Jvm.D
/-! MADE BY PROGRAM (witnessworld.py) out of the Statement's table words and the real class files: 10 classes; the members and pool entries that the words name. The judged class is class 1, her method 1. -/
namespace start1
open Jvm.ClassFile
def u (s : String) : CpInfo := .utf8 (stringToUtf16 s)
/-- a pool by its gaps: so many unusable entries, then the entry; so many at the end -/
def gap : Nat → List CpInfo → List CpInfo
  | 0, r => r
  | n + 1, r => .unusable :: gap n r
def poolList (es : List (Nat × CpInfo)) (last : Nat) : List CpInfo := es.foldr (fun e r => gap e.1 (e.2 :: r)) (gap last [])
def pool (es : List (Nat × CpInfo)) (last : Nat) : Array CpInfo := ⟨poolList es last⟩
def fileOf (pool : Array CpInfo) (this : Nat) (attrs : Array Attribute := #[]) (ms : Array MethodInfo := #[]) (fl : Nat := 33) (sup : Nat := 0) (ifs : Array Nat := #[]) (fds : Array FieldInfo := #[]) : ClassFile where
  minorVersion := 0
  majorVersion := 65
  constantPool := pool
  accessFlags := fl
  thisClass := this
  superClass := sup
  interfaces := ifs
  fields := fds
  methods := ms
  attributes := attrs
def plain (name : String) (sup : Option ClassId) : Class where
  name := name
  kind := .ordinary
  loader := none
  accessFlags := 33
  super := sup
  interfaces := #[]
  cf := none
  fields := #[]
  methods := #[]
  instanceTypes := #[]
  staticTypes := #[]
  resolved := #[]
  callSites := []
  init := .initialized
  statics := none
  mirror := none

def pool0 : Array CpInfo := pool [(5, u "<init>"), (0, u "()V"), (1, .class_ 10), (1, u "java/lang/Object")] 113

def k0m0 : Method := { name := "<init>", desc := "()V", sig := { parameters := [], returnType := none }, accessFlags := 1, code := none }
/-- java/lang/Object -/
def k0 : Class := { plain "java/lang/Object" none with
  accessFlags := 33
  interfaces := #[]
  cf := some (fileOf pool0 8 #[] #[{ accessFlags := 1, nameIndex := 5, descriptorIndex := 6, attributes := #[] }] 33 0 #[] #[])
  fields := #[]
  methods := #[k0m0]
  instanceTypes := #[]
  staticTypes := #[]
  resolved := Array.replicate 124 none
  statics := none }

def pool1 : Array CpInfo := pool [(2, .class_ 4), (1, u "java/lang/Object"), (0, u "<init>"), (0, u "()V"), (0, .methodref 8 9), (0, .class_ 10), (0, .nameAndType 11 12), (0, u "java/lang/Math"), (0, u "min"), (0, u "(II)I"), (0, .methodref 8 14), (0, .nameAndType 15 12), (0, u "max"), (0, .methodref 17 18), (0, .class_ 19), (0, .nameAndType 20 21), (0, u "com/example/graf/graf/flow/Step"), (0, u "isSuccess"), (0, u "(I)Z"), (0, .class_ 23), (0, u "com/example/graf/graf/flow/StepIsSuccessPinLaw"), (2, u "law"), (0, u "(II)Z")] 3

def k1m0 : Method := { name := "<init>", desc := "()V", sig := { parameters := [], returnType := none }, accessFlags := 2, code := none }
def k1c1 : Code := { maxStack := 2, maxLocals := 6, code := code, exceptionTable := #[], attributes := #[] }
def k1m1 : Method := { name := "law", desc := "(II)Z", sig := { parameters := [.int, .int], returnType := some .boolean }, accessFlags := 9, code := some k1c1 }
/-- com/example/graf/graf/flow/StepIsSuccessPinLaw -/
def k1 : Class := { plain "com/example/graf/graf/flow/StepIsSuccessPinLaw" (some 0) with
  accessFlags := 49
  interfaces := #[]
  cf := some (fileOf pool1 22 #[] #[{ accessFlags := 2, nameIndex := 5, descriptorIndex := 6, attributes := #[] }, { accessFlags := 9, nameIndex := 26, descriptorIndex := 27, attributes := #[] }] 49 2 #[] #[])
  fields := #[]
  methods := #[k1m0, k1m1]
  instanceTypes := #[]
  staticTypes := #[]
  resolved := Array.replicate 31 none
  statics := none }

def pool2 : Array CpInfo := pool [(1, .class_ 2), (0, u "java/lang/Math"), (1, .class_ 6), (1, u "java/lang/Object"), (0, u "<init>"), (0, u "()V"), (89, .class_ 100), (1, u "java/lang/Math$RandomNumberGeneratorHolder"), (71, u "negativeZeroFloatBits"), (0, u "J"), (2, u "negativeZeroDoubleBits"), (21, u "max"), (2, u "min"), (43, u "$assertionsDisabled"), (0, u "Z"), (88, u "(II)I"), (2, u "twoToTheDoubleScaleDown"), (0, u "D"), (4, u "twoToTheDoubleScaleUp"), (9, u "E"), (3, u "PI"), (2, u "TAU"), (2, u "DEGREES_TO_RADIANS"), (0, u "RADIANS_TO_DEGREES")] 94

def k2m0 : Method := { name := "<init>", desc := "()V", sig := { parameters := [], returnType := none }, accessFlags := 2, code := none }
def k2c1 : Code := { maxStack := 2, maxLocals := 2, code := jdk_29_method_65_code, exceptionTable := #[], attributes := #[] }
def k2m1 : Method := { name := "max", desc := "(II)I", sig := { parameters := [.int, .int], returnType := some .int }, accessFlags := 9, code := some k2c1 }
def k2c2 : Code := { maxStack := 2, maxLocals := 2, code := jdk_29_method_69_code, exceptionTable := #[], attributes := #[] }
def k2m2 : Method := { name := "min", desc := "(II)I", sig := { parameters := [.int, .int], returnType := some .int }, accessFlags := 9, code := some k2c2 }
/-- java/lang/Math -/
def k2 : Class := { plain "java/lang/Math" (some 0) with
  accessFlags := 49
  interfaces := #[]
  cf := some (fileOf pool2 1 #[.nestMembers #[98]] #[{ accessFlags := 2, nameIndex := 7, descriptorIndex := 8, attributes := #[] }, { accessFlags := 9, nameIndex := 198, descriptorIndex := 335, attributes := #[] }, { accessFlags := 9, nameIndex := 201, descriptorIndex := 335, attributes := #[] }] 49 4 #[] #[{ accessFlags := 25, nameIndex := 354, descriptorIndex := 339, attributes := #[] }, { accessFlags := 25, nameIndex := 358, descriptorIndex := 339, attributes := #[] }, { accessFlags := 25, nameIndex := 361, descriptorIndex := 339, attributes := #[] }, { accessFlags := 26, nameIndex := 364, descriptorIndex := 339, attributes := #[] }, { accessFlags := 26, nameIndex := 365, descriptorIndex := 339, attributes := #[] }, { accessFlags := 26, nameIndex := 172, descriptorIndex := 173, attributes := #[] }, { accessFlags := 26, nameIndex := 176, descriptorIndex := 173, attributes := #[] }, { accessFlags := 8, nameIndex := 344, descriptorIndex := 339, attributes := #[] }, { accessFlags := 8, nameIndex := 338, descriptorIndex := 339, attributes := #[] }, { accessFlags := 4120, nameIndex := 245, descriptorIndex := 246, attributes := #[] }])
  fields := #[{ name := "E", type := .double, accessFlags := 25, slot := 0, constantValue := 0 }, { name := "PI", type := .double, accessFlags := 25, slot := 1, constantValue := 0 }, { name := "TAU", type := .double, accessFlags := 25, slot := 2, constantValue := 0 }, { name := "DEGREES_TO_RADIANS", type := .double, accessFlags := 26, slot := 3, constantValue := 0 }, { name := "RADIANS_TO_DEGREES", type := .double, accessFlags := 26, slot := 4, constantValue := 0 }, { name := "negativeZeroFloatBits", type := .long, accessFlags := 26, slot := 5, constantValue := 0 }, { name := "negativeZeroDoubleBits", type := .long, accessFlags := 26, slot := 6, constantValue := 0 }, { name := "twoToTheDoubleScaleUp", type := .double, accessFlags := 8, slot := 7, constantValue := 0 }, { name := "twoToTheDoubleScaleDown", type := .double, accessFlags := 8, slot := 8, constantValue := 0 }, { name := "$assertionsDisabled", type := .boolean, accessFlags := 4120, slot := 9, constantValue := 0 }]
  methods := #[k2m0, k2m1, k2m2]
  instanceTypes := #[]
  staticTypes := #[.double, .double, .double, .double, .double, .long, .long, .double, .double, .boolean]
  resolved := Array.replicate 460 none
  statics := none }

def pool3 : Array CpInfo := pool [(2, .class_ 4), (1, u "java/lang/Object"), (11, .class_ 18), (1, u "com/example/graf/graf/flow/Step"), (0, u "from"), (0, u "Ljava/lang/String;"), (8, u "moves"), (0, u "Ljava/util/List;"), (38, u "FIRST_FAILURE"), (0, u "I"), (8, u "isSuccess"), (0, u "(I)Z")] 27

def k3c0 : Code := { maxStack := 2, maxLocals := 1, code := prog_10_method_2_code, exceptionTable := #[], attributes := #[] }
def k3m0 : Method := { name := "isSuccess", desc := "(I)Z", sig := { parameters := [.int], returnType := some .boolean }, accessFlags := 9, code := some k3c0 }
/-- com/example/graf/graf/flow/Step -/
def k3 : Class := { plain "com/example/graf/graf/flow/Step" (some 0) with
  accessFlags := 33
  interfaces := #[]
  cf := some (fileOf pool3 16 #[] #[{ accessFlags := 9, nameIndex := 79, descriptorIndex := 80, attributes := #[] }] 33 2 #[] #[{ accessFlags := 26, nameIndex := 69, descriptorIndex := 70, attributes := #[] }, { accessFlags := 18, nameIndex := 19, descriptorIndex := 20, attributes := #[] }, { accessFlags := 18, nameIndex := 29, descriptorIndex := 30, attributes := #[] }])
  fields := #[{ name := "FIRST_FAILURE", type := .int, accessFlags := 26, slot := 0, constantValue := 0 }, { name := "from", type := (.object "java/lang/String"), accessFlags := 18, slot := 0, constantValue := 0 }, { name := "moves", type := (.object "java/util/List"), accessFlags := 18, slot := 1, constantValue := 0 }]
  methods := #[k3m0]
  instanceTypes := #[(.object "java/lang/String"), (.object "java/util/List")]
  staticTypes := #[.int]
  resolved := Array.replicate 108 none
  statics := none }

def pool4 : Array CpInfo := pool [(1, u "java/lang/Cloneable"), (0, .class_ 1), (0, u "java/lang/Object"), (0, .class_ 3)] 3

/-- java/lang/Cloneable -/
def k4 : Class := { plain "java/lang/Cloneable" (some 0) with
  accessFlags := 1537
  interfaces := #[]
  cf := some (fileOf pool4 2 #[] #[] 1537 4 #[] #[])
  fields := #[]
  methods := #[]
  instanceTypes := #[]
  staticTypes := #[]
  resolved := Array.replicate 8 none
  statics := none }

def pool5 : Array CpInfo := pool [(1, u "java/io/Serializable"), (0, .class_ 1), (0, u "java/lang/Object"), (0, .class_ 3)] 3

/-- java/io/Serializable -/
def k5 : Class := { plain "java/io/Serializable" (some 0) with
  accessFlags := 1537
  interfaces := #[]
  cf := some (fileOf pool5 2 #[] #[] 1537 4 #[] #[])
  fields := #[]
  methods := #[]
  instanceTypes := #[]
  staticTypes := #[]
  resolved := Array.replicate 8 none
  statics := none }

/-- the primitive byte -/
def k6 : Class := { plain "byte" none with kind := .primitive 'B', accessFlags := 0x411 }
/-- [B -/
def k7 : Class := { plain "[B" (some 0) with kind := .array 6 .byte, interfaces := #[4, 5], accessFlags := 1041 }

/-- the primitive int -/
def k8 : Class := { plain "int" none with kind := .primitive 'I', accessFlags := 0x411 }
/-- [I -/
def k9 : Class := { plain "[I" (some 0) with kind := .array 8 .int, interfaces := #[4, 5], accessFlags := 1041 }

def heap : Heap := #[]
def classes : Array Class := #[k0, k1, k2, k3, k4, k5, k6, k7, k8, k9]
def interned : List (Array UInt16 × Addr) := []
def slotsUsed : Nat := 0
def theMethod : MethodId := ⟨1, 1⟩
def args0 : Array Value := #[.int 5, .int 7]
def aboutOver (below : List Frame) : State where
  vm := { classes := classes, interned := interned.toArray }
  heap := heap
  slotsUsed := slotsUsed
  threads := #[{ frames := .invoking theMethod args0 :: below }]
def below0 : List Frame := [.native { method := ⟨0, 0⟩, args := #[] }]
def about1 : State := aboutOver below0
def p0 : Program := .bare "" "" ""
def e0 : Env := launch0.env 0 0 0
theorem w_frames : about1.frames = Frame.invoking theMethod args0 :: below0 := rfl
set_option maxRecDepth 65536 in
theorem w_args : argsFit about1.vm theMethod args0 = true := by decide +kernel
set_option maxRecDepth 65536 in
theorem w_heap : heapFits about1 = true := by decide +kernel
set_option maxRecDepth 65536 in
theorem w_runnable : about1.curStatus? = some .runnable := by decide +kernel
set_option maxRecDepth 65536 in
theorem w_alone : about1.alone = true := by decide +kernel
set_option maxRecDepth 65536 in
theorem w_named : about1.methodNamed? x = some theMethod := by decide +kernel
set_option maxRecDepth 65536 in
theorem w_hears : about1.hears theMethod below0 = true := by decide +kernel
set_option maxRecDepth 65536 in
theorem w_ripe : about1.ripe theMethod args0 below0 = true := by decide +kernel
theorem w_running : about1.status = .running := rfl
set_option maxRecDepth 65536 in
theorem w_room : about1.hasRoom e0.platform room_1 = true :=
  launch0.hasRoom_least _ room_1 (by decide +kernel) (by decide +kernel) (by decide +kernel) (by decide +kernel) (by decide +kernel) (by decide +kernel)
theorem allAtoms_all (ts : List Jvm.Cond) (a : Array Jvm.Value) (st : Jvm.State) : (allAtoms ts).before a st = ts.all (fun c => c.before a st) := by
  induction ts with
  | nil => rfl
  | cons c t ih =>
    show (Jvm.Cond.and c (allAtoms t)).before a st = _
    rw [Jvm.Cond.before_and, ih, List.all_cons]
def words1 : List Jvm.Cond := Jvm.Cond.code x code maxLocals ret :: tables_1
/-- a 'code' word, met by the world's own term for the bytes: nothing is compared byte by byte -/
theorem code_word {y : MethodName} {bytes : ByteArray} {mx : Nat} {rt : Option FieldType} {a : Array Value} {s : State} {m : MethodId} {meth : Method} {c : Code} (h1 : s.methodNamed? y = some m) (h2 : s.vm.method? m = some meth) (h3 : meth.code = some c) (h4 : c.code = bytes)
    (h5 : (c.maxLocals == mx && c.exceptionTable.isEmpty && decide (c.maxStack ≤ mostOperands) && decide (meth.sig.returnType = rt) && !meth.locks && decide (parseMethodDescriptor y.desc = some meth.sig)) = true) : (Jvm.Cond.code y bytes mx rt).before a s = true := by
  simp only [Bool.and_eq_true, beq_iff_eq, Bool.not_eq_true', decide_eq_true_eq] at h5
  obtain ⟨⟨⟨⟨⟨g1, g2⟩, g3⟩, g4⟩, g5⟩, g6⟩ := h5
  simp [Cond.before, Cond.holds, Cond.value, h1, h2, h3, h4, g1, g2, g3, g4, g5, g6]
def isCode : Jvm.Cond → Bool
  | .code _ _ _ _ => true
  | _ => false
theorem all_split {L : List Jvm.Cond} {P : Jvm.Cond → Bool} (h1 : L.all (fun c => isCode c || P c) = true) (h2 : ∀ c ∈ L.filter isCode, P c = true) : L.all P = true := by
  refine List.all_eq_true.mpr fun c hc => ?_
  have h := List.all_eq_true.mp h1 c hc
  rcases Bool.eq_false_or_eq_true (isCode c) with hi | hi
  · exact h2 c (List.mem_filter.mpr ⟨hc, hi⟩)
  · simpa [hi] using h
set_option maxRecDepth 65536 in
theorem w_c0 : (Jvm.Cond.code x code maxLocals ret).before args0 about1 = true := code_word (m := ⟨1, 1⟩) (meth := k1m1) (c := k1c1) (by decide +kernel) rfl rfl rfl (by decide +kernel)
set_option maxRecDepth 65536 in
theorem w_c1 : (Jvm.Cond.code ({ cls := "java/lang/Math", name := "min", desc := "(II)I" } : Jvm.MethodName) jdk_29_method_69_code (2 : Nat) (Option.some Jvm.ClassFile.FieldType.int)).before args0 about1 = true := code_word (m := ⟨2, 2⟩) (meth := k2m2) (c := k2c2) (by decide +kernel) rfl rfl rfl (by decide +kernel)
set_option maxRecDepth 65536 in
theorem w_c2 : (Jvm.Cond.code ({ cls := "java/lang/Math", name := "max", desc := "(II)I" } : Jvm.MethodName) jdk_29_method_65_code (2 : Nat) (Option.some Jvm.ClassFile.FieldType.int)).before args0 about1 = true := code_word (m := ⟨2, 1⟩) (meth := k2m1) (c := k2c1) (by decide +kernel) rfl rfl rfl (by decide +kernel)
set_option maxRecDepth 65536 in
theorem w_c3 : (Jvm.Cond.code ({ cls := "com/example/graf/graf/flow/Step", name := "isSuccess", desc := "(I)Z" } : Jvm.MethodName) prog_10_method_2_code (1 : Nat) (Option.some Jvm.ClassFile.FieldType.boolean)).before args0 about1 = true := code_word (m := ⟨3, 0⟩) (meth := k3m0) (c := k3c0) (by decide +kernel) rfl rfl rfl (by decide +kernel)
def codes1 : List Jvm.Cond := [Jvm.Cond.code x code maxLocals ret, Jvm.Cond.code ({ cls := "java/lang/Math", name := "min", desc := "(II)I" } : Jvm.MethodName) jdk_29_method_69_code (2 : Nat) (Option.some Jvm.ClassFile.FieldType.int), Jvm.Cond.code ({ cls := "java/lang/Math", name := "max", desc := "(II)I" } : Jvm.MethodName) jdk_29_method_65_code (2 : Nat) (Option.some Jvm.ClassFile.FieldType.int), Jvm.Cond.code ({ cls := "com/example/graf/graf/flow/Step", name := "isSuccess", desc := "(I)Z" } : Jvm.MethodName) prog_10_method_2_code (1 : Nat) (Option.some Jvm.ClassFile.FieldType.boolean)]
set_option maxRecDepth 65536 in
theorem codes_eq : words1.filter isCode = codes1 := rfl
theorem w_codes : ∀ c ∈ words1.filter isCode, c.before args0 about1 = true := by
  rw [codes_eq]
  intro c hc
  simp only [codes1, List.mem_cons, List.not_mem_nil, or_false] at hc
  rcases hc with rfl | rfl | rfl | rfl
  · exact w_c0
  · exact w_c1
  · exact w_c2
  · exact w_c3
set_option maxRecDepth 65536 in
theorem w_t1 : words1.all (fun c => isCode c || c.before args0 about1) = true := by decide +kernel
theorem w_tables : (allAtoms (Jvm.Cond.code x code maxLocals ret :: tables_1)).before args0 about1 = true := by
  rw [allAtoms_all]
  show words1.all (fun c => c.before args0 about1) = true
  refine all_split ?_ w_codes
  rw [w_t1]
set_option maxRecDepth 65536 in
theorem w_case : (Jvm.Cond.and given_1 narrow_1).before args0 about1 = true := by decide +kernel
theorem w_applies : (headSpec (Jvm.Cond.code x code maxLocals ret :: tables_1) room_1).applies x e0.platform about1 = true :=
  (Spec.applies_iff w_frames).mpr ⟨w_running, w_runnable, w_alone, w_named, w_hears, w_ripe, w_room, w_tables⟩
theorem atStart : AtStart classFile x code maxLocals ret World_1 tables_1 room_1 Calls_1 rest_1 Pre_1 launch0 p0 e0 about1 theMethod args0 below0 :=
  ⟨lists_1, trivial, launch0.admits_env _ _ _, launch0.least_env, fairChoices_fair.cas, fairChoices_fair.clock, w_frames, w_args, w_heap, w_applies, trivial, trivial, w_case⟩
end start1
theorem witness_1 : WitnessClaimed_1 := ⟨start1.p0, start1.e0, start1.about1, start1.theMethod, start1.args0, start1.below0, start1.atStart⟩
end Jvm.Pilot.@@N@@
