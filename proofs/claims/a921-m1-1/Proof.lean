import JvmDerived
import JvmDerived.Pilot.@@N@@Statement
import JvmDerived.Pilot.@@N@@Code
set_option linter.unusedVariables false
set_option linter.unusedSimpArgs false
namespace Jvm.OwnGo
open Jvm Jvm.ClassFile Sem Op Lib Jvm.Free Jvm.Stand Jvm.LawKit Jvm.RoadKit
section Own
variable {p : Program} {l : Launch} {e : Env} {R : Room} {s : State} {m : MethodId} {args : Array Value} {below : List Frame} {meth : Method} {c : Code} {T : State} {locs : List Loc} {cells slots : Nat} {Q : Option Value → Heap → List Loc → Prop} {C N : Nat}
/-- from A on the run comes to its return, and what it returns and leaves is as Q says -/
def Go (p : Program) (e : Env) (below : List Frame) (s : State) (Q : Option Value → Heap → List Loc → Prop) (C N : Nat) (A : State) : Prop :=
  ∃ s₂ o, Steps p.tables e below A s₂ ∧ s₂.status = .running ∧ Ended s₂ below o ∧ ∃ v L, o = .returned v ∧ Q v s₂.heap L ∧ FrameEnd s o s₂ L C N
theorem Go.st {A B : State} (h : ∀ t, Steps p.tables e below B t → Steps p.tables e below A t) (k : Go p e below s Q C N B) : Go p e below s Q C N A := by
  obtain ⟨s₂, o, h1, r⟩ := k
  exact ⟨s₂, o, h _ h1, r⟩
theorem Go.tr {A B : State} (h : Steps p.tables e below A B) (k : Go p e below s Q C N B) : Go p e below s Q C N A := k.st fun _ q => h.trans q
theorem Go.retI (X : Stand p l e R s m args below meth c T locs cells slots) (hx : p.tables.exec = Jvm.exec) (hlk : meth.locks = false) (hret : meth.sig.returnType = some .int) {pc : Nat} {Ls : Array Slot} {z : Int32} {rest : List Value} (hd : decode c.code pc = .ok (.ireturn, 1))
    (q : Q (some (.int z)) T.heap locs) (hc : cells ≤ C) (hn : slots ≤ N) : Go p e below s Q C N (T.setTop (mkF m pc Ls (.int z :: rest))) := by
  obtain ⟨fs, hr, hrun, hended, hW, hsame⟩ := X.leave (v := some (.int z)) (fun h => by rw [hret] at h; cases h) hlk
  exact ⟨_, _, retOut X hx hret rfl (Or.inl ⟨rfl, Or.inl rfl, _, rfl⟩) hd hr, hrun, hended, _, _, rfl, q, ⟨_, rfl⟩, hW, hsame.mono hc hn⟩
theorem Go.retN (X : Stand p l e R s m args below meth c T locs cells slots) (hx : p.tables.exec = Jvm.exec) (hlk : meth.locks = false) {t : FieldType} (ht : t = .boolean ∨ t = .byte ∨ t = .char ∨ t = .short) (hret : meth.sig.returnType = some t) {pc : Nat} {Ls : Array Slot} {z z' : Int32} {rest : List Value} (hd : decode c.code pc = .ok (.ireturn, 1))
    (hz : nar t z = z') (q : Q (some (.int z')) T.heap locs) (hc : cells ≤ C) (hn : slots ≤ N) : Go p e below s Q C N (T.setTop (mkF m pc Ls (.int z :: rest))) := by
  subst hz
  obtain ⟨fs, hr, hrun, hended, hW, hsame⟩ := X.leave (v := some (.int (nar t z))) (fun h => by rw [hret] at h; cases h) hlk
  exact ⟨_, _, Jvm.RoadKit.retN X hx hret ht hd hr, hrun, hended, _, _, rfl, q, ⟨_, rfl⟩, hW, hsame.mono hc hn⟩
theorem Go.retJ (X : Stand p l e R s m args below meth c T locs cells slots) (hx : p.tables.exec = Jvm.exec) (hlk : meth.locks = false) (hret : meth.sig.returnType = some .long) {pc : Nat} {Ls : Array Slot} {z : Int64} {rest : List Value} (hd : decode c.code pc = .ok (.lreturn, 1))
    (q : Q (some (.long z)) T.heap locs) (hc : cells ≤ C) (hn : slots ≤ N) : Go p e below s Q C N (T.setTop (mkF m pc Ls (.long z :: rest))) := by
  obtain ⟨fs, hr, hrun, hended, hW, hsame⟩ := X.leave (v := some (.long z)) (fun h => by rw [hret] at h; cases h) hlk
  exact ⟨_, _, retOut X hx hret rfl (Or.inr (Or.inl ⟨rfl, rfl, _, rfl⟩)) hd hr, hrun, hended, _, _, rfl, q, ⟨_, rfl⟩, hW, hsame.mono hc hn⟩
theorem nar_ref {t : FieldType} {w : Value} (hw : w.isRef = true) : narrow t w = w := by
  cases t <;> cases w <;> first | rfl | (simp [Value.isRef] at hw)
theorem Go.retA (X : Stand p l e R s m args below meth c T locs cells slots) (hx : p.tables.exec = Jvm.exec) (hlk : meth.locks = false) {t : FieldType} (ht : t.isReference = true) (hret : meth.sig.returnType = some t) {pc : Nat} {Ls : Array Slot} {w : Value} {rest : List Value} (hw : w.isRef = true) (hd : decode c.code pc = .ok (.areturn, 1))
    (q : Q (some w) T.heap locs) (hc : cells ≤ C) (hn : slots ≤ N) : Go p e below s Q C N (T.setTop (mkF m pc Ls (w :: rest))) := by
  obtain ⟨fs, hr, hrun, hended, hW, hsame⟩ := X.leave (v := some w) (fun h => by rw [hret] at h; cases h) hlk
  exact ⟨_, _, retOut X hx hret (nar_ref hw) (Or.inr (Or.inr (Or.inr (Or.inr ⟨rfl, ht, hw⟩)))) hd hr, hrun, hended, _, _, rfl, q, ⟨_, rfl⟩, hW, hsame.mono hc hn⟩
theorem Go.retV (X : Stand p l e R s m args below meth c T locs cells slots) (hx : p.tables.exec = Jvm.exec) (hlk : meth.locks = false) (hret : meth.sig.returnType = none) {pc : Nat} {Ls : Array Slot} (hd : decode c.code pc = .ok (.return_, 1))
    (q : Q none T.heap locs) (hc : cells ≤ C) (hn : slots ≤ N) : Go p e below s Q C N (T.setTop (mkF m pc Ls [])) := by
  obtain ⟨fs, hr, hrun, hended, hW, hsame⟩ := X.leave (v := none) (fun _ => rfl) hlk
  exact ⟨_, _, X.returnOut hx hret hd hr, hrun, hended, _, _, rfl, q, ⟨_, rfl⟩, hW, hsame.mono hc hn⟩
theorem up {k n : Nat} (X : Stand p l e R s m args below meth c T locs cells slots) (hc : cells ≤ k) (hn : slots ≤ n) : Stand p l e R s m args below meth c T locs k n := { X with same := X.same.mono hc hn }
end Own
section Num
variable {x y : Int32} {u v : Int64} {a b : Int}
theorem ltI (ha : x.toInt = a) (hb : y.toInt = b) (h : a < b) : x < y := by rw [Int32.lt_iff_toInt_lt, ha, hb]; exact h
theorem nltI (ha : x.toInt = a) (hb : y.toInt = b) (h : ¬ a < b) : ¬ x < y := by rw [Int32.lt_iff_toInt_lt, ha, hb]; exact h
theorem eqI (ha : x.toInt = a) (hb : y.toInt = b) (h : a = b) : x = y := Int32.toInt_inj.mp (by rw [ha, hb]; exact h)
theorem neI (ha : x.toInt = a) (hb : y.toInt = b) (h : ¬ a = b) : ¬ x = y := fun q => h (by rw [← ha, ← hb, q])
theorem ltJ (ha : u.toInt = a) (hb : v.toInt = b) (h : a < b) : u < v := by rw [Int64.lt_iff_toInt_lt, ha, hb]; exact h
theorem nltJ (ha : u.toInt = a) (hb : v.toInt = b) (h : ¬ a < b) : ¬ u < v := by rw [Int64.lt_iff_toInt_lt, ha, hb]; exact h
theorem eqJ (ha : u.toInt = a) (hb : v.toInt = b) (h : a = b) : u = v := Int64.toInt_inj.mp (by rw [ha, hb]; exact h)
theorem neJ (ha : u.toInt = a) (hb : v.toInt = b) (h : ¬ a = b) : ¬ u = v := fun q => h (by rw [← ha, ← hb, q])
theorem bool_nar (h : x.toInt = 0 ∨ x.toInt = 1) : nar .boolean x = x := by
  rcases h with h | h
  · rw [Int32.toInt_inj.mp (h.trans (by decide : (0 : Int) = (0 : Int32).toInt))]; decide
  · rw [Int32.toInt_inj.mp (h.trans (by decide : (1 : Int) = (1 : Int32).toInt))]; decide
end Num
section Words
variable {Z : State} {args : Array Value} {t : Term} {C n d : String} {a : Addr}
theorem fld_int {k : Int32} (ht : t.eval args Z none [] Z = some (.ref a)) (h : (Cond.eq (Term.field t C n d) (Term.int k)).value args Z none Z [] = some true) : Fld Z Z.heap a C n d (.int k) := by
  obtain ⟨u, v, e1, e2, k1, k2⟩ := cmp_v (Or.inl h)
  have e3 : v = .int k := Option.some.inj (e2.symm.trans (Term.int_eval k))
  subst e3
  obtain ⟨w, rfl⟩ : ∃ w, u = .int w := k2
  have q := gotT (Cond.eq_ints e1 (Term.int_eval k)) h
  subst q
  exact Fld.start (by rw [← fld_at (args := args) (first := Z) (o := none) (idx := []) ht]; exact e1)
theorem sta_long {k : Int64} (h : (Cond.eq (Term.static C n d) (Term.long k)).value args Z none Z [] = some true) : (Term.static C n d).eval args Z none [] Z = some (.long k) := by
  obtain ⟨u, v, e1, e2, k1, k2⟩ := cmp_v (Or.inl h)
  have e3 : v = .long k := Option.some.inj (e2.symm.trans rfl)
  subst e3
  obtain ⟨w, rfl⟩ : ∃ w, u = .long w := k2
  have q := gotT (eq_L (y := k) e1 rfl) h
  subst q
  exact e1
theorem sta_int {k : Int32} (h : (Cond.eq (Term.static C n d) (Term.int k)).value args Z none Z [] = some true) : (Term.static C n d).eval args Z none [] Z = some (.int k) := by
  obtain ⟨u, v, e1, e2, k1, k2⟩ := cmp_v (Or.inl h)
  have e3 : v = .int k := Option.some.inj (e2.symm.trans rfl)
  subst e3
  obtain ⟨w, rfl⟩ : ∃ w, u = .int w := k2
  have q := gotT (Cond.eq_ints e1 (Term.int_eval k)) h
  subst q
  exact e1
/-- a cell that is no class's statics -/
def Exi (h : Heap) (x : Addr) : Prop := ∃ c : Cell, h[x]? = some c ∧ c.vm.isStatics = false
theorem exi_exa {h : Heap} (F : Exa Z h a C) : Exi h a := by obtain ⟨c, k, h1, -, -, h4, -⟩ := F; exact ⟨c, h1, h4⟩
theorem sta_keep {h h' : Heap} {v : Value} {ws : List Addr} (F : Sta Z h C n d v) (K : Keep h h' ws) (q : ∀ x ∈ ws, Exi h x) : Sta Z h' C n d v := by
  obtain ⟨cf, i, k, f, st, cell, h1, h2, h3, h4, h5, h6, h7⟩ := F
  refine ⟨cf, i, k, f, st, cell, h1, h2, h3, h4, K.2.1 st cell h5 (fun hm => ?_), h6, h7⟩
  obtain ⟨c, e1, e2⟩ := q st hm
  cases h5.symm.trans e1
  rw [h6] at e2; cases e2
theorem self_sel {s : State} {as as' : Array Value} {y z : MethodName} (hs : (Cond.selects C z z).before as s = true) (hc : z.cls = y.cls) (hp : s.PrivateAt y) (hi : (Cond.instanceMethod y).before as' s = true) (hy : y.cls ≠ "java/lang/invoke/MethodHandle" ∧ y.cls ≠ "java/lang/invoke/VarHandle") : (Cond.selects y.cls y y).before as' s = true := by
  obtain ⟨c, r, m, h1, h2, h3, h4, mk, h5, h6⟩ := Cond.selects_spec hs
  exact selects_self_of_private (hc ▸ findClass_of_methodNamed h3) h5 h6 hp hi hy
end Words
end Jvm.OwnGo
namespace Jvm.Pilot.@@N@@
open Jvm Jvm.ClassFile Sem Op Lib Jvm.Free Jvm.Stand Jvm.LawKit Jvm.RoadKit Bundle Jvm.OwnGo Jvm.Pilot.@@N@@.Jvm.D
theorem d1_0 : decode jdk_29_method_69_code 0 = .ok (.iload_n 0, 1) := by decide +kernel
theorem d1_1 : decode jdk_29_method_69_code 1 = .ok (.iload_n 1, 1) := by decide +kernel
theorem d1_2 : decode jdk_29_method_69_code 2 = .ok (.if_icmp .gt 7, 3) := by decide +kernel
theorem d1_9 : decode jdk_29_method_69_code 9 = .ok (.iload_n 1, 1) := by decide +kernel
theorem d1_10 : decode jdk_29_method_69_code 10 = .ok (.ireturn, 1) := by decide +kernel
theorem d1_5 : decode jdk_29_method_69_code 5 = .ok (.iload_n 0, 1) := by decide +kernel
theorem d1_6 : decode jdk_29_method_69_code 6 = .ok (.goto 4, 3) := by decide +kernel
theorem ef_rm1 (m : MethodId) (a : Int32) (b : Int32) : entryFrame m #[(.int a), (.int b)] 2 = mkF m 0 #[.val (.int a), .val (.int b)] [] := by first | (simp [entryFrame, mkF, argsToLocals, Value.category]; done) | rfl
def Q1 (Z : State) (a : Int32) (b : Int32) (h0 : Heap) (n0 : Nat) (vv : Option Value) (h : Heap) (LL : List Loc) : Prop := ∃ (r : Int32), vv = some (.int r) ∧ Fr n0 LL ∧ ((a.toInt ≤ b.toInt ∧ r.toInt = a.toInt) ∨ (b.toInt < a.toInt ∧ r.toInt = b.toInt)) ∧ h = h0
set_option maxRecDepth 65536 in
set_option maxHeartbeats 40000000 in
theorem rm1 (l : Launch) (Z : State) (a0 : Array Value) (hw : ∀ d ∈ tables_1, d.before a0 Z = true) (ws : List Jvm.Cond) (a : Int32) (b : Int32) (h0 : Heap) (n0 : Nat) (Z0 : n0 ≤ h0.size) :
    MetFree l (⟨"java/lang/Math", "min", "(II)I"⟩ : MethodName) (head1 (Jvm.Cond.code (⟨"java/lang/Math", "min", "(II)I"⟩ : MethodName) jdk_29_method_69_code 2 (some .int) :: ws) ({ frames := 0, cells := 0, slots := 0, locals := 0 } : Room)) (fun aa UU => aa = #[(.int a), (.int b)] ∧ Z.Warmed39 UU.vm ∧ UU.heap = h0) (fun _ _ _ _ _ => True) (fun _ UU oo UU' => ∃ vv LL, oo = .returned vv ∧ Q1 Z a b h0 n0 vv UU'.heap LL ∧ FrameEnd UU oo UU' LL 0 0) := by
  refine MetFree.of_bodySF (Jvm.Free.JP.mathPlain rfl (by decide +kernel)) hisR ?_
  intro p e s m args below meth c s₁ Bd hml0 hP hK
  obtain ⟨rfl, hZ, hh⟩ := hP
  have hx := Bd.exec
  have hby := Bd.bytes
  have hlk : meth.locks = false := BodyLoose.notSynchronized Bd
  have hml : c.maxLocals = 2 := hml0
  have hown : s.vm.findClass "java/lang/Math" = some m.cls := findClass_of_methodNamed Bd.named
  have hnm := (name_of_methodNamed Bd.named Bd.method).1
  have X0 : Stand p l e ({ frames := 0, cells := 0, slots := 0, locals := 0 } : Room) s m #[(.int a), (.int b)] below meth c s₁ [] 0 0 := Stand.of_body Bd
  have e0 : s₁.heap = h0 := by rw [← hh, Bd.state]; rfl
  have N0 := Fr.nil n0
  have K0 : Keep h0 h0 [] := Keep.refl h0 _
  refine (?_ : Go p e below s (Q1 Z a b h0 n0) 0 0 (s₁.setTop (entryFrame m #[(.int a), (.int b)] 2)))
  rw [ef_rm1]
  generalize hQ : Q1 Z a b h0 n0 = Q
  show Go p e below s Q 0 0 (s₁.setTop (mkF m 0 #[.val (.int a), .val (.int b)] []))
  have f1 := rng32 a
  have f2 := rng32 b
  refine Go.st (fun _ k => XS.iloadN X0.here hx rfl (hb hby d1_0) rfl k) ?_
  show Go p e below s Q 0 0 (s₁.setTop (mkF m 1 #[.val (.int a), .val (.int b)] [(.int a)]))
  refine Go.st (fun _ k => XS.iloadN X0.here hx rfl (hb hby d1_1) rfl k) ?_
  show Go p e below s Q 0 0 (s₁.setTop (mkF m 2 #[.val (.int a), .val (.int b)] [(.int b), (.int a)]))
  by_cases c3 : b.toInt < a.toInt
  ·
    refine Go.st (fun _ k => XS.icmpYes X0.here hx rfl (pc0 := 2) (pc' := 9) rfl (hb hby d1_2) rfl (tlt (ltI rfl rfl c3)).2.2.1 (by decide) (by decide) k) ?_
    show Go p e below s Q 0 0 (s₁.setTop (mkF m 9 #[.val (.int a), .val (.int b)] []))
    refine Go.st (fun _ k => XS.iloadN X0.here hx rfl (hb hby d1_9) rfl k) ?_
    show Go p e below s Q 0 0 (s₁.setTop (mkF m 10 #[.val (.int a), .val (.int b)] [(.int b)]))
    exact Go.retI X0 hx hlk Bd.returns (hb hby d1_10) (by rw [← hQ, e0]; exact ⟨b, rfl, N0, (by omega), rfl⟩) (by decide) (by decide)
  ·
    refine Go.st (fun _ k => XS.icmpNo X0.here hx rfl (hb hby d1_2) rfl (flt (nltI rfl rfl c3)).2.2.1 k) ?_
    show Go p e below s Q 0 0 (s₁.setTop (mkF m 5 #[.val (.int a), .val (.int b)] []))
    refine Go.st (fun _ k => XS.iloadN X0.here hx rfl (hb hby d1_5) rfl k) ?_
    show Go p e below s Q 0 0 (s₁.setTop (mkF m 6 #[.val (.int a), .val (.int b)] [(.int a)]))
    refine Go.st (fun _ k => XS.goto X0.here hx rfl (pc0 := 6) (pc' := 10) rfl (hb hby d1_6) (by decide) (by decide) k) ?_
    show Go p e below s Q 0 0 (s₁.setTop (mkF m 10 #[.val (.int a), .val (.int b)] [(.int a)]))
    exact Go.retI X0 hx hlk Bd.returns (hb hby d1_10) (by rw [← hQ, e0]; exact ⟨a, rfl, N0, (by omega), rfl⟩) (by decide) (by decide)
theorem pn_0 : plainName "com/example/amqp_broker/amqpbroker/model/Prefetch" = true := by first | (simp [plainName, overriddenIn]; done) | decide +kernel
theorem d2_0 : decode prog_6_method_1_code 0 = .ok (.aload_n 0, 1) := by decide +kernel
theorem d2_1 : decode prog_6_method_1_code 1 = .ok (.invokespecial 1, 3) := by decide +kernel
theorem d2_4 : decode prog_6_method_1_code 4 = .ok (.aload_n 0, 1) := by decide +kernel
theorem d2_5 : decode prog_6_method_1_code 5 = .ok (.iload_n 1, 1) := by decide +kernel
theorem d2_6 : decode prog_6_method_1_code 6 = .ok (.putfield 7, 3) := by decide +kernel
theorem sn_0 {Z : State} {a0 : Array Value} (hw : ∀ d ∈ tables_1, d.before a0 Z = true) : Jvm.RoadKit.slotOf Z "com/example/amqp_broker/amqpbroker/model/Prefetch" "outstanding" "I" ≠ Jvm.RoadKit.slotOf Z "com/example/amqp_broker/amqpbroker/model/Prefetch" "limit" "I" := slot_ne (Or.inl (hw _ (List.mem_of_getElem? (i := 27) rfl))) (Or.inl (hw _ (List.mem_of_getElem? (i := 15) rfl))) (by decide) (t := .int) (t' := .int) (by decide) (by decide)
theorem d2_9 : decode prog_6_method_1_code 9 = .ok (.return_, 1) := by decide +kernel
theorem ef_rm2 (m : MethodId) (o : Addr) (a : Int32) : entryFrame m #[(.ref o), (.int a)] 2 = mkF m 0 #[.val (.ref o), .val (.int a)] [] := by first | (simp [entryFrame, mkF, argsToLocals, Value.category]; done) | rfl
def Q2 (Z : State) (o : Addr) (a : Int32) (li : Int32) (ou : Int32) (h0 : Heap) (n0 : Nat) (vv : Option Value) (h : Heap) (LL : List Loc) : Prop := vv = none ∧ Fr n0 LL ∧ Keep h0 h [o] ∧ (Exa Z h o "com/example/amqp_broker/amqpbroker/model/Prefetch") ∧ (Fld Z h o "com/example/amqp_broker/amqpbroker/model/Prefetch" "limit" "I" (.int a)) ∧ (Fld Z h o "com/example/amqp_broker/amqpbroker/model/Prefetch" "outstanding" "I" (.int ou))
set_option maxRecDepth 65536 in
set_option maxHeartbeats 40000000 in
theorem rm2 (l : Launch) (Z : State) (a0 : Array Value) (hw : ∀ d ∈ tables_1, d.before a0 Z = true) (ws : List Jvm.Cond) (o : Addr) (a : Int32) (li : Int32) (ou : Int32) (h0 : Heap) (n0 : Nat) (Z0 : n0 ≤ h0.size) (hE : Exa Z h0 o "com/example/amqp_broker/amqpbroker/model/Prefetch") (hG : n0 ≤ o) (ho1 : Fld Z h0 o "com/example/amqp_broker/amqpbroker/model/Prefetch" "limit" "I" (.int li)) (ho2 : Fld Z h0 o "com/example/amqp_broker/amqpbroker/model/Prefetch" "outstanding" "I" (.int ou)) :
    MetFree l (⟨"com/example/amqp_broker/amqpbroker/model/Prefetch", "<init>", "(I)V"⟩ : MethodName) (head1 (Jvm.Cond.code (⟨"com/example/amqp_broker/amqpbroker/model/Prefetch", "<init>", "(I)V"⟩ : MethodName) prog_6_method_1_code 2 none :: ws) ({ frames := 1, cells := 0, slots := 0, locals := 12 } : Room)) (fun aa UU => aa = #[(.ref o), (.int a)] ∧ Z.Warmed39 UU.vm ∧ UU.heap = h0) (fun _ _ _ _ _ => True) (fun _ UU oo UU' => ∃ vv LL, oo = .returned vv ∧ Q2 Z o a li ou h0 n0 vv UU'.heap LL ∧ FrameEnd UU oo UU' LL 0 0) := by
  refine MetFree.of_bodySF (plainFor_of_name pn_0) hisR ?_
  intro p e s m args below meth c s₁ Bd hml0 hP hK
  obtain ⟨rfl, hZ, hh⟩ := hP
  have hx := Bd.exec
  have hby := Bd.bytes
  have hlk : meth.locks = false := BodyLoose.notSynchronized Bd
  have hml : c.maxLocals = 2 := hml0
  have hown : s.vm.findClass "com/example/amqp_broker/amqpbroker/model/Prefetch" = some m.cls := findClass_of_methodNamed Bd.named
  have hnm := (name_of_methodNamed Bd.named Bd.method).1
  have X0 : Stand p l e ({ frames := 1, cells := 0, slots := 0, locals := 12 } : Room) s m #[(.ref o), (.int a)] below meth c s₁ [] 0 0 := Stand.of_body Bd
  have e0 : s₁.heap = h0 := by rw [← hh, Bd.state]; rfl
  have N0 := Fr.nil n0
  have K0 : Keep h0 h0 [o] := Keep.refl h0 _
  refine (?_ : Go p e below s (Q2 Z o a li ou h0 n0) 0 0 (s₁.setTop (entryFrame m #[(.ref o), (.int a)] 2)))
  rw [ef_rm2]
  generalize hQ : Q2 Z o a li ou h0 n0 = Q
  show Go p e below s Q 0 0 (s₁.setTop (mkF m 0 #[.val (.ref o), .val (.int a)] []))
  have f1 := rng32 a
  refine Go.st (fun _ k => XS.aloadN X0.here hx rfl (hb hby d2_0) rfl rfl k) ?_
  show Go p e below s Q 0 0 (s₁.setTop (mkF m 1 #[.val (.ref o), .val (.int a)] [(.ref o)]))
  obtain ⟨T2, X2, e2, st2⟩ := initO X0 hx hZ hown (hw _ (List.mem_of_getElem? (i := 11) rfl)) (hw _ (List.mem_of_getElem? (i := 12) rfl)) (hw _ (List.mem_of_getElem? (i := 13) rfl)) e0 (g := (mkF m 1 #[.val (.ref o), .val (.int a)] [(.ref o)])) rfl (by rw [hml]; rfl) rfl (hb hby d2_1) (by decide) (W := 0) (by show 2 * 0 + _ ≤ _; exact Nat.le_of_eq rfl) (by decide)
  refine Go.st st2 ?_
  show Go p e below s Q 0 0 (T2.setTop (mkF m 4 #[.val (.ref o), .val (.int a)] []))
  refine Go.st (fun _ k => XS.aloadN X2.here hx rfl (hb hby d2_4) rfl rfl k) ?_
  show Go p e below s Q 0 0 (T2.setTop (mkF m 5 #[.val (.ref o), .val (.int a)] [(.ref o)]))
  refine Go.st (fun _ k => XS.iloadN X2.here hx rfl (hb hby d2_5) rfl k) ?_
  show Go p e below s Q 0 0 (T2.setTop (mkF m 6 #[.val (.ref o), .val (.int a)] [(.int a), (.ref o)]))
  obtain ⟨T3, h3, X3, e3, W3, st3⟩ := putF X2 hx hZ hown (host := "") (Or.inl (hw _ (List.mem_of_getElem? (i := 14) rfl))) Via.refl e2 ho1 hE (Or.inl (hw _ (List.mem_of_getElem? (i := 15) rfl))) (hw _ (List.mem_of_getElem? (i := 6) rfl)) (ty := .int) (by decide) rfl rfl (g := (mkF m 6 #[.val (.ref o), .val (.int a)] [(.int a), (.ref o)])) rfl rfl (hb hby d2_6)
  have h4 : Exa Z h3 o "com/example/amqp_broker/amqpbroker/model/Prefetch" := hE.wr W3
  have h5 : Fld Z h3 o "com/example/amqp_broker/amqpbroker/model/Prefetch" "limit" "I" (.int a) := ho1.same W3
  have h6 : Fld Z h3 o "com/example/amqp_broker/amqpbroker/model/Prefetch" "outstanding" "I" (.int ou) := ho2.other W3 (Or.inr (sn_0 hw))
  have K3 : Keep h0 h3 [o] := K0.wr W3 (Or.inl (List.mem_of_getElem? (i := 0) rfl))
  have N3 := Fr.snoc X3 N0 hG
  refine Go.st st3 ?_
  show Go p e below s Q 0 0 (T3.setTop (mkF m 9 #[.val (.ref o), .val (.int a)] []))
  exact Go.retV X3 hx hlk Bd.returns (hb hby d2_9) (by rw [← hQ, e3]; exact ⟨rfl, N3, K3, h4, h5, h6⟩) (by decide) (by decide)
theorem d4_0 : decode prog_6_method_2_code 0 = .ok (.aload_n 0, 1) := by decide +kernel
theorem d4_1 : decode prog_6_method_2_code 1 = .ok (.iload_n 1, 1) := by decide +kernel
theorem d4_2 : decode prog_6_method_2_code 2 = .ok (.putfield 7, 3) := by decide +kernel
theorem d4_5 : decode prog_6_method_2_code 5 = .ok (.return_, 1) := by decide +kernel
theorem ef_rm4 (m : MethodId) (o : Addr) (a : Int32) : entryFrame m #[(.ref o), (.int a)] 2 = mkF m 0 #[.val (.ref o), .val (.int a)] [] := by first | (simp [entryFrame, mkF, argsToLocals, Value.category]; done) | rfl
def Q4 (Z : State) (o : Addr) (a : Int32) (li : Int32) (ou : Int32) (h0 : Heap) (n0 : Nat) (vv : Option Value) (h : Heap) (LL : List Loc) : Prop := vv = none ∧ Fr n0 LL ∧ Keep h0 h [o] ∧ (Exa Z h o "com/example/amqp_broker/amqpbroker/model/Prefetch") ∧ (Fld Z h o "com/example/amqp_broker/amqpbroker/model/Prefetch" "limit" "I" (.int a)) ∧ (Fld Z h o "com/example/amqp_broker/amqpbroker/model/Prefetch" "outstanding" "I" (.int ou))
set_option maxRecDepth 65536 in
set_option maxHeartbeats 40000000 in
theorem rm4 (l : Launch) (Z : State) (a0 : Array Value) (hw : ∀ d ∈ tables_1, d.before a0 Z = true) (ws : List Jvm.Cond) (o : Addr) (a : Int32) (li : Int32) (ou : Int32) (h0 : Heap) (n0 : Nat) (Z0 : n0 ≤ h0.size) (hE : Exa Z h0 o "com/example/amqp_broker/amqpbroker/model/Prefetch") (hG : n0 ≤ o) (ho1 : Fld Z h0 o "com/example/amqp_broker/amqpbroker/model/Prefetch" "limit" "I" (.int li)) (ho2 : Fld Z h0 o "com/example/amqp_broker/amqpbroker/model/Prefetch" "outstanding" "I" (.int ou)) :
    MetFree l (⟨"com/example/amqp_broker/amqpbroker/model/Prefetch", "setLimit", "(I)V"⟩ : MethodName) (head1 (Jvm.Cond.code (⟨"com/example/amqp_broker/amqpbroker/model/Prefetch", "setLimit", "(I)V"⟩ : MethodName) prog_6_method_2_code 2 none :: ws) ({ frames := 0, cells := 0, slots := 0, locals := 0 } : Room)) (fun aa UU => aa = #[(.ref o), (.int a)] ∧ Z.Warmed39 UU.vm ∧ UU.heap = h0) (fun _ _ _ _ _ => True) (fun _ UU oo UU' => ∃ vv LL, oo = .returned vv ∧ Q4 Z o a li ou h0 n0 vv UU'.heap LL ∧ FrameEnd UU oo UU' LL 0 0) := by
  refine MetFree.of_bodySF (plainFor_of_name pn_0) hisR ?_
  intro p e s m args below meth c s₁ Bd hml0 hP hK
  obtain ⟨rfl, hZ, hh⟩ := hP
  have hx := Bd.exec
  have hby := Bd.bytes
  have hlk : meth.locks = false := BodyLoose.notSynchronized Bd
  have hml : c.maxLocals = 2 := hml0
  have hown : s.vm.findClass "com/example/amqp_broker/amqpbroker/model/Prefetch" = some m.cls := findClass_of_methodNamed Bd.named
  have hnm := (name_of_methodNamed Bd.named Bd.method).1
  have X0 : Stand p l e ({ frames := 0, cells := 0, slots := 0, locals := 0 } : Room) s m #[(.ref o), (.int a)] below meth c s₁ [] 0 0 := Stand.of_body Bd
  have e0 : s₁.heap = h0 := by rw [← hh, Bd.state]; rfl
  have N0 := Fr.nil n0
  have K0 : Keep h0 h0 [o] := Keep.refl h0 _
  refine (?_ : Go p e below s (Q4 Z o a li ou h0 n0) 0 0 (s₁.setTop (entryFrame m #[(.ref o), (.int a)] 2)))
  rw [ef_rm4]
  generalize hQ : Q4 Z o a li ou h0 n0 = Q
  show Go p e below s Q 0 0 (s₁.setTop (mkF m 0 #[.val (.ref o), .val (.int a)] []))
  have f1 := rng32 a
  refine Go.st (fun _ k => XS.aloadN X0.here hx rfl (hb hby d4_0) rfl rfl k) ?_
  show Go p e below s Q 0 0 (s₁.setTop (mkF m 1 #[.val (.ref o), .val (.int a)] [(.ref o)]))
  refine Go.st (fun _ k => XS.iloadN X0.here hx rfl (hb hby d4_1) rfl k) ?_
  show Go p e below s Q 0 0 (s₁.setTop (mkF m 2 #[.val (.ref o), .val (.int a)] [(.int a), (.ref o)]))
  obtain ⟨T2, h2, X2, e2, W2, st2⟩ := putF X0 hx hZ hown (host := "") (Or.inl (hw _ (List.mem_of_getElem? (i := 14) rfl))) Via.refl e0 ho1 hE (Or.inl (hw _ (List.mem_of_getElem? (i := 15) rfl))) (hw _ (List.mem_of_getElem? (i := 6) rfl)) (ty := .int) (by decide) rfl rfl (g := (mkF m 2 #[.val (.ref o), .val (.int a)] [(.int a), (.ref o)])) rfl rfl (hb hby d4_2)
  have h3 : Exa Z h2 o "com/example/amqp_broker/amqpbroker/model/Prefetch" := hE.wr W2
  have h4 : Fld Z h2 o "com/example/amqp_broker/amqpbroker/model/Prefetch" "limit" "I" (.int a) := ho1.same W2
  have h5 : Fld Z h2 o "com/example/amqp_broker/amqpbroker/model/Prefetch" "outstanding" "I" (.int ou) := ho2.other W2 (Or.inr (sn_0 hw))
  have K2 : Keep h0 h2 [o] := K0.wr W2 (Or.inl (List.mem_of_getElem? (i := 0) rfl))
  have N2 := Fr.snoc X2 N0 hG
  refine Go.st st2 ?_
  show Go p e below s Q 0 0 (T2.setTop (mkF m 5 #[.val (.ref o), .val (.int a)] []))
  exact Go.retV X2 hx hlk Bd.returns (hb hby d4_5) (by rw [← hQ, e2]; exact ⟨rfl, N2, K2, h3, h4, h5⟩) (by decide) (by decide)
theorem d6_0 : decode prog_6_method_4_code 0 = .ok (.aload_n 0, 1) := by decide +kernel
theorem d6_1 : decode prog_6_method_4_code 1 = .ok (.dup, 1) := by decide +kernel
theorem d6_2 : decode prog_6_method_4_code 2 = .ok (.getfield 13, 3) := by decide +kernel
theorem d6_5 : decode prog_6_method_4_code 5 = .ok (.iconst 1, 1) := by decide +kernel
theorem d6_6 : decode prog_6_method_4_code 6 = .ok (.iadd, 1) := by decide +kernel
theorem d6_7 : decode prog_6_method_4_code 7 = .ok (.putfield 13, 3) := by decide +kernel
theorem sn_1 {Z : State} {a0 : Array Value} (hw : ∀ d ∈ tables_1, d.before a0 Z = true) : Jvm.RoadKit.slotOf Z "com/example/amqp_broker/amqpbroker/model/Prefetch" "limit" "I" ≠ Jvm.RoadKit.slotOf Z "com/example/amqp_broker/amqpbroker/model/Prefetch" "outstanding" "I" := slot_ne (Or.inl (hw _ (List.mem_of_getElem? (i := 15) rfl))) (Or.inl (hw _ (List.mem_of_getElem? (i := 27) rfl))) (by decide) (t := .int) (t' := .int) (by decide) (by decide)
theorem liI_1 : (1 : Int32).toInt = 1 := by decide
theorem d6_10 : decode prog_6_method_4_code 10 = .ok (.return_, 1) := by decide +kernel
theorem ef_rm6 (m : MethodId) (o : Addr) : entryFrame m #[(.ref o)] 1 = mkF m 0 #[.val (.ref o)] [] := by first | (simp [entryFrame, mkF, argsToLocals, Value.category]; done) | rfl
def Q6 (Z : State) (o : Addr) (li : Int32) (ou : Int32) (h0 : Heap) (n0 : Nat) (vv : Option Value) (h : Heap) (LL : List Loc) : Prop := ∃ (on : Int32), vv = none ∧ Fr n0 LL ∧ (on.toInt = ou.toInt + 1) ∧ Keep h0 h [o] ∧ (Exa Z h o "com/example/amqp_broker/amqpbroker/model/Prefetch") ∧ (Fld Z h o "com/example/amqp_broker/amqpbroker/model/Prefetch" "limit" "I" (.int li)) ∧ (Fld Z h o "com/example/amqp_broker/amqpbroker/model/Prefetch" "outstanding" "I" (.int on))
set_option maxRecDepth 65536 in
set_option maxHeartbeats 40000000 in
theorem rm6 (l : Launch) (Z : State) (a0 : Array Value) (hw : ∀ d ∈ tables_1, d.before a0 Z = true) (ws : List Jvm.Cond) (o : Addr) (li : Int32) (ou : Int32) (h0 : Heap) (n0 : Nat) (Z0 : n0 ≤ h0.size) (hE : Exa Z h0 o "com/example/amqp_broker/amqpbroker/model/Prefetch") (hG : n0 ≤ o) (ho1 : Fld Z h0 o "com/example/amqp_broker/amqpbroker/model/Prefetch" "limit" "I" (.int li)) (ho2 : Fld Z h0 o "com/example/amqp_broker/amqpbroker/model/Prefetch" "outstanding" "I" (.int ou)) (hb_ : -10 < ou.toInt ∧ ou.toInt < 10) :
    MetFree l (⟨"com/example/amqp_broker/amqpbroker/model/Prefetch", "sent", "()V"⟩ : MethodName) (head1 (Jvm.Cond.code (⟨"com/example/amqp_broker/amqpbroker/model/Prefetch", "sent", "()V"⟩ : MethodName) prog_6_method_4_code 1 none :: ws) ({ frames := 0, cells := 0, slots := 0, locals := 0 } : Room)) (fun aa UU => aa = #[(.ref o)] ∧ Z.Warmed39 UU.vm ∧ UU.heap = h0) (fun _ _ _ _ _ => True) (fun _ UU oo UU' => ∃ vv LL, oo = .returned vv ∧ Q6 Z o li ou h0 n0 vv UU'.heap LL ∧ FrameEnd UU oo UU' LL 0 0) := by
  refine MetFree.of_bodySF (plainFor_of_name pn_0) hisR ?_
  intro p e s m args below meth c s₁ Bd hml0 hP hK
  obtain ⟨rfl, hZ, hh⟩ := hP
  have hx := Bd.exec
  have hby := Bd.bytes
  have hlk : meth.locks = false := BodyLoose.notSynchronized Bd
  have hml : c.maxLocals = 1 := hml0
  have hown : s.vm.findClass "com/example/amqp_broker/amqpbroker/model/Prefetch" = some m.cls := findClass_of_methodNamed Bd.named
  have hnm := (name_of_methodNamed Bd.named Bd.method).1
  have X0 : Stand p l e ({ frames := 0, cells := 0, slots := 0, locals := 0 } : Room) s m #[(.ref o)] below meth c s₁ [] 0 0 := Stand.of_body Bd
  have e0 : s₁.heap = h0 := by rw [← hh, Bd.state]; rfl
  have N0 := Fr.nil n0
  have K0 : Keep h0 h0 [o] := Keep.refl h0 _
  refine (?_ : Go p e below s (Q6 Z o li ou h0 n0) 0 0 (s₁.setTop (entryFrame m #[(.ref o)] 1)))
  rw [ef_rm6]
  generalize hQ : Q6 Z o li ou h0 n0 = Q
  show Go p e below s Q 0 0 (s₁.setTop (mkF m 0 #[.val (.ref o)] []))
  refine Go.st (fun _ k => XS.aloadN X0.here hx rfl (hb hby d6_0) rfl rfl k) ?_
  show Go p e below s Q 0 0 (s₁.setTop (mkF m 1 #[.val (.ref o)] [(.ref o)]))
  refine Go.st (fun _ k => XS.dup X0.here hx rfl (hb hby d6_1) rfl rfl k) ?_
  show Go p e below s Q 0 0 (s₁.setTop (mkF m 2 #[.val (.ref o)] [(.ref o), (.ref o)]))
  obtain ⟨T1, X1, e1, st1⟩ := getF X0 hx hZ hown (host := "") (Or.inl (hw _ (List.mem_of_getElem? (i := 26) rfl))) Via.refl e0 ho2 (g := (mkF m 2 #[.val (.ref o)] [(.ref o), (.ref o)])) rfl rfl (hb hby d6_2)
  refine Go.st st1 ?_
  show Go p e below s Q 0 0 (T1.setTop (mkF m 5 #[.val (.ref o)] [(.int ou), (.ref o)]))
  refine Go.st (fun _ k => XS.iconst X1.here hx rfl (hb hby d6_5) k) ?_
  show Go p e below s Q 0 0 (T1.setTop (mkF m 6 #[.val (.ref o)] [(.int (1 : Int32)), (.int ou), (.ref o)]))
  refine Go.st (fun _ k => XS.iadd X1.here hx rfl (hb hby d6_6) rfl k) ?_
  show Go p e below s Q 0 0 (T1.setTop (mkF m 7 #[.val (.ref o)] [(.int (ou + (1 : Int32))), (.ref o)]))
  obtain ⟨T2, h2, X2, e2, W2, st2⟩ := putF X1 hx hZ hown (host := "") (Or.inl (hw _ (List.mem_of_getElem? (i := 26) rfl))) Via.refl e1 ho2 hE (Or.inl (hw _ (List.mem_of_getElem? (i := 27) rfl))) (hw _ (List.mem_of_getElem? (i := 6) rfl)) (ty := .int) (by decide) rfl rfl (g := (mkF m 7 #[.val (.ref o)] [(.int (ou + (1 : Int32))), (.ref o)])) rfl rfl (hb hby d6_7)
  have h3 : Exa Z h2 o "com/example/amqp_broker/amqpbroker/model/Prefetch" := hE.wr W2
  have h4 : Fld Z h2 o "com/example/amqp_broker/amqpbroker/model/Prefetch" "limit" "I" (.int li) := ho1.other W2 (Or.inr (sn_1 hw))
  have h5 : Fld Z h2 o "com/example/amqp_broker/amqpbroker/model/Prefetch" "outstanding" "I" (.int (ou + (1 : Int32))) := ho2.same W2
  have K2 : Keep h0 h2 [o] := K0.wr W2 (Or.inl (List.mem_of_getElem? (i := 0) rfl))
  have N2 := Fr.snoc X2 N0 hG
  refine Go.st st2 ?_
  show Go p e below s Q 0 0 (T2.setTop (mkF m 10 #[.val (.ref o)] []))
  have f6 := rng32 ou
  have f7 := liI_1
  have f8 := c_iadd ou (1 : Int32)
  have f9 := rng32 (ou + (1 : Int32))
  exact Go.retV X2 hx hlk Bd.returns (hb hby d6_10) (by rw [← hQ, e2]; exact ⟨(ou + (1 : Int32)), rfl, N2, (by omega), K2, h3, h4, h5⟩) (by decide) (by decide)
theorem d7_0 : decode prog_6_method_5_code 0 = .ok (.aload_n 0, 1) := by decide +kernel
theorem d7_1 : decode prog_6_method_5_code 1 = .ok (.dup, 1) := by decide +kernel
theorem d7_2 : decode prog_6_method_5_code 2 = .ok (.getfield 13, 3) := by decide +kernel
theorem d7_5 : decode prog_6_method_5_code 5 = .ok (.iconst 1, 1) := by decide +kernel
theorem d7_6 : decode prog_6_method_5_code 6 = .ok (.isub, 1) := by decide +kernel
theorem d7_7 : decode prog_6_method_5_code 7 = .ok (.putfield 13, 3) := by decide +kernel
theorem d7_10 : decode prog_6_method_5_code 10 = .ok (.return_, 1) := by decide +kernel
theorem ef_rm7 (m : MethodId) (o : Addr) : entryFrame m #[(.ref o)] 1 = mkF m 0 #[.val (.ref o)] [] := by first | (simp [entryFrame, mkF, argsToLocals, Value.category]; done) | rfl
def Q7 (Z : State) (o : Addr) (li : Int32) (ou : Int32) (h0 : Heap) (n0 : Nat) (vv : Option Value) (h : Heap) (LL : List Loc) : Prop := ∃ (on : Int32), vv = none ∧ Fr n0 LL ∧ (on.toInt = ou.toInt - 1) ∧ Keep h0 h [o] ∧ (Exa Z h o "com/example/amqp_broker/amqpbroker/model/Prefetch") ∧ (Fld Z h o "com/example/amqp_broker/amqpbroker/model/Prefetch" "limit" "I" (.int li)) ∧ (Fld Z h o "com/example/amqp_broker/amqpbroker/model/Prefetch" "outstanding" "I" (.int on))
set_option maxRecDepth 65536 in
set_option maxHeartbeats 40000000 in
theorem rm7 (l : Launch) (Z : State) (a0 : Array Value) (hw : ∀ d ∈ tables_1, d.before a0 Z = true) (ws : List Jvm.Cond) (o : Addr) (li : Int32) (ou : Int32) (h0 : Heap) (n0 : Nat) (Z0 : n0 ≤ h0.size) (hE : Exa Z h0 o "com/example/amqp_broker/amqpbroker/model/Prefetch") (hG : n0 ≤ o) (ho1 : Fld Z h0 o "com/example/amqp_broker/amqpbroker/model/Prefetch" "limit" "I" (.int li)) (ho2 : Fld Z h0 o "com/example/amqp_broker/amqpbroker/model/Prefetch" "outstanding" "I" (.int ou)) (hb_ : -10 < ou.toInt ∧ ou.toInt < 10) :
    MetFree l (⟨"com/example/amqp_broker/amqpbroker/model/Prefetch", "settled", "()V"⟩ : MethodName) (head1 (Jvm.Cond.code (⟨"com/example/amqp_broker/amqpbroker/model/Prefetch", "settled", "()V"⟩ : MethodName) prog_6_method_5_code 1 none :: ws) ({ frames := 0, cells := 0, slots := 0, locals := 0 } : Room)) (fun aa UU => aa = #[(.ref o)] ∧ Z.Warmed39 UU.vm ∧ UU.heap = h0) (fun _ _ _ _ _ => True) (fun _ UU oo UU' => ∃ vv LL, oo = .returned vv ∧ Q7 Z o li ou h0 n0 vv UU'.heap LL ∧ FrameEnd UU oo UU' LL 0 0) := by
  refine MetFree.of_bodySF (plainFor_of_name pn_0) hisR ?_
  intro p e s m args below meth c s₁ Bd hml0 hP hK
  obtain ⟨rfl, hZ, hh⟩ := hP
  have hx := Bd.exec
  have hby := Bd.bytes
  have hlk : meth.locks = false := BodyLoose.notSynchronized Bd
  have hml : c.maxLocals = 1 := hml0
  have hown : s.vm.findClass "com/example/amqp_broker/amqpbroker/model/Prefetch" = some m.cls := findClass_of_methodNamed Bd.named
  have hnm := (name_of_methodNamed Bd.named Bd.method).1
  have X0 : Stand p l e ({ frames := 0, cells := 0, slots := 0, locals := 0 } : Room) s m #[(.ref o)] below meth c s₁ [] 0 0 := Stand.of_body Bd
  have e0 : s₁.heap = h0 := by rw [← hh, Bd.state]; rfl
  have N0 := Fr.nil n0
  have K0 : Keep h0 h0 [o] := Keep.refl h0 _
  refine (?_ : Go p e below s (Q7 Z o li ou h0 n0) 0 0 (s₁.setTop (entryFrame m #[(.ref o)] 1)))
  rw [ef_rm7]
  generalize hQ : Q7 Z o li ou h0 n0 = Q
  show Go p e below s Q 0 0 (s₁.setTop (mkF m 0 #[.val (.ref o)] []))
  refine Go.st (fun _ k => XS.aloadN X0.here hx rfl (hb hby d7_0) rfl rfl k) ?_
  show Go p e below s Q 0 0 (s₁.setTop (mkF m 1 #[.val (.ref o)] [(.ref o)]))
  refine Go.st (fun _ k => XS.dup X0.here hx rfl (hb hby d7_1) rfl rfl k) ?_
  show Go p e below s Q 0 0 (s₁.setTop (mkF m 2 #[.val (.ref o)] [(.ref o), (.ref o)]))
  obtain ⟨T1, X1, e1, st1⟩ := getF X0 hx hZ hown (host := "") (Or.inl (hw _ (List.mem_of_getElem? (i := 26) rfl))) Via.refl e0 ho2 (g := (mkF m 2 #[.val (.ref o)] [(.ref o), (.ref o)])) rfl rfl (hb hby d7_2)
  refine Go.st st1 ?_
  show Go p e below s Q 0 0 (T1.setTop (mkF m 5 #[.val (.ref o)] [(.int ou), (.ref o)]))
  refine Go.st (fun _ k => XS.iconst X1.here hx rfl (hb hby d7_5) k) ?_
  show Go p e below s Q 0 0 (T1.setTop (mkF m 6 #[.val (.ref o)] [(.int (1 : Int32)), (.int ou), (.ref o)]))
  refine Go.st (fun _ k => XS.isub X1.here hx rfl (hb hby d7_6) rfl k) ?_
  show Go p e below s Q 0 0 (T1.setTop (mkF m 7 #[.val (.ref o)] [(.int (ou - (1 : Int32))), (.ref o)]))
  obtain ⟨T2, h2, X2, e2, W2, st2⟩ := putF X1 hx hZ hown (host := "") (Or.inl (hw _ (List.mem_of_getElem? (i := 26) rfl))) Via.refl e1 ho2 hE (Or.inl (hw _ (List.mem_of_getElem? (i := 27) rfl))) (hw _ (List.mem_of_getElem? (i := 6) rfl)) (ty := .int) (by decide) rfl rfl (g := (mkF m 7 #[.val (.ref o)] [(.int (ou - (1 : Int32))), (.ref o)])) rfl rfl (hb hby d7_7)
  have h3 : Exa Z h2 o "com/example/amqp_broker/amqpbroker/model/Prefetch" := hE.wr W2
  have h4 : Fld Z h2 o "com/example/amqp_broker/amqpbroker/model/Prefetch" "limit" "I" (.int li) := ho1.other W2 (Or.inr (sn_1 hw))
  have h5 : Fld Z h2 o "com/example/amqp_broker/amqpbroker/model/Prefetch" "outstanding" "I" (.int (ou - (1 : Int32))) := ho2.same W2
  have K2 : Keep h0 h2 [o] := K0.wr W2 (Or.inl (List.mem_of_getElem? (i := 0) rfl))
  have N2 := Fr.snoc X2 N0 hG
  refine Go.st st2 ?_
  show Go p e below s Q 0 0 (T2.setTop (mkF m 10 #[.val (.ref o)] []))
  have f6 := rng32 ou
  have f7 := liI_1
  have f8 := c_isub ou (1 : Int32)
  have f9 := rng32 (ou - (1 : Int32))
  exact Go.retV X2 hx hlk Bd.returns (hb hby d7_10) (by rw [← hQ, e2]; exact ⟨(ou - (1 : Int32)), rfl, N2, (by omega), K2, h3, h4, h5⟩) (by decide) (by decide)
theorem d5_0 : decode prog_6_method_3_code 0 = .ok (.aload_n 0, 1) := by decide +kernel
theorem d5_1 : decode prog_6_method_3_code 1 = .ok (.getfield 7, 3) := by decide +kernel
theorem d5_4 : decode prog_6_method_3_code 4 = .ok (.ifCond .eq 14, 3) := by decide +kernel
theorem liI_0 : (0 : Int32).toInt = 0 := by decide
theorem d5_18 : decode prog_6_method_3_code 18 = .ok (.iconst 1, 1) := by decide +kernel
theorem d5_19 : decode prog_6_method_3_code 19 = .ok (.goto 4, 3) := by decide +kernel
theorem d5_23 : decode prog_6_method_3_code 23 = .ok (.ireturn, 1) := by decide +kernel
theorem d5_7 : decode prog_6_method_3_code 7 = .ok (.aload_n 0, 1) := by decide +kernel
theorem d5_8 : decode prog_6_method_3_code 8 = .ok (.getfield 13, 3) := by decide +kernel
theorem d5_11 : decode prog_6_method_3_code 11 = .ok (.aload_n 0, 1) := by decide +kernel
theorem d5_12 : decode prog_6_method_3_code 12 = .ok (.getfield 7, 3) := by decide +kernel
theorem d5_15 : decode prog_6_method_3_code 15 = .ok (.if_icmp .ge 7, 3) := by decide +kernel
theorem d5_22 : decode prog_6_method_3_code 22 = .ok (.iconst 0, 1) := by decide +kernel
theorem ef_rm5 (m : MethodId) (o : Addr) : entryFrame m #[(.ref o)] 1 = mkF m 0 #[.val (.ref o)] [] := by first | (simp [entryFrame, mkF, argsToLocals, Value.category]; done) | rfl
def Q5 (Z : State) (o : Addr) (li : Int32) (ou : Int32) (h0 : Heap) (n0 : Nat) (vv : Option Value) (h : Heap) (LL : List Loc) : Prop := ∃ (r : Int32), vv = some (.int r) ∧ Fr n0 LL ∧ ((r.toInt = 1 ∧ (li.toInt = 0 ∨ ou.toInt < li.toInt)) ∨ (r.toInt = 0 ∧ ¬ (li.toInt = 0 ∨ ou.toInt < li.toInt))) ∧ h = h0
set_option maxRecDepth 65536 in
set_option maxHeartbeats 40000000 in
theorem rm5 (l : Launch) (Z : State) (a0 : Array Value) (hw : ∀ d ∈ tables_1, d.before a0 Z = true) (ws : List Jvm.Cond) (o : Addr) (li : Int32) (ou : Int32) (h0 : Heap) (n0 : Nat) (Z0 : n0 ≤ h0.size) (ho1 : Fld Z h0 o "com/example/amqp_broker/amqpbroker/model/Prefetch" "limit" "I" (.int li)) (ho2 : Fld Z h0 o "com/example/amqp_broker/amqpbroker/model/Prefetch" "outstanding" "I" (.int ou)) :
    MetFree l (⟨"com/example/amqp_broker/amqpbroker/model/Prefetch", "hasRoom", "()Z"⟩ : MethodName) (head1 (Jvm.Cond.code (⟨"com/example/amqp_broker/amqpbroker/model/Prefetch", "hasRoom", "()Z"⟩ : MethodName) prog_6_method_3_code 1 (some .boolean) :: ws) ({ frames := 0, cells := 0, slots := 0, locals := 0 } : Room)) (fun aa UU => aa = #[(.ref o)] ∧ Z.Warmed39 UU.vm ∧ UU.heap = h0) (fun _ _ _ _ _ => True) (fun _ UU oo UU' => ∃ vv LL, oo = .returned vv ∧ Q5 Z o li ou h0 n0 vv UU'.heap LL ∧ FrameEnd UU oo UU' LL 0 0) := by
  refine MetFree.of_bodySF (plainFor_of_name pn_0) hisR ?_
  intro p e s m args below meth c s₁ Bd hml0 hP hK
  obtain ⟨rfl, hZ, hh⟩ := hP
  have hx := Bd.exec
  have hby := Bd.bytes
  have hlk : meth.locks = false := BodyLoose.notSynchronized Bd
  have hml : c.maxLocals = 1 := hml0
  have hown : s.vm.findClass "com/example/amqp_broker/amqpbroker/model/Prefetch" = some m.cls := findClass_of_methodNamed Bd.named
  have hnm := (name_of_methodNamed Bd.named Bd.method).1
  have X0 : Stand p l e ({ frames := 0, cells := 0, slots := 0, locals := 0 } : Room) s m #[(.ref o)] below meth c s₁ [] 0 0 := Stand.of_body Bd
  have e0 : s₁.heap = h0 := by rw [← hh, Bd.state]; rfl
  have N0 := Fr.nil n0
  have K0 : Keep h0 h0 [] := Keep.refl h0 _
  refine (?_ : Go p e below s (Q5 Z o li ou h0 n0) 0 0 (s₁.setTop (entryFrame m #[(.ref o)] 1)))
  rw [ef_rm5]
  generalize hQ : Q5 Z o li ou h0 n0 = Q
  show Go p e below s Q 0 0 (s₁.setTop (mkF m 0 #[.val (.ref o)] []))
  refine Go.st (fun _ k => XS.aloadN X0.here hx rfl (hb hby d5_0) rfl rfl k) ?_
  show Go p e below s Q 0 0 (s₁.setTop (mkF m 1 #[.val (.ref o)] [(.ref o)]))
  obtain ⟨T1, X1, e1, st1⟩ := getF X0 hx hZ hown (host := "") (Or.inl (hw _ (List.mem_of_getElem? (i := 14) rfl))) Via.refl e0 ho1 (g := (mkF m 1 #[.val (.ref o)] [(.ref o)])) rfl rfl (hb hby d5_1)
  refine Go.st st1 ?_
  show Go p e below s Q 0 0 (T1.setTop (mkF m 4 #[.val (.ref o)] [(.int li)]))
  have f2 := rng32 li
  have f3 := liI_0
  by_cases c4 : li.toInt = 0
  ·
    refine Go.st (fun _ k => XS.ifYes X1.here hx rfl (pc0 := 4) (pc' := 18) rfl (hb hby d5_4) rfl ((if0 _ _).trans (teq (eqI rfl liI_0 c4)).1) (by decide) (by decide) k) ?_
    show Go p e below s Q 0 0 (T1.setTop (mkF m 18 #[.val (.ref o)] []))
    refine Go.st (fun _ k => XS.iconst X1.here hx rfl (hb hby d5_18) k) ?_
    show Go p e below s Q 0 0 (T1.setTop (mkF m 19 #[.val (.ref o)] [(.int (1 : Int32))]))
    refine Go.st (fun _ k => XS.goto X1.here hx rfl (pc0 := 19) (pc' := 23) rfl (hb hby d5_19) (by decide) (by decide) k) ?_
    show Go p e below s Q 0 0 (T1.setTop (mkF m 23 #[.val (.ref o)] [(.int (1 : Int32))]))
    have f5 := liI_1
    exact Go.retN X1 hx hlk (by simp) Bd.returns (hb hby d5_23) (z' := (1 : Int32)) (by decide) (by rw [← hQ, e1]; exact ⟨(1 : Int32), rfl, N0, (by omega), rfl⟩) (by decide) (by decide)
  ·
    refine Go.st (fun _ k => XS.ifNo X1.here hx rfl (hb hby d5_4) rfl ((if0 _ _).trans (feq (neI rfl liI_0 c4)).1) k) ?_
    show Go p e below s Q 0 0 (T1.setTop (mkF m 7 #[.val (.ref o)] []))
    refine Go.st (fun _ k => XS.aloadN X1.here hx rfl (hb hby d5_7) rfl rfl k) ?_
    show Go p e below s Q 0 0 (T1.setTop (mkF m 8 #[.val (.ref o)] [(.ref o)]))
    obtain ⟨T6, X6, e6, st6⟩ := getF X1 hx hZ hown (host := "") (Or.inl (hw _ (List.mem_of_getElem? (i := 26) rfl))) Via.refl e1 ho2 (g := (mkF m 8 #[.val (.ref o)] [(.ref o)])) rfl rfl (hb hby d5_8)
    refine Go.st st6 ?_
    show Go p e below s Q 0 0 (T6.setTop (mkF m 11 #[.val (.ref o)] [(.int ou)]))
    refine Go.st (fun _ k => XS.aloadN X6.here hx rfl (hb hby d5_11) rfl rfl k) ?_
    show Go p e below s Q 0 0 (T6.setTop (mkF m 12 #[.val (.ref o)] [(.ref o), (.int ou)]))
    obtain ⟨T7, X7, e7, st7⟩ := getF X6 hx hZ hown (host := "") (Or.inl (hw _ (List.mem_of_getElem? (i := 14) rfl))) Via.refl e6 ho1 (g := (mkF m 12 #[.val (.ref o)] [(.ref o), (.int ou)])) rfl rfl (hb hby d5_12)
    refine Go.st st7 ?_
    show Go p e below s Q 0 0 (T7.setTop (mkF m 15 #[.val (.ref o)] [(.int li), (.int ou)]))
    have f8 := rng32 ou
    by_cases c9 : ou.toInt < li.toInt
    ·
      refine Go.st (fun _ k => XS.icmpNo X7.here hx rfl (hb hby d5_15) rfl (tlt (ltI rfl rfl c9)).2.1 k) ?_
      show Go p e below s Q 0 0 (T7.setTop (mkF m 18 #[.val (.ref o)] []))
      refine Go.st (fun _ k => XS.iconst X7.here hx rfl (hb hby d5_18) k) ?_
      show Go p e below s Q 0 0 (T7.setTop (mkF m 19 #[.val (.ref o)] [(.int (1 : Int32))]))
      refine Go.st (fun _ k => XS.goto X7.here hx rfl (pc0 := 19) (pc' := 23) rfl (hb hby d5_19) (by decide) (by decide) k) ?_
      show Go p e below s Q 0 0 (T7.setTop (mkF m 23 #[.val (.ref o)] [(.int (1 : Int32))]))
      have f10 := liI_1
      exact Go.retN X7 hx hlk (by simp) Bd.returns (hb hby d5_23) (z' := (1 : Int32)) (by decide) (by rw [← hQ, e7]; exact ⟨(1 : Int32), rfl, N0, (by omega), rfl⟩) (by decide) (by decide)
    ·
      refine Go.st (fun _ k => XS.icmpYes X7.here hx rfl (pc0 := 15) (pc' := 22) rfl (hb hby d5_15) rfl (flt (nltI rfl rfl c9)).2.1 (by decide) (by decide) k) ?_
      show Go p e below s Q 0 0 (T7.setTop (mkF m 22 #[.val (.ref o)] []))
      refine Go.st (fun _ k => XS.iconst X7.here hx rfl (hb hby d5_22) k) ?_
      show Go p e below s Q 0 0 (T7.setTop (mkF m 23 #[.val (.ref o)] [(.int (0 : Int32))]))
      exact Go.retN X7 hx hlk (by simp) Bd.returns (hb hby d5_23) (z' := (0 : Int32)) (by decide) (by rw [← hQ, e7]; exact ⟨(0 : Int32), rfl, N0, (by omega), rfl⟩) (by decide) (by decide)
theorem pn_1 : plainName "com/example/amqp_broker/amqpbroker/model/PrefetchHasRoomPinLaw" = true := by first | (simp [plainName, overriddenIn]; done) | decide +kernel
theorem liI_2 : (2 : Int32).toInt = 2 := by decide
theorem liI_4 : (4 : Int32).toInt = 4 := by decide
theorem liI_2147483647 : (2147483647 : Int32).toInt = 2147483647 := by decide
theorem liI_7 : (7 : Int32).toInt = 7 := by decide
theorem liI_3 : (3 : Int32).toInt = 3 := by decide
theorem liI_5 : (5 : Int32).toInt = 5 := by decide
theorem pd_0 : parseMethodDescriptor "(II)I" = some ⟨[.int, .int], some .int⟩ := by decide +kernel
theorem pd_1 : parseMethodDescriptor "(I)V" = some ⟨[.int], none⟩ := by decide +kernel
theorem pd_2 : parseMethodDescriptor "()V" = some ⟨[], none⟩ := by decide +kernel
theorem pd_3 : parseMethodDescriptor "()Z" = some ⟨[], some .boolean⟩ := by decide +kernel
theorem ef_rm0 (m : MethodId) (x0 : Int32) (x1 : Int32) (x2 : Int32) : entryFrame m #[(.int x0), (.int x1), (.int x2)] maxLocals = mkF m 0 #[.val (.int x0), .val (.int x1), .val (.int x2), .unset, .unset, .unset, .unset, .unset, .unset, .unset, .unset, .unset, .unset, .unset] [] := by first | (simp [entryFrame, mkF, argsToLocals, Value.category, maxLocals]; done) | rfl
def Q0 (Z : State) (x0 : Int32) (x1 : Int32) (x2 : Int32) (h0 : Heap) (n0 : Nat) (vv : Option Value) (h : Heap) (LL : List Loc) : Prop := vv = some (.int (1 : Int32)) ∧ Fr n0 LL ∧ Keep h0 h []
set_option maxRecDepth 65536 in
set_option maxHeartbeats 40000000 in
theorem rm0 (l : Launch) (Z : State) (a0 : Array Value) (hw : ∀ d ∈ tables_1, d.before a0 Z = true) (ws : List Jvm.Cond) (x0 : Int32) (x1 : Int32) (x2 : Int32) (h0 : Heap) (n0 : Nat) (Z0 : n0 ≤ h0.size) :
    MetFree l x (head1 (Jvm.Cond.code x code maxLocals ret :: ws) room_1) (fun aa UU => aa = #[(.int x0), (.int x1), (.int x2)] ∧ Z.Warmed39 UU.vm ∧ UU.heap = h0) (fun _ _ _ _ _ => True) (fun _ UU oo UU' => ∃ vv LL, oo = .returned vv ∧ Q0 Z x0 x1 x2 h0 n0 vv UU'.heap LL ∧ FrameEnd UU oo UU' LL 1 2) := by
  refine MetFree.of_bodySF (plainFor_of_name pn_1) hisR ?_
  intro p e s m args below meth c s₁ Bd hml0 hP hK
  obtain ⟨rfl, hZ, hh⟩ := hP
  have hx := Bd.exec
  have hby := Bd.bytes
  have hlk : meth.locks = false := BodyLoose.notSynchronized Bd
  have hml : c.maxLocals = 14 := hml0
  have hown : s.vm.findClass "com/example/amqp_broker/amqpbroker/model/PrefetchHasRoomPinLaw" = some m.cls := findClass_of_methodNamed Bd.named
  have hnm := (name_of_methodNamed Bd.named Bd.method).1
  have X0 : Stand p l e room_1 s m #[(.int x0), (.int x1), (.int x2)] below meth c s₁ [] 0 0 := Stand.of_body Bd
  have e0 : s₁.heap = h0 := by rw [← hh, Bd.state]; rfl
  have N0 := Fr.nil n0
  have K0 : Keep h0 h0 [] := Keep.refl h0 _
  refine (?_ : Go p e below s (Q0 Z x0 x1 x2 h0 n0) 1 2 (s₁.setTop (entryFrame m #[(.int x0), (.int x1), (.int x2)] maxLocals)))
  rw [ef_rm0]
  generalize hQ : Q0 Z x0 x1 x2 h0 n0 = Q
  show Go p e below s Q 1 2 (s₁.setTop (mkF m 0 #[.val (.int x0), .val (.int x1), .val (.int x2), .unset, .unset, .unset, .unset, .unset, .unset, .unset, .unset, .unset, .unset, .unset] []))
  have f1 := rng32 x0
  have f2 := rng32 x1
  have f3 := rng32 x2
  refine Go.st (fun _ k => XS.iloadN X0.here hx rfl (hb hby at_0) rfl k) ?_
  show Go p e below s Q 1 2 (s₁.setTop (mkF m 1 #[.val (.int x0), .val (.int x1), .val (.int x2), .unset, .unset, .unset, .unset, .unset, .unset, .unset, .unset, .unset, .unset, .unset] [(.int x2)]))
  refine Go.st (fun _ k => XS.iconst X0.here hx rfl (hb hby at_1) k) ?_
  show Go p e below s Q 1 2 (s₁.setTop (mkF m 2 #[.val (.int x0), .val (.int x1), .val (.int x2), .unset, .unset, .unset, .unset, .unset, .unset, .unset, .unset, .unset, .unset, .unset] [(.int (1 : Int32)), (.int x2)]))
  refine Go.st (fun _ k => XS.iand X0.here hx rfl (hb hby at_2) rfl k) ?_
  show Go p e below s Q 1 2 (s₁.setTop (mkF m 3 #[.val (.int x0), .val (.int x1), .val (.int x2), .unset, .unset, .unset, .unset, .unset, .unset, .unset, .unset, .unset, .unset, .unset] [(.int (x2 &&& (1 : Int32)))]))
  suffices J5 : ∀ (j4 : Int32), (True) → Go p e below s Q 1 2 (s₁.setTop (mkF m 11 #[.val (.int x0), .val (.int x1), .val (.int x2), .unset, .unset, .unset, .unset, .unset, .unset, .unset, .unset, .unset, .unset, .unset] [(.int j4)])) by
    have f7 := liI_1
    have f8 : (x2 &&& (1 : Int32)).toInt = x2.toInt % 2 := c_mask x2 (1 : Int32) 1 (by decide) (by decide)
    have f9 := liI_0
    by_cases c10 : (x2 &&& (1 : Int32)).toInt = 0
    ·
      refine Go.st (fun _ k => XS.ifYes X0.here hx rfl (pc0 := 3) (pc' := 10) rfl (hb hby at_3) rfl ((if0 _ _).trans (teq (eqI rfl liI_0 c10)).1) (by decide) (by decide) k) ?_
      show Go p e below s Q 1 2 (s₁.setTop (mkF m 10 #[.val (.int x0), .val (.int x1), .val (.int x2), .unset, .unset, .unset, .unset, .unset, .unset, .unset, .unset, .unset, .unset, .unset] []))
      refine Go.st (fun _ k => XS.iconst X0.here hx rfl (hb hby at_10) k) ?_
      show Go p e below s Q 1 2 (s₁.setTop (mkF m 11 #[.val (.int x0), .val (.int x1), .val (.int x2), .unset, .unset, .unset, .unset, .unset, .unset, .unset, .unset, .unset, .unset, .unset] [(.int (0 : Int32))]))
      exact J5 (0 : Int32) (by trivial)
    ·
      refine Go.st (fun _ k => XS.ifNo X0.here hx rfl (hb hby at_3) rfl ((if0 _ _).trans (feq (neI rfl liI_0 c10)).1) k) ?_
      show Go p e below s Q 1 2 (s₁.setTop (mkF m 6 #[.val (.int x0), .val (.int x1), .val (.int x2), .unset, .unset, .unset, .unset, .unset, .unset, .unset, .unset, .unset, .unset, .unset] []))
      refine Go.st (fun _ k => XS.iconst X0.here hx rfl (hb hby at_6) k) ?_
      show Go p e below s Q 1 2 (s₁.setTop (mkF m 7 #[.val (.int x0), .val (.int x1), .val (.int x2), .unset, .unset, .unset, .unset, .unset, .unset, .unset, .unset, .unset, .unset, .unset] [(.int (1 : Int32))]))
      refine Go.st (fun _ k => XS.goto X0.here hx rfl (pc0 := 7) (pc' := 11) rfl (hb hby at_7) (by decide) (by decide) k) ?_
      show Go p e below s Q 1 2 (s₁.setTop (mkF m 11 #[.val (.int x0), .val (.int x1), .val (.int x2), .unset, .unset, .unset, .unset, .unset, .unset, .unset, .unset, .unset, .unset, .unset] [(.int (1 : Int32))]))
      exact J5 (1 : Int32) (by trivial)
  intro j4 f11
  have f12 := rng32 j4
  refine Go.st (fun _ k => XS.istoreN X0.here hx rfl (hb hby at_11) rfl (l' := #[.val (.int x0), .val (.int x1), .val (.int x2), .val (.int j4), .unset, .unset, .unset, .unset, .unset, .unset, .unset, .unset, .unset, .unset]) rfl k) ?_
  show Go p e below s Q 1 2 (s₁.setTop (mkF m 12 #[.val (.int x0), .val (.int x1), .val (.int x2), .val (.int j4), .unset, .unset, .unset, .unset, .unset, .unset, .unset, .unset, .unset, .unset] []))
  refine Go.st (fun _ k => XS.iloadN X0.here hx rfl (hb hby at_12) rfl k) ?_
  show Go p e below s Q 1 2 (s₁.setTop (mkF m 13 #[.val (.int x0), .val (.int x1), .val (.int x2), .val (.int j4), .unset, .unset, .unset, .unset, .unset, .unset, .unset, .unset, .unset, .unset] [(.int x2)]))
  refine Go.st (fun _ k => XS.iconst X0.here hx rfl (hb hby at_13) k) ?_
  show Go p e below s Q 1 2 (s₁.setTop (mkF m 14 #[.val (.int x0), .val (.int x1), .val (.int x2), .val (.int j4), .unset, .unset, .unset, .unset, .unset, .unset, .unset, .unset, .unset, .unset] [(.int (2 : Int32)), (.int x2)]))
  refine Go.st (fun _ k => XS.iand X0.here hx rfl (hb hby at_14) rfl k) ?_
  show Go p e below s Q 1 2 (s₁.setTop (mkF m 15 #[.val (.int x0), .val (.int x1), .val (.int x2), .val (.int j4), .unset, .unset, .unset, .unset, .unset, .unset, .unset, .unset, .unset, .unset] [(.int (x2 &&& (2 : Int32)))]))
  suffices J14 : ∀ (j13 : Int32), (True) → Go p e below s Q 1 2 (s₁.setTop (mkF m 23 #[.val (.int x0), .val (.int x1), .val (.int x2), .val (.int j4), .unset, .unset, .unset, .unset, .unset, .unset, .unset, .unset, .unset, .unset] [(.int j13)])) by
    have f16 := liI_2
    have f17 := c_and x2 (2 : Int32) (by decide)
    have f18 := liI_0
    by_cases c19 : (x2 &&& (2 : Int32)).toInt = 0
    ·
      refine Go.st (fun _ k => XS.ifYes X0.here hx rfl (pc0 := 15) (pc' := 22) rfl (hb hby at_15) rfl ((if0 _ _).trans (teq (eqI rfl liI_0 c19)).1) (by decide) (by decide) k) ?_
      show Go p e below s Q 1 2 (s₁.setTop (mkF m 22 #[.val (.int x0), .val (.int x1), .val (.int x2), .val (.int j4), .unset, .unset, .unset, .unset, .unset, .unset, .unset, .unset, .unset, .unset] []))
      refine Go.st (fun _ k => XS.iconst X0.here hx rfl (hb hby at_22) k) ?_
      show Go p e below s Q 1 2 (s₁.setTop (mkF m 23 #[.val (.int x0), .val (.int x1), .val (.int x2), .val (.int j4), .unset, .unset, .unset, .unset, .unset, .unset, .unset, .unset, .unset, .unset] [(.int (0 : Int32))]))
      exact J14 (0 : Int32) (by trivial)
    ·
      refine Go.st (fun _ k => XS.ifNo X0.here hx rfl (hb hby at_15) rfl ((if0 _ _).trans (feq (neI rfl liI_0 c19)).1) k) ?_
      show Go p e below s Q 1 2 (s₁.setTop (mkF m 18 #[.val (.int x0), .val (.int x1), .val (.int x2), .val (.int j4), .unset, .unset, .unset, .unset, .unset, .unset, .unset, .unset, .unset, .unset] []))
      refine Go.st (fun _ k => XS.iconst X0.here hx rfl (hb hby at_18) k) ?_
      show Go p e below s Q 1 2 (s₁.setTop (mkF m 19 #[.val (.int x0), .val (.int x1), .val (.int x2), .val (.int j4), .unset, .unset, .unset, .unset, .unset, .unset, .unset, .unset, .unset, .unset] [(.int (1 : Int32))]))
      refine Go.st (fun _ k => XS.goto X0.here hx rfl (pc0 := 19) (pc' := 23) rfl (hb hby at_19) (by decide) (by decide) k) ?_
      show Go p e below s Q 1 2 (s₁.setTop (mkF m 23 #[.val (.int x0), .val (.int x1), .val (.int x2), .val (.int j4), .unset, .unset, .unset, .unset, .unset, .unset, .unset, .unset, .unset, .unset] [(.int (1 : Int32))]))
      have f20 := liI_1
      exact J14 (1 : Int32) (by trivial)
  intro j13 f21
  have f22 := rng32 j13
  refine Go.st (fun _ k => XS.istore X0.here hx rfl (hb hby at_23) rfl (l' := #[.val (.int x0), .val (.int x1), .val (.int x2), .val (.int j4), .val (.int j13), .unset, .unset, .unset, .unset, .unset, .unset, .unset, .unset, .unset]) rfl k) ?_
  show Go p e below s Q 1 2 (s₁.setTop (mkF m 25 #[.val (.int x0), .val (.int x1), .val (.int x2), .val (.int j4), .val (.int j13), .unset, .unset, .unset, .unset, .unset, .unset, .unset, .unset, .unset] []))
  refine Go.st (fun _ k => XS.iloadN X0.here hx rfl (hb hby at_25) rfl k) ?_
  show Go p e below s Q 1 2 (s₁.setTop (mkF m 26 #[.val (.int x0), .val (.int x1), .val (.int x2), .val (.int j4), .val (.int j13), .unset, .unset, .unset, .unset, .unset, .unset, .unset, .unset, .unset] [(.int x2)]))
  refine Go.st (fun _ k => XS.iconst X0.here hx rfl (hb hby at_26) k) ?_
  show Go p e below s Q 1 2 (s₁.setTop (mkF m 27 #[.val (.int x0), .val (.int x1), .val (.int x2), .val (.int j4), .val (.int j13), .unset, .unset, .unset, .unset, .unset, .unset, .unset, .unset, .unset] [(.int (4 : Int32)), (.int x2)]))
  refine Go.st (fun _ k => XS.iand X0.here hx rfl (hb hby at_27) rfl k) ?_
  show Go p e below s Q 1 2 (s₁.setTop (mkF m 28 #[.val (.int x0), .val (.int x1), .val (.int x2), .val (.int j4), .val (.int j13), .unset, .unset, .unset, .unset, .unset, .unset, .unset, .unset, .unset] [(.int (x2 &&& (4 : Int32)))]))
  suffices J24 : ∀ (j23 : Int32), (True) → Go p e below s Q 1 2 (s₁.setTop (mkF m 36 #[.val (.int x0), .val (.int x1), .val (.int x2), .val (.int j4), .val (.int j13), .unset, .unset, .unset, .unset, .unset, .unset, .unset, .unset, .unset] [(.int j23)])) by
    have f26 := liI_4
    have f27 := c_and x2 (4 : Int32) (by decide)
    have f28 := liI_0
    by_cases c29 : (x2 &&& (4 : Int32)).toInt = 0
    ·
      refine Go.st (fun _ k => XS.ifYes X0.here hx rfl (pc0 := 28) (pc' := 35) rfl (hb hby at_28) rfl ((if0 _ _).trans (teq (eqI rfl liI_0 c29)).1) (by decide) (by decide) k) ?_
      show Go p e below s Q 1 2 (s₁.setTop (mkF m 35 #[.val (.int x0), .val (.int x1), .val (.int x2), .val (.int j4), .val (.int j13), .unset, .unset, .unset, .unset, .unset, .unset, .unset, .unset, .unset] []))
      refine Go.st (fun _ k => XS.iconst X0.here hx rfl (hb hby at_35) k) ?_
      show Go p e below s Q 1 2 (s₁.setTop (mkF m 36 #[.val (.int x0), .val (.int x1), .val (.int x2), .val (.int j4), .val (.int j13), .unset, .unset, .unset, .unset, .unset, .unset, .unset, .unset, .unset] [(.int (0 : Int32))]))
      exact J24 (0 : Int32) (by trivial)
    ·
      refine Go.st (fun _ k => XS.ifNo X0.here hx rfl (hb hby at_28) rfl ((if0 _ _).trans (feq (neI rfl liI_0 c29)).1) k) ?_
      show Go p e below s Q 1 2 (s₁.setTop (mkF m 31 #[.val (.int x0), .val (.int x1), .val (.int x2), .val (.int j4), .val (.int j13), .unset, .unset, .unset, .unset, .unset, .unset, .unset, .unset, .unset] []))
      refine Go.st (fun _ k => XS.iconst X0.here hx rfl (hb hby at_31) k) ?_
      show Go p e below s Q 1 2 (s₁.setTop (mkF m 32 #[.val (.int x0), .val (.int x1), .val (.int x2), .val (.int j4), .val (.int j13), .unset, .unset, .unset, .unset, .unset, .unset, .unset, .unset, .unset] [(.int (1 : Int32))]))
      refine Go.st (fun _ k => XS.goto X0.here hx rfl (pc0 := 32) (pc' := 36) rfl (hb hby at_32) (by decide) (by decide) k) ?_
      show Go p e below s Q 1 2 (s₁.setTop (mkF m 36 #[.val (.int x0), .val (.int x1), .val (.int x2), .val (.int j4), .val (.int j13), .unset, .unset, .unset, .unset, .unset, .unset, .unset, .unset, .unset] [(.int (1 : Int32))]))
      have f30 := liI_1
      exact J24 (1 : Int32) (by trivial)
  intro j23 f31
  have f32 := rng32 j23
  refine Go.st (fun _ k => XS.istore X0.here hx rfl (hb hby at_36) rfl (l' := #[.val (.int x0), .val (.int x1), .val (.int x2), .val (.int j4), .val (.int j13), .val (.int j23), .unset, .unset, .unset, .unset, .unset, .unset, .unset, .unset]) rfl k) ?_
  show Go p e below s Q 1 2 (s₁.setTop (mkF m 38 #[.val (.int x0), .val (.int x1), .val (.int x2), .val (.int j4), .val (.int j13), .val (.int j23), .unset, .unset, .unset, .unset, .unset, .unset, .unset, .unset] []))
  refine Go.st (fun _ k => XS.iloadN X0.here hx rfl (hb hby at_38) rfl k) ?_
  show Go p e below s Q 1 2 (s₁.setTop (mkF m 39 #[.val (.int x0), .val (.int x1), .val (.int x2), .val (.int j4), .val (.int j13), .val (.int j23), .unset, .unset, .unset, .unset, .unset, .unset, .unset, .unset] [(.int j4)]))
  suffices J34 : ∀ (j33 : Int32), (True) → Go p e below s Q 1 2 (s₁.setTop (mkF m 53 #[.val (.int x0), .val (.int x1), .val (.int x2), .val (.int j4), .val (.int j13), .val (.int j23), .unset, .unset, .unset, .unset, .unset, .unset, .unset, .unset] [(.int j33)])) by
    have f36 := liI_0
    by_cases c37 : j4.toInt = 0
    ·
      refine Go.st (fun _ k => XS.ifYes X0.here hx rfl (pc0 := 39) (pc' := 49) rfl (hb hby at_39) rfl ((if0 _ _).trans (teq (eqI rfl liI_0 c37)).1) (by decide) (by decide) k) ?_
      show Go p e below s Q 1 2 (s₁.setTop (mkF m 49 #[.val (.int x0), .val (.int x1), .val (.int x2), .val (.int j4), .val (.int j13), .val (.int j23), .unset, .unset, .unset, .unset, .unset, .unset, .unset, .unset] []))
      refine Go.st (fun _ k => XS.iloadN X0.here hx rfl (hb hby at_49) rfl k) ?_
      show Go p e below s Q 1 2 (s₁.setTop (mkF m 50 #[.val (.int x0), .val (.int x1), .val (.int x2), .val (.int j4), .val (.int j13), .val (.int j23), .unset, .unset, .unset, .unset, .unset, .unset, .unset, .unset] [(.int x0)]))
      refine Go.st (X0.ldcInt hx hown (mvT hZ (hw _ (List.mem_of_getElem? (i := 0) rfl))) (g := (mkF m 50 #[.val (.int x0), .val (.int x1), .val (.int x2), .val (.int j4), .val (.int j13), .val (.int j23), .unset, .unset, .unset, .unset, .unset, .unset, .unset, .unset] [(.int x0)])) rfl (hb hby at_50)) ?_
      show Go p e below s Q 1 2 (s₁.setTop (mkF m 52 #[.val (.int x0), .val (.int x1), .val (.int x2), .val (.int j4), .val (.int j13), .val (.int j23), .unset, .unset, .unset, .unset, .unset, .unset, .unset, .unset] [(.int (2147483647 : Int32)), (.int x0)]))
      refine Go.st (fun _ k => XS.iand X0.here hx rfl (hb hby at_52) rfl k) ?_
      show Go p e below s Q 1 2 (s₁.setTop (mkF m 53 #[.val (.int x0), .val (.int x1), .val (.int x2), .val (.int j4), .val (.int j13), .val (.int j23), .unset, .unset, .unset, .unset, .unset, .unset, .unset, .unset] [(.int (x0 &&& (2147483647 : Int32)))]))
      have f38 := liI_2147483647
      have f39 : (x0 &&& (2147483647 : Int32)).toInt = x0.toInt % 2147483648 := c_mask x0 (2147483647 : Int32) 31 (by decide) (by decide)
      exact J34 (x0 &&& (2147483647 : Int32)) (by trivial)
    ·
      refine Go.st (fun _ k => XS.ifNo X0.here hx rfl (hb hby at_39) rfl ((if0 _ _).trans (feq (neI rfl liI_0 c37)).1) k) ?_
      show Go p e below s Q 1 2 (s₁.setTop (mkF m 42 #[.val (.int x0), .val (.int x1), .val (.int x2), .val (.int j4), .val (.int j13), .val (.int j23), .unset, .unset, .unset, .unset, .unset, .unset, .unset, .unset] []))
      refine Go.st (fun _ k => XS.iloadN X0.here hx rfl (hb hby at_42) rfl k) ?_
      show Go p e below s Q 1 2 (s₁.setTop (mkF m 43 #[.val (.int x0), .val (.int x1), .val (.int x2), .val (.int j4), .val (.int j13), .val (.int j23), .unset, .unset, .unset, .unset, .unset, .unset, .unset, .unset] [(.int x0)]))
      refine Go.st (fun _ k => XS.bipush X0.here hx rfl (hb hby at_43) k) ?_
      show Go p e below s Q 1 2 (s₁.setTop (mkF m 45 #[.val (.int x0), .val (.int x1), .val (.int x2), .val (.int j4), .val (.int j13), .val (.int j23), .unset, .unset, .unset, .unset, .unset, .unset, .unset, .unset] [(.int (7 : Int32)), (.int x0)]))
      refine Go.st (fun _ k => XS.iand X0.here hx rfl (hb hby at_45) rfl k) ?_
      show Go p e below s Q 1 2 (s₁.setTop (mkF m 46 #[.val (.int x0), .val (.int x1), .val (.int x2), .val (.int j4), .val (.int j13), .val (.int j23), .unset, .unset, .unset, .unset, .unset, .unset, .unset, .unset] [(.int (x0 &&& (7 : Int32)))]))
      refine Go.st (fun _ k => XS.goto X0.here hx rfl (pc0 := 46) (pc' := 53) rfl (hb hby at_46) (by decide) (by decide) k) ?_
      show Go p e below s Q 1 2 (s₁.setTop (mkF m 53 #[.val (.int x0), .val (.int x1), .val (.int x2), .val (.int j4), .val (.int j13), .val (.int j23), .unset, .unset, .unset, .unset, .unset, .unset, .unset, .unset] [(.int (x0 &&& (7 : Int32)))]))
      have f40 := liI_7
      have f41 : (x0 &&& (7 : Int32)).toInt = x0.toInt % 8 := c_mask x0 (7 : Int32) 3 (by decide) (by decide)
      exact J34 (x0 &&& (7 : Int32)) (by trivial)
  intro j33 f42
  have f43 := rng32 j33
  refine Go.st (fun _ k => XS.istore X0.here hx rfl (hb hby at_53) rfl (l' := #[.val (.int x0), .val (.int x1), .val (.int x2), .val (.int j4), .val (.int j13), .val (.int j23), .val (.int j33), .unset, .unset, .unset, .unset, .unset, .unset, .unset]) rfl k) ?_
  show Go p e below s Q 1 2 (s₁.setTop (mkF m 55 #[.val (.int x0), .val (.int x1), .val (.int x2), .val (.int j4), .val (.int j13), .val (.int j23), .val (.int j33), .unset, .unset, .unset, .unset, .unset, .unset, .unset] []))
  refine Go.st (fun _ k => XS.iload X0.here hx rfl (hb hby at_55) rfl k) ?_
  show Go p e below s Q 1 2 (s₁.setTop (mkF m 57 #[.val (.int x0), .val (.int x1), .val (.int x2), .val (.int j4), .val (.int j13), .val (.int j23), .val (.int j33), .unset, .unset, .unset, .unset, .unset, .unset, .unset] [(.int j23)]))
  suffices J45 : ∀ (j44 : Int32), (True) → Go p e below s Q 1 2 (s₁.setTop (mkF m 71 #[.val (.int x0), .val (.int x1), .val (.int x2), .val (.int j4), .val (.int j13), .val (.int j23), .val (.int j33), .unset, .unset, .unset, .unset, .unset, .unset, .unset] [(.int j44)])) by
    have f47 := liI_0
    by_cases c48 : j23.toInt = 0
    ·
      refine Go.st (fun _ k => XS.ifYes X0.here hx rfl (pc0 := 57) (pc' := 67) rfl (hb hby at_57) rfl ((if0 _ _).trans (teq (eqI rfl liI_0 c48)).1) (by decide) (by decide) k) ?_
      show Go p e below s Q 1 2 (s₁.setTop (mkF m 67 #[.val (.int x0), .val (.int x1), .val (.int x2), .val (.int j4), .val (.int j13), .val (.int j23), .val (.int j33), .unset, .unset, .unset, .unset, .unset, .unset, .unset] []))
      refine Go.st (fun _ k => XS.iloadN X0.here hx rfl (hb hby at_67) rfl k) ?_
      show Go p e below s Q 1 2 (s₁.setTop (mkF m 68 #[.val (.int x0), .val (.int x1), .val (.int x2), .val (.int j4), .val (.int j13), .val (.int j23), .val (.int j33), .unset, .unset, .unset, .unset, .unset, .unset, .unset] [(.int x1)]))
      refine Go.st (X0.ldcInt hx hown (mvT hZ (hw _ (List.mem_of_getElem? (i := 0) rfl))) (g := (mkF m 68 #[.val (.int x0), .val (.int x1), .val (.int x2), .val (.int j4), .val (.int j13), .val (.int j23), .val (.int j33), .unset, .unset, .unset, .unset, .unset, .unset, .unset] [(.int x1)])) rfl (hb hby at_68)) ?_
      show Go p e below s Q 1 2 (s₁.setTop (mkF m 70 #[.val (.int x0), .val (.int x1), .val (.int x2), .val (.int j4), .val (.int j13), .val (.int j23), .val (.int j33), .unset, .unset, .unset, .unset, .unset, .unset, .unset] [(.int (2147483647 : Int32)), (.int x1)]))
      refine Go.st (fun _ k => XS.iand X0.here hx rfl (hb hby at_70) rfl k) ?_
      show Go p e below s Q 1 2 (s₁.setTop (mkF m 71 #[.val (.int x0), .val (.int x1), .val (.int x2), .val (.int j4), .val (.int j13), .val (.int j23), .val (.int j33), .unset, .unset, .unset, .unset, .unset, .unset, .unset] [(.int (x1 &&& (2147483647 : Int32)))]))
      have f49 := liI_2147483647
      have f50 : (x1 &&& (2147483647 : Int32)).toInt = x1.toInt % 2147483648 := c_mask x1 (2147483647 : Int32) 31 (by decide) (by decide)
      exact J45 (x1 &&& (2147483647 : Int32)) (by trivial)
    ·
      refine Go.st (fun _ k => XS.ifNo X0.here hx rfl (hb hby at_57) rfl ((if0 _ _).trans (feq (neI rfl liI_0 c48)).1) k) ?_
      show Go p e below s Q 1 2 (s₁.setTop (mkF m 60 #[.val (.int x0), .val (.int x1), .val (.int x2), .val (.int j4), .val (.int j13), .val (.int j23), .val (.int j33), .unset, .unset, .unset, .unset, .unset, .unset, .unset] []))
      refine Go.st (fun _ k => XS.iloadN X0.here hx rfl (hb hby at_60) rfl k) ?_
      show Go p e below s Q 1 2 (s₁.setTop (mkF m 61 #[.val (.int x0), .val (.int x1), .val (.int x2), .val (.int j4), .val (.int j13), .val (.int j23), .val (.int j33), .unset, .unset, .unset, .unset, .unset, .unset, .unset] [(.int x1)]))
      refine Go.st (fun _ k => XS.bipush X0.here hx rfl (hb hby at_61) k) ?_
      show Go p e below s Q 1 2 (s₁.setTop (mkF m 63 #[.val (.int x0), .val (.int x1), .val (.int x2), .val (.int j4), .val (.int j13), .val (.int j23), .val (.int j33), .unset, .unset, .unset, .unset, .unset, .unset, .unset] [(.int (7 : Int32)), (.int x1)]))
      refine Go.st (fun _ k => XS.iand X0.here hx rfl (hb hby at_63) rfl k) ?_
      show Go p e below s Q 1 2 (s₁.setTop (mkF m 64 #[.val (.int x0), .val (.int x1), .val (.int x2), .val (.int j4), .val (.int j13), .val (.int j23), .val (.int j33), .unset, .unset, .unset, .unset, .unset, .unset, .unset] [(.int (x1 &&& (7 : Int32)))]))
      refine Go.st (fun _ k => XS.goto X0.here hx rfl (pc0 := 64) (pc' := 71) rfl (hb hby at_64) (by decide) (by decide) k) ?_
      show Go p e below s Q 1 2 (s₁.setTop (mkF m 71 #[.val (.int x0), .val (.int x1), .val (.int x2), .val (.int j4), .val (.int j13), .val (.int j23), .val (.int j33), .unset, .unset, .unset, .unset, .unset, .unset, .unset] [(.int (x1 &&& (7 : Int32)))]))
      have f51 := liI_7
      have f52 : (x1 &&& (7 : Int32)).toInt = x1.toInt % 8 := c_mask x1 (7 : Int32) 3 (by decide) (by decide)
      exact J45 (x1 &&& (7 : Int32)) (by trivial)
  intro j44 f53
  have f54 := rng32 j44
  refine Go.st (fun _ k => XS.istore X0.here hx rfl (hb hby at_71) rfl (l' := #[.val (.int x0), .val (.int x1), .val (.int x2), .val (.int j4), .val (.int j13), .val (.int j23), .val (.int j33), .val (.int j44), .unset, .unset, .unset, .unset, .unset, .unset]) rfl k) ?_
  show Go p e below s Q 1 2 (s₁.setTop (mkF m 73 #[.val (.int x0), .val (.int x1), .val (.int x2), .val (.int j4), .val (.int j13), .val (.int j23), .val (.int j33), .val (.int j44), .unset, .unset, .unset, .unset, .unset, .unset] []))
  refine Go.st (fun _ k => XS.iloadN X0.here hx rfl (hb hby at_73) rfl k) ?_
  show Go p e below s Q 1 2 (s₁.setTop (mkF m 74 #[.val (.int x0), .val (.int x1), .val (.int x2), .val (.int j4), .val (.int j13), .val (.int j23), .val (.int j33), .val (.int j44), .unset, .unset, .unset, .unset, .unset, .unset] [(.int x2)]))
  refine Go.st (fun _ k => XS.iconst X0.here hx rfl (hb hby at_74) k) ?_
  show Go p e below s Q 1 2 (s₁.setTop (mkF m 75 #[.val (.int x0), .val (.int x1), .val (.int x2), .val (.int j4), .val (.int j13), .val (.int j23), .val (.int j33), .val (.int j44), .unset, .unset, .unset, .unset, .unset, .unset] [(.int (3 : Int32)), (.int x2)]))
  refine Go.st (fun _ k => XS.iushr X0.here hx rfl (hb hby at_75) rfl k) ?_
  show Go p e below s Q 1 2 (s₁.setTop (mkF m 76 #[.val (.int x0), .val (.int x1), .val (.int x2), .val (.int j4), .val (.int j13), .val (.int j23), .val (.int j33), .val (.int j44), .unset, .unset, .unset, .unset, .unset, .unset] [(.int ((x2.toUInt32 >>> ((3 : Int32) &&& 31).toUInt32).toInt32))]))
  refine Go.st (fun _ k => XS.iconst X0.here hx rfl (hb hby at_76) k) ?_
  show Go p e below s Q 1 2 (s₁.setTop (mkF m 77 #[.val (.int x0), .val (.int x1), .val (.int x2), .val (.int j4), .val (.int j13), .val (.int j23), .val (.int j33), .val (.int j44), .unset, .unset, .unset, .unset, .unset, .unset] [(.int (3 : Int32)), (.int ((x2.toUInt32 >>> ((3 : Int32) &&& 31).toUInt32).toInt32))]))
  refine Go.st (fun _ k => XS.iand X0.here hx rfl (hb hby at_77) rfl k) ?_
  show Go p e below s Q 1 2 (s₁.setTop (mkF m 78 #[.val (.int x0), .val (.int x1), .val (.int x2), .val (.int j4), .val (.int j13), .val (.int j23), .val (.int j33), .val (.int j44), .unset, .unset, .unset, .unset, .unset, .unset] [(.int (((x2.toUInt32 >>> ((3 : Int32) &&& 31).toUInt32).toInt32) &&& (3 : Int32)))]))
  refine Go.st (fun _ k => XS.istore X0.here hx rfl (hb hby at_78) rfl (l' := #[.val (.int x0), .val (.int x1), .val (.int x2), .val (.int j4), .val (.int j13), .val (.int j23), .val (.int j33), .val (.int j44), .val (.int (((x2.toUInt32 >>> ((3 : Int32) &&& 31).toUInt32).toInt32) &&& (3 : Int32))), .unset, .unset, .unset, .unset, .unset]) rfl k) ?_
  show Go p e below s Q 1 2 (s₁.setTop (mkF m 80 #[.val (.int x0), .val (.int x1), .val (.int x2), .val (.int j4), .val (.int j13), .val (.int j23), .val (.int j33), .val (.int j44), .val (.int (((x2.toUInt32 >>> ((3 : Int32) &&& 31).toUInt32).toInt32) &&& (3 : Int32))), .unset, .unset, .unset, .unset, .unset] []))
  have f55 := liI_3
  have f56 : ((x2.toUInt32 >>> ((3 : Int32) &&& 31).toUInt32).toInt32).toInt = (x2.toInt % 4294967296) / 8 := c_iushr x2 (3 : Int32) 3 (by decide) (by decide)
  have f57 := rng32 ((x2.toUInt32 >>> ((3 : Int32) &&& 31).toUInt32).toInt32)
  have f58 : (((x2.toUInt32 >>> ((3 : Int32) &&& 31).toUInt32).toInt32) &&& (3 : Int32)).toInt = ((x2.toUInt32 >>> ((3 : Int32) &&& 31).toUInt32).toInt32).toInt % 4 := c_mask ((x2.toUInt32 >>> ((3 : Int32) &&& 31).toUInt32).toInt32) (3 : Int32) 2 (by decide) (by decide)
  generalize hv_v59 : (((x2.toUInt32 >>> ((3 : Int32) &&& 31).toUInt32).toInt32) &&& (3 : Int32)) = v59 at f58 ⊢
  refine Go.st (fun _ k => XS.iloadN X0.here hx rfl (hb hby at_80) rfl k) ?_
  show Go p e below s Q 1 2 (s₁.setTop (mkF m 81 #[.val (.int x0), .val (.int x1), .val (.int x2), .val (.int j4), .val (.int j13), .val (.int j23), .val (.int j33), .val (.int j44), .val (.int v59), .unset, .unset, .unset, .unset, .unset] [(.int x2)]))
  refine Go.st (fun _ k => XS.iconst X0.here hx rfl (hb hby at_81) k) ?_
  show Go p e below s Q 1 2 (s₁.setTop (mkF m 82 #[.val (.int x0), .val (.int x1), .val (.int x2), .val (.int j4), .val (.int j13), .val (.int j23), .val (.int j33), .val (.int j44), .val (.int v59), .unset, .unset, .unset, .unset, .unset] [(.int (5 : Int32)), (.int x2)]))
  refine Go.st (fun _ k => XS.iushr X0.here hx rfl (hb hby at_82) rfl k) ?_
  show Go p e below s Q 1 2 (s₁.setTop (mkF m 83 #[.val (.int x0), .val (.int x1), .val (.int x2), .val (.int j4), .val (.int j13), .val (.int j23), .val (.int j33), .val (.int j44), .val (.int v59), .unset, .unset, .unset, .unset, .unset] [(.int ((x2.toUInt32 >>> ((5 : Int32) &&& 31).toUInt32).toInt32))]))
  refine Go.st (fun _ k => XS.iconst X0.here hx rfl (hb hby at_83) k) ?_
  show Go p e below s Q 1 2 (s₁.setTop (mkF m 84 #[.val (.int x0), .val (.int x1), .val (.int x2), .val (.int j4), .val (.int j13), .val (.int j23), .val (.int j33), .val (.int j44), .val (.int v59), .unset, .unset, .unset, .unset, .unset] [(.int (3 : Int32)), (.int ((x2.toUInt32 >>> ((5 : Int32) &&& 31).toUInt32).toInt32))]))
  refine Go.st (fun _ k => XS.iand X0.here hx rfl (hb hby at_84) rfl k) ?_
  show Go p e below s Q 1 2 (s₁.setTop (mkF m 85 #[.val (.int x0), .val (.int x1), .val (.int x2), .val (.int j4), .val (.int j13), .val (.int j23), .val (.int j33), .val (.int j44), .val (.int v59), .unset, .unset, .unset, .unset, .unset] [(.int (((x2.toUInt32 >>> ((5 : Int32) &&& 31).toUInt32).toInt32) &&& (3 : Int32)))]))
  refine Go.st (fun _ k => XS.iload X0.here hx rfl (hb hby at_85) rfl k) ?_
  show Go p e below s Q 1 2 (s₁.setTop (mkF m 87 #[.val (.int x0), .val (.int x1), .val (.int x2), .val (.int j4), .val (.int j13), .val (.int j23), .val (.int j33), .val (.int j44), .val (.int v59), .unset, .unset, .unset, .unset, .unset] [(.int v59), (.int (((x2.toUInt32 >>> ((5 : Int32) &&& 31).toUInt32).toInt32) &&& (3 : Int32)))]))
  have f61 := liI_5
  have f62 : ((x2.toUInt32 >>> ((5 : Int32) &&& 31).toUInt32).toInt32).toInt = (x2.toInt % 4294967296) / 32 := c_iushr x2 (5 : Int32) 5 (by decide) (by decide)
  have f63 := rng32 ((x2.toUInt32 >>> ((5 : Int32) &&& 31).toUInt32).toInt32)
  have f64 : (((x2.toUInt32 >>> ((5 : Int32) &&& 31).toUInt32).toInt32) &&& (3 : Int32)).toInt = ((x2.toUInt32 >>> ((5 : Int32) &&& 31).toUInt32).toInt32).toInt % 4 := c_mask ((x2.toUInt32 >>> ((5 : Int32) &&& 31).toUInt32).toInt32) (3 : Int32) 2 (by decide) (by decide)
  obtain ⟨_, _, ⟨T60, L60, k60, n60⟩, -, X60, ⟨Lc60, hQ60, l60, y60, z60⟩, st60⟩ := Jvm.LawKit.callS X0 hx (y := (⟨"java/lang/Math", "min", "(II)I"⟩ : MethodName)) hown (mvT hZ (hw _ (List.mem_of_getElem? (i := 1) rfl))) (mvT hZ (hw _ (List.mem_of_getElem? (i := 2) rfl))) (mvT hZ (hw _ (List.mem_of_getElem? (i := 3) rfl))) (mvT hZ (hw _ (List.mem_of_getElem? (i := 4) rfl))) (by decide) (backOf (W := 0) (rm1 l Z a0 hw [] (((x2.toUInt32 >>> ((5 : Int32) &&& 31).toUInt32).toInt32) &&& (3 : Int32)) v59 h0 n0 (Nat.le_trans Z0 K0.1) ) hZ (hw _ (List.mem_of_getElem? (i := 4) rfl)) (hw _ (List.mem_of_getElem? (i := 3) rfl)) (by decide) (by decide)) (g := (mkF m 87 #[.val (.int x0), .val (.int x1), .val (.int x2), .val (.int j4), .val (.int j13), .val (.int j23), .val (.int j33), .val (.int j44), .val (.int v59), .unset, .unset, .unset, .unset, .unset] [(.int v59), (.int (((x2.toUInt32 >>> ((5 : Int32) &&& 31).toUInt32).toInt32) &&& (3 : Int32)))])) rfl (by rw [hml]; rfl) (argsL := [(.int (((x2.toUInt32 >>> ((5 : Int32) &&& 31).toUInt32).toInt32) &&& (3 : Int32))), (.int v59)]) (rest := []) (lenOf pd_0 rfl) rfl (by show 2 * 0 + _ ≤ _; exact Nat.le_of_eq rfl) (hb hby at_87) (fun _ _ => ⟨rfl, e0, (by decide : 0 + 0 ≤ _), (by decide : 0 + 0 ≤ _)⟩)
  dsimp only [Pt.U, Pt.locs, Pt.cells, Pt.slots] at X60 l60 y60 z60 st60 hQ60
  subst l60 y60 z60
  obtain ⟨r_65, rfl, N60q, f66, e60⟩ := hQ60
  have N60 := Fr.app N0 N60q
  refine Go.st st60 ?_
  show Go p e below s Q 1 2 (T60.setTop (mkF m 90 #[.val (.int x0), .val (.int x1), .val (.int x2), .val (.int j4), .val (.int j13), .val (.int j23), .val (.int j33), .val (.int j44), .val (.int v59), .unset, .unset, .unset, .unset, .unset] [(.int r_65)]))
  have f67 := rng32 r_65
  refine Go.st (fun _ k => XS.istore X60.here hx rfl (hb hby at_90) rfl (l' := #[.val (.int x0), .val (.int x1), .val (.int x2), .val (.int j4), .val (.int j13), .val (.int j23), .val (.int j33), .val (.int j44), .val (.int v59), .val (.int r_65), .unset, .unset, .unset, .unset]) rfl k) ?_
  show Go p e below s Q 1 2 (T60.setTop (mkF m 92 #[.val (.int x0), .val (.int x1), .val (.int x2), .val (.int j4), .val (.int j13), .val (.int j23), .val (.int j33), .val (.int j44), .val (.int v59), .val (.int r_65), .unset, .unset, .unset, .unset] []))
  obtain ⟨T68, h68, X68, e68, E68, A68, D68, -, st68⟩ := newO X60 hx hZ hown (hw _ (List.mem_of_getElem? (i := 5) rfl)) (hw _ (List.mem_of_getElem? (i := 6) rfl)) (hw _ (List.mem_of_getElem? (i := 7) rfl)) e60 (g := (mkF m 92 #[.val (.int x0), .val (.int x1), .val (.int x2), .val (.int j4), .val (.int j13), .val (.int j23), .val (.int j33), .val (.int j44), .val (.int v59), .val (.int r_65), .unset, .unset, .unset, .unset] [])) rfl (hb hby at_92) (by decide) (by decide)
  obtain ⟨b68, g68⟩ : ∃ z, z = h0.size := ⟨_, rfl⟩
  rw [← g68] at A68 D68 st68
  have Gb68 : n0 ≤ b68 := Nat.le_trans (Nat.le_trans Z0 K0.1) (Nat.le_of_eq g68.symm)
  have szb68 : h0.size ≤ b68 := Nat.le_trans K0.1 (Nat.le_of_eq g68.symm)
  have K68 : Keep h0 h68 [] := K0.ext E68
  have h69 : Fld Z h68 b68 "com/example/amqp_broker/amqpbroker/model/Prefetch" "limit" "I" (.int (0 : Int32)) := D68 (Or.inl (hw _ (List.mem_of_getElem? (i := 15) rfl))) (ty := .int) (by decide)
  have h70 : Fld Z h68 b68 "com/example/amqp_broker/amqpbroker/model/Prefetch" "outstanding" "I" (.int (0 : Int32)) := D68 (Or.inl (hw _ (List.mem_of_getElem? (i := 27) rfl))) (ty := .int) (by decide)
  refine Go.st st68 ?_
  show Go p e below s Q 1 2 (T68.setTop (mkF m 95 #[.val (.int x0), .val (.int x1), .val (.int x2), .val (.int j4), .val (.int j13), .val (.int j23), .val (.int j33), .val (.int j44), .val (.int v59), .val (.int r_65), .unset, .unset, .unset, .unset] [(.ref b68)]))
  refine Go.st (fun _ k => XS.dup X68.here hx rfl (hb hby at_95) rfl rfl k) ?_
  show Go p e below s Q 1 2 (T68.setTop (mkF m 96 #[.val (.int x0), .val (.int x1), .val (.int x2), .val (.int j4), .val (.int j13), .val (.int j23), .val (.int j33), .val (.int j44), .val (.int v59), .val (.int r_65), .unset, .unset, .unset, .unset] [(.ref b68), (.ref b68)]))
  refine Go.st (fun _ k => XS.iload X68.here hx rfl (hb hby at_96) rfl k) ?_
  show Go p e below s Q 1 2 (T68.setTop (mkF m 98 #[.val (.int x0), .val (.int x1), .val (.int x2), .val (.int j4), .val (.int j13), .val (.int j23), .val (.int j33), .val (.int j44), .val (.int v59), .val (.int r_65), .unset, .unset, .unset, .unset] [(.int j33), (.ref b68), (.ref b68)]))
  have f72 := liI_0
  obtain ⟨_, _, ⟨T71, L71, k71, n71⟩, -, X71, ⟨Lc71, hQ71, l71, y71, z71⟩, st71⟩ := X68.specialBack hx (y := (⟨"com/example/amqp_broker/amqpbroker/model/Prefetch", "<init>", "(I)V"⟩ : MethodName)) rfl hown (mvT hZ (hw _ (List.mem_of_getElem? (i := 8) rfl))) (mvT hZ (hw _ (List.mem_of_getElem? (i := 9) rfl))) (mvT hZ (hw _ (List.mem_of_getElem? (i := 10) rfl))) (by decide) (backOf (W := 1) (rm2 l Z a0 hw [] b68 j33 (0 : Int32) (0 : Int32) h68 n0 (Nat.le_trans Z0 K68.1) A68 Gb68 h69 h70) hZ (hw _ (List.mem_of_getElem? (i := 10) rfl)) (hw _ (List.mem_of_getElem? (i := 7) rfl)) (by decide) (by decide)) (g := (mkF m 98 #[.val (.int x0), .val (.int x1), .val (.int x2), .val (.int j4), .val (.int j13), .val (.int j23), .val (.int j33), .val (.int j44), .val (.int v59), .val (.int r_65), .unset, .unset, .unset, .unset] [(.int j33), (.ref b68), (.ref b68)])) rfl (by rw [hml]; rfl) (Steps.refl _) (a := b68) (argsL := [(.int j33)]) (rest := [(.ref b68)]) (lenOf pd_1 rfl) rfl (by show 2 * 0 + _ ≤ _; exact Nat.le_of_eq rfl) (hb hby at_98) (fun _ _ => ⟨rfl, e68, (by decide : 1 + 0 ≤ _), (by decide : 2 + 0 ≤ _)⟩)
  dsimp only [Pt.U, Pt.locs, Pt.cells, Pt.slots] at X71 l71 y71 z71 st71 hQ71
  subst l71 y71 z71
  obtain ⟨rfl, N71q, K71q, h73, h74, h75⟩ := hQ71
  have N71 := Fr.app N60 N71q
  have K71 : Keep h0 T71.heap [] := K68.trans K71q (fun x hx => (show ∀ x ∈ ([b68] : List Addr), x ∈ ([] : List Addr) ∨ h0.size ≤ x from (allS (Or.inr szb68) all0)) x hx)
  refine Go.tr  st71 ?_
  show Go p e below s Q 1 2 (T71.setTop (mkF m 101 #[.val (.int x0), .val (.int x1), .val (.int x2), .val (.int j4), .val (.int j13), .val (.int j23), .val (.int j33), .val (.int j44), .val (.int v59), .val (.int r_65), .unset, .unset, .unset, .unset] [(.ref b68)]))
  refine Go.st (fun _ k => XS.astore X71.here hx rfl (hb hby at_101) rfl rfl (l' := #[.val (.int x0), .val (.int x1), .val (.int x2), .val (.int j4), .val (.int j13), .val (.int j23), .val (.int j33), .val (.int j44), .val (.int v59), .val (.int r_65), .val (.ref b68), .unset, .unset, .unset]) rfl k) ?_
  show Go p e below s Q 1 2 (T71.setTop (mkF m 103 #[.val (.int x0), .val (.int x1), .val (.int x2), .val (.int j4), .val (.int j13), .val (.int j23), .val (.int j33), .val (.int j44), .val (.int v59), .val (.int r_65), .val (.ref b68), .unset, .unset, .unset] []))
  have hse : 0 ≤ v59.toInt ∧ v59.toInt ≤ 3 ∧ 0 ≤ r_65.toInt ∧ r_65.toInt ≤ v59.toInt := by omega
  suffices J77 : ∀ (Tg76 : State) (hg76 : Heap) (Lgg76 : List Loc) (Xg76 : Stand p l e room_1 s m #[(.int x0), (.int x1), (.int x2)] below meth c Tg76 Lgg76 1 2) (eg76 : Tg76.heap = hg76) (Ng76 : Fr n0 Lgg76) (Kg76 : Keep h0 hg76 []) (ou114 : Int32) (hfg76_0 : Exa Z hg76 b68 "com/example/amqp_broker/amqpbroker/model/Prefetch") (hfg76_1 : Fld Z hg76 b68 "com/example/amqp_broker/amqpbroker/model/Prefetch" "limit" "I" (.int j33)) (hfg76_2 : Fld Z hg76 b68 "com/example/amqp_broker/amqpbroker/model/Prefetch" "outstanding" "I" (.int ou114)) (hpg76_0 : ou114.toInt = min v59.toInt 1), Go p e below s Q 1 2 (Tg76.setTop (mkF m 114 #[.val (.int x0), .val (.int x1), .val (.int x2), .val (.int j4), .val (.int j13), .val (.int j23), .val (.int j33), .val (.int j44), .val (.int v59), .val (.int r_65), .val (.ref b68), .unset, .unset, .unset] [])) by
    refine Go.st (fun _ k => XS.iload X71.here hx rfl (hb hby at_103) rfl k) ?_
    show Go p e below s Q 1 2 (T71.setTop (mkF m 105 #[.val (.int x0), .val (.int x1), .val (.int x2), .val (.int j4), .val (.int j13), .val (.int j23), .val (.int j33), .val (.int j44), .val (.int v59), .val (.int r_65), .val (.ref b68), .unset, .unset, .unset] [(.int v59)]))
    refine Go.st (fun _ k => XS.iconst X71.here hx rfl (hb hby at_105) k) ?_
    show Go p e below s Q 1 2 (T71.setTop (mkF m 106 #[.val (.int x0), .val (.int x1), .val (.int x2), .val (.int j4), .val (.int j13), .val (.int j23), .val (.int j33), .val (.int j44), .val (.int v59), .val (.int r_65), .val (.ref b68), .unset, .unset, .unset] [(.int (1 : Int32)), (.int v59)]))
    have f78 := liI_1
    by_cases c79 : v59.toInt < 1
    ·
      refine Go.st (fun _ k => XS.icmpYes X71.here hx rfl (pc0 := 106) (pc' := 114) rfl (hb hby at_106) rfl (tlt (ltI rfl liI_1 c79)).1 (by decide) (by decide) k) ?_
      show Go p e below s Q 1 2 (T71.setTop (mkF m 114 #[.val (.int x0), .val (.int x1), .val (.int x2), .val (.int j4), .val (.int j13), .val (.int j23), .val (.int j33), .val (.int j44), .val (.int v59), .val (.int r_65), .val (.ref b68), .unset, .unset, .unset] []))
      exact J77 T71 T71.heap _ (up X71 (by decide) (by decide)) rfl N71 K71 (0 : Int32) h73 h74 h75 (by omega)
    ·
      refine Go.st (fun _ k => XS.icmpNo X71.here hx rfl (hb hby at_106) rfl (flt (nltI rfl liI_1 c79)).1 k) ?_
      show Go p e below s Q 1 2 (T71.setTop (mkF m 109 #[.val (.int x0), .val (.int x1), .val (.int x2), .val (.int j4), .val (.int j13), .val (.int j23), .val (.int j33), .val (.int j44), .val (.int v59), .val (.int r_65), .val (.ref b68), .unset, .unset, .unset] []))
      refine Go.st (fun _ k => XS.aload X71.here hx rfl (hb hby at_109) rfl rfl k) ?_
      show Go p e below s Q 1 2 (T71.setTop (mkF m 111 #[.val (.int x0), .val (.int x1), .val (.int x2), .val (.int j4), .val (.int j13), .val (.int j23), .val (.int j33), .val (.int j44), .val (.int v59), .val (.int r_65), .val (.ref b68), .unset, .unset, .unset] [(.ref b68)]))
      have p81 : -10 < (0 : Int32).toInt ∧ (0 : Int32).toInt < 10 := by omega
      obtain ⟨cq80, kq80, q80a, q80b, q80c⟩ := isOf hZ rfl h73
      obtain ⟨_, _, ⟨T80, L80, k80, n80⟩, -, X80, ⟨Lc80, hQ80, l80, y80, z80⟩, st80⟩ := X71.virtualBack hx (y := (⟨"com/example/amqp_broker/amqpbroker/model/Prefetch", "sent", "()V"⟩ : MethodName)) (z := (⟨"com/example/amqp_broker/amqpbroker/model/Prefetch", "sent", "()V"⟩ : MethodName)) hown (mvT hZ (hw _ (List.mem_of_getElem? (i := 28) rfl))) (mvT hZ (hw _ (List.mem_of_getElem? (i := 29) rfl))) (notFace_of_selects (args := #[]) (mvT hZ (hw _ (List.mem_of_getElem? (i := 31) rfl)))) (mvT hZ (hw _ (List.mem_of_getElem? (i := 31) rfl))) (mvT hZ (hw _ (List.mem_of_getElem? (i := 30) rfl))) (by decide) (backOf (W := 0) (rm6 l Z a0 hw [] b68 j33 (0 : Int32) T71.heap n0 (Nat.le_trans Z0 K71.1) h73 Gb68 h74 h75 p81) hZ (hw _ (List.mem_of_getElem? (i := 32) rfl)) (hw _ (List.mem_of_getElem? (i := 7) rfl)) (by decide) (by decide)) q80a q80c (g := (mkF m 111 #[.val (.int x0), .val (.int x1), .val (.int x2), .val (.int j4), .val (.int j13), .val (.int j23), .val (.int j33), .val (.int j44), .val (.int v59), .val (.int r_65), .val (.ref b68), .unset, .unset, .unset] [(.ref b68)])) rfl (by rw [hml]; rfl) (Steps.refl _) (argsL := []) (rest := []) (lenOf pd_2 rfl) rfl (by show 2 * 0 + _ ≤ _; exact Nat.le_of_eq rfl) (hb hby at_111) (fun _ _ => ⟨rfl, rfl, (by decide : 1 + 0 ≤ _), (by decide : 2 + 0 ≤ _)⟩)
      dsimp only [Pt.U, Pt.locs, Pt.cells, Pt.slots] at X80 l80 y80 z80 st80 hQ80
      subst l80 y80 z80
      obtain ⟨on_82, rfl, N80q, f83, K80q, h84, h85, h86⟩ := hQ80
      have N80 := Fr.app N71 N80q
      have K80 : Keep h0 T80.heap [] := K71.trans K80q (fun x hx => (show ∀ x ∈ ([b68] : List Addr), x ∈ ([] : List Addr) ∨ h0.size ≤ x from (allS (Or.inr szb68) all0)) x hx)
      refine Go.tr  st80 ?_
      show Go p e below s Q 1 2 (T80.setTop (mkF m 114 #[.val (.int x0), .val (.int x1), .val (.int x2), .val (.int j4), .val (.int j13), .val (.int j23), .val (.int j33), .val (.int j44), .val (.int v59), .val (.int r_65), .val (.ref b68), .unset, .unset, .unset] []))
      exact J77 T80 T80.heap _ (up X80 (by decide) (by decide)) rfl N80 K80 on_82 h84 h85 h86 (by omega)
  intro Tg76 hg76 Lgg76 Xg76 eg76 Ng76 Kg76 ou114 hfg76_0 hfg76_1 hfg76_2 hpg76_0
  have f87 := rng32 ou114
  suffices J89 : ∀ (Tg88 : State) (hg88 : Heap) (Lgg88 : List Loc) (Xg88 : Stand p l e room_1 s m #[(.int x0), (.int x1), (.int x2)] below meth c Tg88 Lgg88 1 2) (eg88 : Tg88.heap = hg88) (Ng88 : Fr n0 Lgg88) (Kg88 : Keep h0 hg88 []) (ou125 : Int32) (hfg88_0 : Exa Z hg88 b68 "com/example/amqp_broker/amqpbroker/model/Prefetch") (hfg88_1 : Fld Z hg88 b68 "com/example/amqp_broker/amqpbroker/model/Prefetch" "limit" "I" (.int j33)) (hfg88_2 : Fld Z hg88 b68 "com/example/amqp_broker/amqpbroker/model/Prefetch" "outstanding" "I" (.int ou125)) (hpg88_0 : ou125.toInt = min v59.toInt 2), Go p e below s Q 1 2 (Tg88.setTop (mkF m 125 #[.val (.int x0), .val (.int x1), .val (.int x2), .val (.int j4), .val (.int j13), .val (.int j23), .val (.int j33), .val (.int j44), .val (.int v59), .val (.int r_65), .val (.ref b68), .unset, .unset, .unset] [])) by
    refine Go.st (fun _ k => XS.iload Xg76.here hx rfl (hb hby at_114) rfl k) ?_
    show Go p e below s Q 1 2 (Tg76.setTop (mkF m 116 #[.val (.int x0), .val (.int x1), .val (.int x2), .val (.int j4), .val (.int j13), .val (.int j23), .val (.int j33), .val (.int j44), .val (.int v59), .val (.int r_65), .val (.ref b68), .unset, .unset, .unset] [(.int v59)]))
    refine Go.st (fun _ k => XS.iconst Xg76.here hx rfl (hb hby at_116) k) ?_
    show Go p e below s Q 1 2 (Tg76.setTop (mkF m 117 #[.val (.int x0), .val (.int x1), .val (.int x2), .val (.int j4), .val (.int j13), .val (.int j23), .val (.int j33), .val (.int j44), .val (.int v59), .val (.int r_65), .val (.ref b68), .unset, .unset, .unset] [(.int (2 : Int32)), (.int v59)]))
    have f90 := liI_2
    by_cases c91 : v59.toInt < 2
    ·
      refine Go.st (fun _ k => XS.icmpYes Xg76.here hx rfl (pc0 := 117) (pc' := 125) rfl (hb hby at_117) rfl (tlt (ltI rfl liI_2 c91)).1 (by decide) (by decide) k) ?_
      show Go p e below s Q 1 2 (Tg76.setTop (mkF m 125 #[.val (.int x0), .val (.int x1), .val (.int x2), .val (.int j4), .val (.int j13), .val (.int j23), .val (.int j33), .val (.int j44), .val (.int v59), .val (.int r_65), .val (.ref b68), .unset, .unset, .unset] []))
      exact J89 Tg76 hg76 _ (up Xg76 (by decide) (by decide)) eg76 Ng76 Kg76 ou114 hfg76_0 hfg76_1 hfg76_2 (by omega)
    ·
      refine Go.st (fun _ k => XS.icmpNo Xg76.here hx rfl (hb hby at_117) rfl (flt (nltI rfl liI_2 c91)).1 k) ?_
      show Go p e below s Q 1 2 (Tg76.setTop (mkF m 120 #[.val (.int x0), .val (.int x1), .val (.int x2), .val (.int j4), .val (.int j13), .val (.int j23), .val (.int j33), .val (.int j44), .val (.int v59), .val (.int r_65), .val (.ref b68), .unset, .unset, .unset] []))
      refine Go.st (fun _ k => XS.aload Xg76.here hx rfl (hb hby at_120) rfl rfl k) ?_
      show Go p e below s Q 1 2 (Tg76.setTop (mkF m 122 #[.val (.int x0), .val (.int x1), .val (.int x2), .val (.int j4), .val (.int j13), .val (.int j23), .val (.int j33), .val (.int j44), .val (.int v59), .val (.int r_65), .val (.ref b68), .unset, .unset, .unset] [(.ref b68)]))
      have p93 : -10 < ou114.toInt ∧ ou114.toInt < 10 := by omega
      obtain ⟨cq92, kq92, q92a, q92b, q92c⟩ := isOf hZ eg76 hfg76_0
      obtain ⟨_, _, ⟨T92, L92, k92, n92⟩, -, X92, ⟨Lc92, hQ92, l92, y92, z92⟩, st92⟩ := Xg76.virtualBack hx (y := (⟨"com/example/amqp_broker/amqpbroker/model/Prefetch", "sent", "()V"⟩ : MethodName)) (z := (⟨"com/example/amqp_broker/amqpbroker/model/Prefetch", "sent", "()V"⟩ : MethodName)) hown (mvT hZ (hw _ (List.mem_of_getElem? (i := 28) rfl))) (mvT hZ (hw _ (List.mem_of_getElem? (i := 29) rfl))) (notFace_of_selects (args := #[]) (mvT hZ (hw _ (List.mem_of_getElem? (i := 31) rfl)))) (mvT hZ (hw _ (List.mem_of_getElem? (i := 31) rfl))) (mvT hZ (hw _ (List.mem_of_getElem? (i := 30) rfl))) (by decide) (backOf (W := 0) (rm6 l Z a0 hw [] b68 j33 ou114 hg76 n0 (Nat.le_trans Z0 Kg76.1) hfg76_0 Gb68 hfg76_1 hfg76_2 p93) hZ (hw _ (List.mem_of_getElem? (i := 32) rfl)) (hw _ (List.mem_of_getElem? (i := 7) rfl)) (by decide) (by decide)) q92a q92c (g := (mkF m 122 #[.val (.int x0), .val (.int x1), .val (.int x2), .val (.int j4), .val (.int j13), .val (.int j23), .val (.int j33), .val (.int j44), .val (.int v59), .val (.int r_65), .val (.ref b68), .unset, .unset, .unset] [(.ref b68)])) rfl (by rw [hml]; rfl) (Steps.refl _) (argsL := []) (rest := []) (lenOf pd_2 rfl) rfl (by show 2 * 0 + _ ≤ _; exact Nat.le_of_eq rfl) (hb hby at_122) (fun _ _ => ⟨rfl, eg76, (by decide : 1 + 0 ≤ _), (by decide : 2 + 0 ≤ _)⟩)
      dsimp only [Pt.U, Pt.locs, Pt.cells, Pt.slots] at X92 l92 y92 z92 st92 hQ92
      subst l92 y92 z92
      obtain ⟨on_94, rfl, N92q, f95, K92q, h96, h97, h98⟩ := hQ92
      have N92 := Fr.app Ng76 N92q
      have K92 : Keep h0 T92.heap [] := Kg76.trans K92q (fun x hx => (show ∀ x ∈ ([b68] : List Addr), x ∈ ([] : List Addr) ∨ h0.size ≤ x from (allS (Or.inr szb68) all0)) x hx)
      refine Go.tr  st92 ?_
      show Go p e below s Q 1 2 (T92.setTop (mkF m 125 #[.val (.int x0), .val (.int x1), .val (.int x2), .val (.int j4), .val (.int j13), .val (.int j23), .val (.int j33), .val (.int j44), .val (.int v59), .val (.int r_65), .val (.ref b68), .unset, .unset, .unset] []))
      exact J89 T92 T92.heap _ (up X92 (by decide) (by decide)) rfl N92 K92 on_94 h96 h97 h98 (by omega)
  intro Tg88 hg88 Lgg88 Xg88 eg88 Ng88 Kg88 ou125 hfg88_0 hfg88_1 hfg88_2 hpg88_0
  have f99 := rng32 ou125
  suffices J101 : ∀ (Tg100 : State) (hg100 : Heap) (Lgg100 : List Loc) (Xg100 : Stand p l e room_1 s m #[(.int x0), (.int x1), (.int x2)] below meth c Tg100 Lgg100 1 2) (eg100 : Tg100.heap = hg100) (Ng100 : Fr n0 Lgg100) (Kg100 : Keep h0 hg100 []) (ou136 : Int32) (hfg100_0 : Exa Z hg100 b68 "com/example/amqp_broker/amqpbroker/model/Prefetch") (hfg100_1 : Fld Z hg100 b68 "com/example/amqp_broker/amqpbroker/model/Prefetch" "limit" "I" (.int j33)) (hfg100_2 : Fld Z hg100 b68 "com/example/amqp_broker/amqpbroker/model/Prefetch" "outstanding" "I" (.int ou136)) (hpg100_0 : ou136.toInt = v59.toInt), Go p e below s Q 1 2 (Tg100.setTop (mkF m 136 #[.val (.int x0), .val (.int x1), .val (.int x2), .val (.int j4), .val (.int j13), .val (.int j23), .val (.int j33), .val (.int j44), .val (.int v59), .val (.int r_65), .val (.ref b68), .unset, .unset, .unset] [])) by
    refine Go.st (fun _ k => XS.iload Xg88.here hx rfl (hb hby at_125) rfl k) ?_
    show Go p e below s Q 1 2 (Tg88.setTop (mkF m 127 #[.val (.int x0), .val (.int x1), .val (.int x2), .val (.int j4), .val (.int j13), .val (.int j23), .val (.int j33), .val (.int j44), .val (.int v59), .val (.int r_65), .val (.ref b68), .unset, .unset, .unset] [(.int v59)]))
    refine Go.st (fun _ k => XS.iconst Xg88.here hx rfl (hb hby at_127) k) ?_
    show Go p e below s Q 1 2 (Tg88.setTop (mkF m 128 #[.val (.int x0), .val (.int x1), .val (.int x2), .val (.int j4), .val (.int j13), .val (.int j23), .val (.int j33), .val (.int j44), .val (.int v59), .val (.int r_65), .val (.ref b68), .unset, .unset, .unset] [(.int (3 : Int32)), (.int v59)]))
    by_cases c102 : v59.toInt < 3
    ·
      refine Go.st (fun _ k => XS.icmpYes Xg88.here hx rfl (pc0 := 128) (pc' := 136) rfl (hb hby at_128) rfl (tlt (ltI rfl liI_3 c102)).1 (by decide) (by decide) k) ?_
      show Go p e below s Q 1 2 (Tg88.setTop (mkF m 136 #[.val (.int x0), .val (.int x1), .val (.int x2), .val (.int j4), .val (.int j13), .val (.int j23), .val (.int j33), .val (.int j44), .val (.int v59), .val (.int r_65), .val (.ref b68), .unset, .unset, .unset] []))
      exact J101 Tg88 hg88 _ (up Xg88 (by decide) (by decide)) eg88 Ng88 Kg88 ou125 hfg88_0 hfg88_1 hfg88_2 (by omega)
    ·
      refine Go.st (fun _ k => XS.icmpNo Xg88.here hx rfl (hb hby at_128) rfl (flt (nltI rfl liI_3 c102)).1 k) ?_
      show Go p e below s Q 1 2 (Tg88.setTop (mkF m 131 #[.val (.int x0), .val (.int x1), .val (.int x2), .val (.int j4), .val (.int j13), .val (.int j23), .val (.int j33), .val (.int j44), .val (.int v59), .val (.int r_65), .val (.ref b68), .unset, .unset, .unset] []))
      refine Go.st (fun _ k => XS.aload Xg88.here hx rfl (hb hby at_131) rfl rfl k) ?_
      show Go p e below s Q 1 2 (Tg88.setTop (mkF m 133 #[.val (.int x0), .val (.int x1), .val (.int x2), .val (.int j4), .val (.int j13), .val (.int j23), .val (.int j33), .val (.int j44), .val (.int v59), .val (.int r_65), .val (.ref b68), .unset, .unset, .unset] [(.ref b68)]))
      have p104 : -10 < ou125.toInt ∧ ou125.toInt < 10 := by omega
      obtain ⟨cq103, kq103, q103a, q103b, q103c⟩ := isOf hZ eg88 hfg88_0
      obtain ⟨_, _, ⟨T103, L103, k103, n103⟩, -, X103, ⟨Lc103, hQ103, l103, y103, z103⟩, st103⟩ := Xg88.virtualBack hx (y := (⟨"com/example/amqp_broker/amqpbroker/model/Prefetch", "sent", "()V"⟩ : MethodName)) (z := (⟨"com/example/amqp_broker/amqpbroker/model/Prefetch", "sent", "()V"⟩ : MethodName)) hown (mvT hZ (hw _ (List.mem_of_getElem? (i := 28) rfl))) (mvT hZ (hw _ (List.mem_of_getElem? (i := 29) rfl))) (notFace_of_selects (args := #[]) (mvT hZ (hw _ (List.mem_of_getElem? (i := 31) rfl)))) (mvT hZ (hw _ (List.mem_of_getElem? (i := 31) rfl))) (mvT hZ (hw _ (List.mem_of_getElem? (i := 30) rfl))) (by decide) (backOf (W := 0) (rm6 l Z a0 hw [] b68 j33 ou125 hg88 n0 (Nat.le_trans Z0 Kg88.1) hfg88_0 Gb68 hfg88_1 hfg88_2 p104) hZ (hw _ (List.mem_of_getElem? (i := 32) rfl)) (hw _ (List.mem_of_getElem? (i := 7) rfl)) (by decide) (by decide)) q103a q103c (g := (mkF m 133 #[.val (.int x0), .val (.int x1), .val (.int x2), .val (.int j4), .val (.int j13), .val (.int j23), .val (.int j33), .val (.int j44), .val (.int v59), .val (.int r_65), .val (.ref b68), .unset, .unset, .unset] [(.ref b68)])) rfl (by rw [hml]; rfl) (Steps.refl _) (argsL := []) (rest := []) (lenOf pd_2 rfl) rfl (by show 2 * 0 + _ ≤ _; exact Nat.le_of_eq rfl) (hb hby at_133) (fun _ _ => ⟨rfl, eg88, (by decide : 1 + 0 ≤ _), (by decide : 2 + 0 ≤ _)⟩)
      dsimp only [Pt.U, Pt.locs, Pt.cells, Pt.slots] at X103 l103 y103 z103 st103 hQ103
      subst l103 y103 z103
      obtain ⟨on_105, rfl, N103q, f106, K103q, h107, h108, h109⟩ := hQ103
      have N103 := Fr.app Ng88 N103q
      have K103 : Keep h0 T103.heap [] := Kg88.trans K103q (fun x hx => (show ∀ x ∈ ([b68] : List Addr), x ∈ ([] : List Addr) ∨ h0.size ≤ x from (allS (Or.inr szb68) all0)) x hx)
      refine Go.tr  st103 ?_
      show Go p e below s Q 1 2 (T103.setTop (mkF m 136 #[.val (.int x0), .val (.int x1), .val (.int x2), .val (.int j4), .val (.int j13), .val (.int j23), .val (.int j33), .val (.int j44), .val (.int v59), .val (.int r_65), .val (.ref b68), .unset, .unset, .unset] []))
      exact J101 T103 T103.heap _ (up X103 (by decide) (by decide)) rfl N103 K103 on_105 h107 h108 h109 (by omega)
  intro Tg100 hg100 Lgg100 Xg100 eg100 Ng100 Kg100 ou136 hfg100_0 hfg100_1 hfg100_2 hpg100_0
  have f110 := rng32 ou136
  suffices J112 : ∀ (Tg111 : State) (hg111 : Heap) (Lgg111 : List Loc) (Xg111 : Stand p l e room_1 s m #[(.int x0), (.int x1), (.int x2)] below meth c Tg111 Lgg111 1 2) (eg111 : Tg111.heap = hg111) (Ng111 : Fr n0 Lgg111) (Kg111 : Keep h0 hg111 []) (ou147 : Int32) (hfg111_0 : Exa Z hg111 b68 "com/example/amqp_broker/amqpbroker/model/Prefetch") (hfg111_1 : Fld Z hg111 b68 "com/example/amqp_broker/amqpbroker/model/Prefetch" "limit" "I" (.int j33)) (hfg111_2 : Fld Z hg111 b68 "com/example/amqp_broker/amqpbroker/model/Prefetch" "outstanding" "I" (.int ou147)) (hpg111_0 : ou147.toInt = v59.toInt - min r_65.toInt 1), Go p e below s Q 1 2 (Tg111.setTop (mkF m 147 #[.val (.int x0), .val (.int x1), .val (.int x2), .val (.int j4), .val (.int j13), .val (.int j23), .val (.int j33), .val (.int j44), .val (.int v59), .val (.int r_65), .val (.ref b68), .unset, .unset, .unset] [])) by
    refine Go.st (fun _ k => XS.iload Xg100.here hx rfl (hb hby at_136) rfl k) ?_
    show Go p e below s Q 1 2 (Tg100.setTop (mkF m 138 #[.val (.int x0), .val (.int x1), .val (.int x2), .val (.int j4), .val (.int j13), .val (.int j23), .val (.int j33), .val (.int j44), .val (.int v59), .val (.int r_65), .val (.ref b68), .unset, .unset, .unset] [(.int r_65)]))
    refine Go.st (fun _ k => XS.iconst Xg100.here hx rfl (hb hby at_138) k) ?_
    show Go p e below s Q 1 2 (Tg100.setTop (mkF m 139 #[.val (.int x0), .val (.int x1), .val (.int x2), .val (.int j4), .val (.int j13), .val (.int j23), .val (.int j33), .val (.int j44), .val (.int v59), .val (.int r_65), .val (.ref b68), .unset, .unset, .unset] [(.int (1 : Int32)), (.int r_65)]))
    have f113 := liI_1
    by_cases c114 : r_65.toInt < 1
    ·
      refine Go.st (fun _ k => XS.icmpYes Xg100.here hx rfl (pc0 := 139) (pc' := 147) rfl (hb hby at_139) rfl (tlt (ltI rfl liI_1 c114)).1 (by decide) (by decide) k) ?_
      show Go p e below s Q 1 2 (Tg100.setTop (mkF m 147 #[.val (.int x0), .val (.int x1), .val (.int x2), .val (.int j4), .val (.int j13), .val (.int j23), .val (.int j33), .val (.int j44), .val (.int v59), .val (.int r_65), .val (.ref b68), .unset, .unset, .unset] []))
      exact J112 Tg100 hg100 _ (up Xg100 (by decide) (by decide)) eg100 Ng100 Kg100 ou136 hfg100_0 hfg100_1 hfg100_2 (by omega)
    ·
      refine Go.st (fun _ k => XS.icmpNo Xg100.here hx rfl (hb hby at_139) rfl (flt (nltI rfl liI_1 c114)).1 k) ?_
      show Go p e below s Q 1 2 (Tg100.setTop (mkF m 142 #[.val (.int x0), .val (.int x1), .val (.int x2), .val (.int j4), .val (.int j13), .val (.int j23), .val (.int j33), .val (.int j44), .val (.int v59), .val (.int r_65), .val (.ref b68), .unset, .unset, .unset] []))
      refine Go.st (fun _ k => XS.aload Xg100.here hx rfl (hb hby at_142) rfl rfl k) ?_
      show Go p e below s Q 1 2 (Tg100.setTop (mkF m 144 #[.val (.int x0), .val (.int x1), .val (.int x2), .val (.int j4), .val (.int j13), .val (.int j23), .val (.int j33), .val (.int j44), .val (.int v59), .val (.int r_65), .val (.ref b68), .unset, .unset, .unset] [(.ref b68)]))
      have p116 : -10 < ou136.toInt ∧ ou136.toInt < 10 := by omega
      obtain ⟨cq115, kq115, q115a, q115b, q115c⟩ := isOf hZ eg100 hfg100_0
      obtain ⟨_, _, ⟨T115, L115, k115, n115⟩, -, X115, ⟨Lc115, hQ115, l115, y115, z115⟩, st115⟩ := Xg100.virtualBack hx (y := (⟨"com/example/amqp_broker/amqpbroker/model/Prefetch", "settled", "()V"⟩ : MethodName)) (z := (⟨"com/example/amqp_broker/amqpbroker/model/Prefetch", "settled", "()V"⟩ : MethodName)) hown (mvT hZ (hw _ (List.mem_of_getElem? (i := 33) rfl))) (mvT hZ (hw _ (List.mem_of_getElem? (i := 34) rfl))) (notFace_of_selects (args := #[]) (mvT hZ (hw _ (List.mem_of_getElem? (i := 36) rfl)))) (mvT hZ (hw _ (List.mem_of_getElem? (i := 36) rfl))) (mvT hZ (hw _ (List.mem_of_getElem? (i := 35) rfl))) (by decide) (backOf (W := 0) (rm7 l Z a0 hw [] b68 j33 ou136 hg100 n0 (Nat.le_trans Z0 Kg100.1) hfg100_0 Gb68 hfg100_1 hfg100_2 p116) hZ (hw _ (List.mem_of_getElem? (i := 37) rfl)) (hw _ (List.mem_of_getElem? (i := 7) rfl)) (by decide) (by decide)) q115a q115c (g := (mkF m 144 #[.val (.int x0), .val (.int x1), .val (.int x2), .val (.int j4), .val (.int j13), .val (.int j23), .val (.int j33), .val (.int j44), .val (.int v59), .val (.int r_65), .val (.ref b68), .unset, .unset, .unset] [(.ref b68)])) rfl (by rw [hml]; rfl) (Steps.refl _) (argsL := []) (rest := []) (lenOf pd_2 rfl) rfl (by show 2 * 0 + _ ≤ _; exact Nat.le_of_eq rfl) (hb hby at_144) (fun _ _ => ⟨rfl, eg100, (by decide : 1 + 0 ≤ _), (by decide : 2 + 0 ≤ _)⟩)
      dsimp only [Pt.U, Pt.locs, Pt.cells, Pt.slots] at X115 l115 y115 z115 st115 hQ115
      subst l115 y115 z115
      obtain ⟨on_117, rfl, N115q, f118, K115q, h119, h120, h121⟩ := hQ115
      have N115 := Fr.app Ng100 N115q
      have K115 : Keep h0 T115.heap [] := Kg100.trans K115q (fun x hx => (show ∀ x ∈ ([b68] : List Addr), x ∈ ([] : List Addr) ∨ h0.size ≤ x from (allS (Or.inr szb68) all0)) x hx)
      refine Go.tr  st115 ?_
      show Go p e below s Q 1 2 (T115.setTop (mkF m 147 #[.val (.int x0), .val (.int x1), .val (.int x2), .val (.int j4), .val (.int j13), .val (.int j23), .val (.int j33), .val (.int j44), .val (.int v59), .val (.int r_65), .val (.ref b68), .unset, .unset, .unset] []))
      exact J112 T115 T115.heap _ (up X115 (by decide) (by decide)) rfl N115 K115 on_117 h119 h120 h121 (by omega)
  intro Tg111 hg111 Lgg111 Xg111 eg111 Ng111 Kg111 ou147 hfg111_0 hfg111_1 hfg111_2 hpg111_0
  have f122 := rng32 ou147
  suffices J124 : ∀ (Tg123 : State) (hg123 : Heap) (Lgg123 : List Loc) (Xg123 : Stand p l e room_1 s m #[(.int x0), (.int x1), (.int x2)] below meth c Tg123 Lgg123 1 2) (eg123 : Tg123.heap = hg123) (Ng123 : Fr n0 Lgg123) (Kg123 : Keep h0 hg123 []) (ou158 : Int32) (hfg123_0 : Exa Z hg123 b68 "com/example/amqp_broker/amqpbroker/model/Prefetch") (hfg123_1 : Fld Z hg123 b68 "com/example/amqp_broker/amqpbroker/model/Prefetch" "limit" "I" (.int j33)) (hfg123_2 : Fld Z hg123 b68 "com/example/amqp_broker/amqpbroker/model/Prefetch" "outstanding" "I" (.int ou158)) (hpg123_0 : ou158.toInt = v59.toInt - min r_65.toInt 2), Go p e below s Q 1 2 (Tg123.setTop (mkF m 158 #[.val (.int x0), .val (.int x1), .val (.int x2), .val (.int j4), .val (.int j13), .val (.int j23), .val (.int j33), .val (.int j44), .val (.int v59), .val (.int r_65), .val (.ref b68), .unset, .unset, .unset] [])) by
    refine Go.st (fun _ k => XS.iload Xg111.here hx rfl (hb hby at_147) rfl k) ?_
    show Go p e below s Q 1 2 (Tg111.setTop (mkF m 149 #[.val (.int x0), .val (.int x1), .val (.int x2), .val (.int j4), .val (.int j13), .val (.int j23), .val (.int j33), .val (.int j44), .val (.int v59), .val (.int r_65), .val (.ref b68), .unset, .unset, .unset] [(.int r_65)]))
    refine Go.st (fun _ k => XS.iconst Xg111.here hx rfl (hb hby at_149) k) ?_
    show Go p e below s Q 1 2 (Tg111.setTop (mkF m 150 #[.val (.int x0), .val (.int x1), .val (.int x2), .val (.int j4), .val (.int j13), .val (.int j23), .val (.int j33), .val (.int j44), .val (.int v59), .val (.int r_65), .val (.ref b68), .unset, .unset, .unset] [(.int (2 : Int32)), (.int r_65)]))
    have f125 := liI_2
    by_cases c126 : r_65.toInt < 2
    ·
      refine Go.st (fun _ k => XS.icmpYes Xg111.here hx rfl (pc0 := 150) (pc' := 158) rfl (hb hby at_150) rfl (tlt (ltI rfl liI_2 c126)).1 (by decide) (by decide) k) ?_
      show Go p e below s Q 1 2 (Tg111.setTop (mkF m 158 #[.val (.int x0), .val (.int x1), .val (.int x2), .val (.int j4), .val (.int j13), .val (.int j23), .val (.int j33), .val (.int j44), .val (.int v59), .val (.int r_65), .val (.ref b68), .unset, .unset, .unset] []))
      exact J124 Tg111 hg111 _ (up Xg111 (by decide) (by decide)) eg111 Ng111 Kg111 ou147 hfg111_0 hfg111_1 hfg111_2 (by omega)
    ·
      refine Go.st (fun _ k => XS.icmpNo Xg111.here hx rfl (hb hby at_150) rfl (flt (nltI rfl liI_2 c126)).1 k) ?_
      show Go p e below s Q 1 2 (Tg111.setTop (mkF m 153 #[.val (.int x0), .val (.int x1), .val (.int x2), .val (.int j4), .val (.int j13), .val (.int j23), .val (.int j33), .val (.int j44), .val (.int v59), .val (.int r_65), .val (.ref b68), .unset, .unset, .unset] []))
      refine Go.st (fun _ k => XS.aload Xg111.here hx rfl (hb hby at_153) rfl rfl k) ?_
      show Go p e below s Q 1 2 (Tg111.setTop (mkF m 155 #[.val (.int x0), .val (.int x1), .val (.int x2), .val (.int j4), .val (.int j13), .val (.int j23), .val (.int j33), .val (.int j44), .val (.int v59), .val (.int r_65), .val (.ref b68), .unset, .unset, .unset] [(.ref b68)]))
      have p128 : -10 < ou147.toInt ∧ ou147.toInt < 10 := by omega
      obtain ⟨cq127, kq127, q127a, q127b, q127c⟩ := isOf hZ eg111 hfg111_0
      obtain ⟨_, _, ⟨T127, L127, k127, n127⟩, -, X127, ⟨Lc127, hQ127, l127, y127, z127⟩, st127⟩ := Xg111.virtualBack hx (y := (⟨"com/example/amqp_broker/amqpbroker/model/Prefetch", "settled", "()V"⟩ : MethodName)) (z := (⟨"com/example/amqp_broker/amqpbroker/model/Prefetch", "settled", "()V"⟩ : MethodName)) hown (mvT hZ (hw _ (List.mem_of_getElem? (i := 33) rfl))) (mvT hZ (hw _ (List.mem_of_getElem? (i := 34) rfl))) (notFace_of_selects (args := #[]) (mvT hZ (hw _ (List.mem_of_getElem? (i := 36) rfl)))) (mvT hZ (hw _ (List.mem_of_getElem? (i := 36) rfl))) (mvT hZ (hw _ (List.mem_of_getElem? (i := 35) rfl))) (by decide) (backOf (W := 0) (rm7 l Z a0 hw [] b68 j33 ou147 hg111 n0 (Nat.le_trans Z0 Kg111.1) hfg111_0 Gb68 hfg111_1 hfg111_2 p128) hZ (hw _ (List.mem_of_getElem? (i := 37) rfl)) (hw _ (List.mem_of_getElem? (i := 7) rfl)) (by decide) (by decide)) q127a q127c (g := (mkF m 155 #[.val (.int x0), .val (.int x1), .val (.int x2), .val (.int j4), .val (.int j13), .val (.int j23), .val (.int j33), .val (.int j44), .val (.int v59), .val (.int r_65), .val (.ref b68), .unset, .unset, .unset] [(.ref b68)])) rfl (by rw [hml]; rfl) (Steps.refl _) (argsL := []) (rest := []) (lenOf pd_2 rfl) rfl (by show 2 * 0 + _ ≤ _; exact Nat.le_of_eq rfl) (hb hby at_155) (fun _ _ => ⟨rfl, eg111, (by decide : 1 + 0 ≤ _), (by decide : 2 + 0 ≤ _)⟩)
      dsimp only [Pt.U, Pt.locs, Pt.cells, Pt.slots] at X127 l127 y127 z127 st127 hQ127
      subst l127 y127 z127
      obtain ⟨on_129, rfl, N127q, f130, K127q, h131, h132, h133⟩ := hQ127
      have N127 := Fr.app Ng111 N127q
      have K127 : Keep h0 T127.heap [] := Kg111.trans K127q (fun x hx => (show ∀ x ∈ ([b68] : List Addr), x ∈ ([] : List Addr) ∨ h0.size ≤ x from (allS (Or.inr szb68) all0)) x hx)
      refine Go.tr  st127 ?_
      show Go p e below s Q 1 2 (T127.setTop (mkF m 158 #[.val (.int x0), .val (.int x1), .val (.int x2), .val (.int j4), .val (.int j13), .val (.int j23), .val (.int j33), .val (.int j44), .val (.int v59), .val (.int r_65), .val (.ref b68), .unset, .unset, .unset] []))
      exact J124 T127 T127.heap _ (up X127 (by decide) (by decide)) rfl N127 K127 on_129 h131 h132 h133 (by omega)
  intro Tg123 hg123 Lgg123 Xg123 eg123 Ng123 Kg123 ou158 hfg123_0 hfg123_1 hfg123_2 hpg123_0
  have f134 := rng32 ou158
  suffices J136 : ∀ (Tg135 : State) (hg135 : Heap) (Lgg135 : List Loc) (Xg135 : Stand p l e room_1 s m #[(.int x0), (.int x1), (.int x2)] below meth c Tg135 Lgg135 1 2) (eg135 : Tg135.heap = hg135) (Ng135 : Fr n0 Lgg135) (Kg135 : Keep h0 hg135 []) (ou169 : Int32) (hfg135_0 : Exa Z hg135 b68 "com/example/amqp_broker/amqpbroker/model/Prefetch") (hfg135_1 : Fld Z hg135 b68 "com/example/amqp_broker/amqpbroker/model/Prefetch" "limit" "I" (.int j33)) (hfg135_2 : Fld Z hg135 b68 "com/example/amqp_broker/amqpbroker/model/Prefetch" "outstanding" "I" (.int ou169)) (hpg135_0 : ou169.toInt = v59.toInt - r_65.toInt), Go p e below s Q 1 2 (Tg135.setTop (mkF m 169 #[.val (.int x0), .val (.int x1), .val (.int x2), .val (.int j4), .val (.int j13), .val (.int j23), .val (.int j33), .val (.int j44), .val (.int v59), .val (.int r_65), .val (.ref b68), .unset, .unset, .unset] [])) by
    refine Go.st (fun _ k => XS.iload Xg123.here hx rfl (hb hby at_158) rfl k) ?_
    show Go p e below s Q 1 2 (Tg123.setTop (mkF m 160 #[.val (.int x0), .val (.int x1), .val (.int x2), .val (.int j4), .val (.int j13), .val (.int j23), .val (.int j33), .val (.int j44), .val (.int v59), .val (.int r_65), .val (.ref b68), .unset, .unset, .unset] [(.int r_65)]))
    refine Go.st (fun _ k => XS.iconst Xg123.here hx rfl (hb hby at_160) k) ?_
    show Go p e below s Q 1 2 (Tg123.setTop (mkF m 161 #[.val (.int x0), .val (.int x1), .val (.int x2), .val (.int j4), .val (.int j13), .val (.int j23), .val (.int j33), .val (.int j44), .val (.int v59), .val (.int r_65), .val (.ref b68), .unset, .unset, .unset] [(.int (3 : Int32)), (.int r_65)]))
    by_cases c137 : r_65.toInt < 3
    ·
      refine Go.st (fun _ k => XS.icmpYes Xg123.here hx rfl (pc0 := 161) (pc' := 169) rfl (hb hby at_161) rfl (tlt (ltI rfl liI_3 c137)).1 (by decide) (by decide) k) ?_
      show Go p e below s Q 1 2 (Tg123.setTop (mkF m 169 #[.val (.int x0), .val (.int x1), .val (.int x2), .val (.int j4), .val (.int j13), .val (.int j23), .val (.int j33), .val (.int j44), .val (.int v59), .val (.int r_65), .val (.ref b68), .unset, .unset, .unset] []))
      exact J136 Tg123 hg123 _ (up Xg123 (by decide) (by decide)) eg123 Ng123 Kg123 ou158 hfg123_0 hfg123_1 hfg123_2 (by omega)
    ·
      refine Go.st (fun _ k => XS.icmpNo Xg123.here hx rfl (hb hby at_161) rfl (flt (nltI rfl liI_3 c137)).1 k) ?_
      show Go p e below s Q 1 2 (Tg123.setTop (mkF m 164 #[.val (.int x0), .val (.int x1), .val (.int x2), .val (.int j4), .val (.int j13), .val (.int j23), .val (.int j33), .val (.int j44), .val (.int v59), .val (.int r_65), .val (.ref b68), .unset, .unset, .unset] []))
      refine Go.st (fun _ k => XS.aload Xg123.here hx rfl (hb hby at_164) rfl rfl k) ?_
      show Go p e below s Q 1 2 (Tg123.setTop (mkF m 166 #[.val (.int x0), .val (.int x1), .val (.int x2), .val (.int j4), .val (.int j13), .val (.int j23), .val (.int j33), .val (.int j44), .val (.int v59), .val (.int r_65), .val (.ref b68), .unset, .unset, .unset] [(.ref b68)]))
      have p139 : -10 < ou158.toInt ∧ ou158.toInt < 10 := by omega
      obtain ⟨cq138, kq138, q138a, q138b, q138c⟩ := isOf hZ eg123 hfg123_0
      obtain ⟨_, _, ⟨T138, L138, k138, n138⟩, -, X138, ⟨Lc138, hQ138, l138, y138, z138⟩, st138⟩ := Xg123.virtualBack hx (y := (⟨"com/example/amqp_broker/amqpbroker/model/Prefetch", "settled", "()V"⟩ : MethodName)) (z := (⟨"com/example/amqp_broker/amqpbroker/model/Prefetch", "settled", "()V"⟩ : MethodName)) hown (mvT hZ (hw _ (List.mem_of_getElem? (i := 33) rfl))) (mvT hZ (hw _ (List.mem_of_getElem? (i := 34) rfl))) (notFace_of_selects (args := #[]) (mvT hZ (hw _ (List.mem_of_getElem? (i := 36) rfl)))) (mvT hZ (hw _ (List.mem_of_getElem? (i := 36) rfl))) (mvT hZ (hw _ (List.mem_of_getElem? (i := 35) rfl))) (by decide) (backOf (W := 0) (rm7 l Z a0 hw [] b68 j33 ou158 hg123 n0 (Nat.le_trans Z0 Kg123.1) hfg123_0 Gb68 hfg123_1 hfg123_2 p139) hZ (hw _ (List.mem_of_getElem? (i := 37) rfl)) (hw _ (List.mem_of_getElem? (i := 7) rfl)) (by decide) (by decide)) q138a q138c (g := (mkF m 166 #[.val (.int x0), .val (.int x1), .val (.int x2), .val (.int j4), .val (.int j13), .val (.int j23), .val (.int j33), .val (.int j44), .val (.int v59), .val (.int r_65), .val (.ref b68), .unset, .unset, .unset] [(.ref b68)])) rfl (by rw [hml]; rfl) (Steps.refl _) (argsL := []) (rest := []) (lenOf pd_2 rfl) rfl (by show 2 * 0 + _ ≤ _; exact Nat.le_of_eq rfl) (hb hby at_166) (fun _ _ => ⟨rfl, eg123, (by decide : 1 + 0 ≤ _), (by decide : 2 + 0 ≤ _)⟩)
      dsimp only [Pt.U, Pt.locs, Pt.cells, Pt.slots] at X138 l138 y138 z138 st138 hQ138
      subst l138 y138 z138
      obtain ⟨on_140, rfl, N138q, f141, K138q, h142, h143, h144⟩ := hQ138
      have N138 := Fr.app Ng123 N138q
      have K138 : Keep h0 T138.heap [] := Kg123.trans K138q (fun x hx => (show ∀ x ∈ ([b68] : List Addr), x ∈ ([] : List Addr) ∨ h0.size ≤ x from (allS (Or.inr szb68) all0)) x hx)
      refine Go.tr  st138 ?_
      show Go p e below s Q 1 2 (T138.setTop (mkF m 169 #[.val (.int x0), .val (.int x1), .val (.int x2), .val (.int j4), .val (.int j13), .val (.int j23), .val (.int j33), .val (.int j44), .val (.int v59), .val (.int r_65), .val (.ref b68), .unset, .unset, .unset] []))
      exact J136 T138 T138.heap _ (up X138 (by decide) (by decide)) rfl N138 K138 on_140 h142 h143 h144 (by omega)
  intro Tg135 hg135 Lgg135 Xg135 eg135 Ng135 Kg135 ou169 hfg135_0 hfg135_1 hfg135_2 hpg135_0
  have f145 := rng32 ou169
  refine Go.st (fun _ k => XS.iload Xg135.here hx rfl (hb hby at_169) rfl k) ?_
  show Go p e below s Q 1 2 (Tg135.setTop (mkF m 171 #[.val (.int x0), .val (.int x1), .val (.int x2), .val (.int j4), .val (.int j13), .val (.int j23), .val (.int j33), .val (.int j44), .val (.int v59), .val (.int r_65), .val (.ref b68), .unset, .unset, .unset] [(.int j33)]))
  refine Go.st (fun _ k => XS.istore Xg135.here hx rfl (hb hby at_171) rfl (l' := #[.val (.int x0), .val (.int x1), .val (.int x2), .val (.int j4), .val (.int j13), .val (.int j23), .val (.int j33), .val (.int j44), .val (.int v59), .val (.int r_65), .val (.ref b68), .val (.int j33), .unset, .unset]) rfl k) ?_
  show Go p e below s Q 1 2 (Tg135.setTop (mkF m 173 #[.val (.int x0), .val (.int x1), .val (.int x2), .val (.int j4), .val (.int j13), .val (.int j23), .val (.int j33), .val (.int j44), .val (.int v59), .val (.int r_65), .val (.ref b68), .val (.int j33), .unset, .unset] []))
  refine Go.st (fun _ k => XS.iload Xg135.here hx rfl (hb hby at_173) rfl k) ?_
  show Go p e below s Q 1 2 (Tg135.setTop (mkF m 175 #[.val (.int x0), .val (.int x1), .val (.int x2), .val (.int j4), .val (.int j13), .val (.int j23), .val (.int j33), .val (.int j44), .val (.int v59), .val (.int r_65), .val (.ref b68), .val (.int j33), .unset, .unset] [(.int j13)]))
  by_cases c146 : j13.toInt = 0
  ·
    refine Go.st (fun _ k => XS.ifYes Xg135.here hx rfl (pc0 := 175) (pc' := 189) rfl (hb hby at_175) rfl ((if0 _ _).trans (teq (eqI rfl liI_0 c146)).1) (by decide) (by decide) k) ?_
    show Go p e below s Q 1 2 (Tg135.setTop (mkF m 189 #[.val (.int x0), .val (.int x1), .val (.int x2), .val (.int j4), .val (.int j13), .val (.int j23), .val (.int j33), .val (.int j44), .val (.int v59), .val (.int r_65), .val (.ref b68), .val (.int j33), .unset, .unset] []))
    refine Go.st (fun _ k => XS.iload Xg135.here hx rfl (hb hby at_189) rfl k) ?_
    show Go p e below s Q 1 2 (Tg135.setTop (mkF m 191 #[.val (.int x0), .val (.int x1), .val (.int x2), .val (.int j4), .val (.int j13), .val (.int j23), .val (.int j33), .val (.int j44), .val (.int v59), .val (.int r_65), .val (.ref b68), .val (.int j33), .unset, .unset] [(.int v59)]))
    refine Go.st (fun _ k => XS.iload Xg135.here hx rfl (hb hby at_191) rfl k) ?_
    show Go p e below s Q 1 2 (Tg135.setTop (mkF m 193 #[.val (.int x0), .val (.int x1), .val (.int x2), .val (.int j4), .val (.int j13), .val (.int j23), .val (.int j33), .val (.int j44), .val (.int v59), .val (.int r_65), .val (.ref b68), .val (.int j33), .unset, .unset] [(.int r_65), (.int v59)]))
    refine Go.st (fun _ k => XS.isub Xg135.here hx rfl (hb hby at_193) rfl k) ?_
    show Go p e below s Q 1 2 (Tg135.setTop (mkF m 194 #[.val (.int x0), .val (.int x1), .val (.int x2), .val (.int j4), .val (.int j13), .val (.int j23), .val (.int j33), .val (.int j44), .val (.int v59), .val (.int r_65), .val (.ref b68), .val (.int j33), .unset, .unset] [(.int (v59 - r_65))]))
    refine Go.st (fun _ k => XS.istore Xg135.here hx rfl (hb hby at_194) rfl (l' := #[.val (.int x0), .val (.int x1), .val (.int x2), .val (.int j4), .val (.int j13), .val (.int j23), .val (.int j33), .val (.int j44), .val (.int v59), .val (.int r_65), .val (.ref b68), .val (.int j33), .val (.int (v59 - r_65)), .unset]) rfl k) ?_
    show Go p e below s Q 1 2 (Tg135.setTop (mkF m 196 #[.val (.int x0), .val (.int x1), .val (.int x2), .val (.int j4), .val (.int j13), .val (.int j23), .val (.int j33), .val (.int j44), .val (.int v59), .val (.int r_65), .val (.ref b68), .val (.int j33), .val (.int (v59 - r_65)), .unset] []))
    have f147 := c_isub v59 r_65
    have f148 := rng32 (v59 - r_65)
    generalize hv_v149 : (v59 - r_65) = v149 at f147 f148 ⊢
    refine Go.st (fun _ k => XS.iload Xg135.here hx rfl (hb hby at_196) rfl k) ?_
    show Go p e below s Q 1 2 (Tg135.setTop (mkF m 198 #[.val (.int x0), .val (.int x1), .val (.int x2), .val (.int j4), .val (.int j13), .val (.int j23), .val (.int j33), .val (.int j44), .val (.int v59), .val (.int r_65), .val (.ref b68), .val (.int j33), .val (.int v149), .unset] [(.int j33)]))
    by_cases c150 : j33.toInt = 0
    ·
      refine Go.st (fun _ k => XS.ifNo Xg135.here hx rfl (hb hby at_198) rfl ((if0 _ _).trans (teq (eqI rfl liI_0 c150)).2) k) ?_
      show Go p e below s Q 1 2 (Tg135.setTop (mkF m 201 #[.val (.int x0), .val (.int x1), .val (.int x2), .val (.int j4), .val (.int j13), .val (.int j23), .val (.int j33), .val (.int j44), .val (.int v59), .val (.int r_65), .val (.ref b68), .val (.int j33), .val (.int v149), .unset] []))
      refine Go.st (fun _ k => XS.iconst Xg135.here hx rfl (hb hby at_201) k) ?_
      show Go p e below s Q 1 2 (Tg135.setTop (mkF m 202 #[.val (.int x0), .val (.int x1), .val (.int x2), .val (.int j4), .val (.int j13), .val (.int j23), .val (.int j33), .val (.int j44), .val (.int v59), .val (.int r_65), .val (.ref b68), .val (.int j33), .val (.int v149), .unset] [(.int (1 : Int32))]))
      refine Go.st (fun _ k => XS.istore Xg135.here hx rfl (hb hby at_202) rfl (l' := #[.val (.int x0), .val (.int x1), .val (.int x2), .val (.int j4), .val (.int j13), .val (.int j23), .val (.int j33), .val (.int j44), .val (.int v59), .val (.int r_65), .val (.ref b68), .val (.int j33), .val (.int v149), .val (.int (1 : Int32))]) rfl k) ?_
      show Go p e below s Q 1 2 (Tg135.setTop (mkF m 204 #[.val (.int x0), .val (.int x1), .val (.int x2), .val (.int j4), .val (.int j13), .val (.int j23), .val (.int j33), .val (.int j44), .val (.int v59), .val (.int r_65), .val (.ref b68), .val (.int j33), .val (.int v149), .val (.int (1 : Int32))] []))
      refine Go.st (fun _ k => XS.goto Xg135.here hx rfl (pc0 := 204) (pc' := 221) rfl (hb hby at_204) (by decide) (by decide) k) ?_
      show Go p e below s Q 1 2 (Tg135.setTop (mkF m 221 #[.val (.int x0), .val (.int x1), .val (.int x2), .val (.int j4), .val (.int j13), .val (.int j23), .val (.int j33), .val (.int j44), .val (.int v59), .val (.int r_65), .val (.ref b68), .val (.int j33), .val (.int v149), .val (.int (1 : Int32))] []))
      refine Go.st (fun _ k => XS.aload Xg135.here hx rfl (hb hby at_221) rfl rfl k) ?_
      show Go p e below s Q 1 2 (Tg135.setTop (mkF m 223 #[.val (.int x0), .val (.int x1), .val (.int x2), .val (.int j4), .val (.int j13), .val (.int j23), .val (.int j33), .val (.int j44), .val (.int v59), .val (.int r_65), .val (.ref b68), .val (.int j33), .val (.int v149), .val (.int (1 : Int32))] [(.ref b68)]))
      obtain ⟨cq151, kq151, q151a, q151b, q151c⟩ := isOf hZ eg135 hfg135_0
      obtain ⟨_, _, ⟨T151, L151, k151, n151⟩, -, X151, ⟨Lc151, hQ151, l151, y151, z151⟩, st151⟩ := Xg135.virtualBack hx (y := (⟨"com/example/amqp_broker/amqpbroker/model/Prefetch", "hasRoom", "()Z"⟩ : MethodName)) (z := (⟨"com/example/amqp_broker/amqpbroker/model/Prefetch", "hasRoom", "()Z"⟩ : MethodName)) hown (mvT hZ (hw _ (List.mem_of_getElem? (i := 21) rfl))) (mvT hZ (hw _ (List.mem_of_getElem? (i := 22) rfl))) (notFace_of_selects (args := #[]) (mvT hZ (hw _ (List.mem_of_getElem? (i := 24) rfl)))) (mvT hZ (hw _ (List.mem_of_getElem? (i := 24) rfl))) (mvT hZ (hw _ (List.mem_of_getElem? (i := 23) rfl))) (by decide) (backOf (W := 0) (rm5 l Z a0 hw [] b68 j33 ou169 hg135 n0 (Nat.le_trans Z0 Kg135.1) hfg135_1 hfg135_2) hZ (hw _ (List.mem_of_getElem? (i := 25) rfl)) (hw _ (List.mem_of_getElem? (i := 7) rfl)) (by decide) (by decide)) q151a q151c (g := (mkF m 223 #[.val (.int x0), .val (.int x1), .val (.int x2), .val (.int j4), .val (.int j13), .val (.int j23), .val (.int j33), .val (.int j44), .val (.int v59), .val (.int r_65), .val (.ref b68), .val (.int j33), .val (.int v149), .val (.int (1 : Int32))] [(.ref b68)])) rfl (by rw [hml]; rfl) (Steps.refl _) (argsL := []) (rest := []) (lenOf pd_3 rfl) rfl (by show 2 * 0 + _ ≤ _; exact Nat.le_of_eq rfl) (hb hby at_223) (fun _ _ => ⟨rfl, eg135, (by decide : 1 + 0 ≤ _), (by decide : 2 + 0 ≤ _)⟩)
      dsimp only [Pt.U, Pt.locs, Pt.cells, Pt.slots] at X151 l151 y151 z151 st151 hQ151
      subst l151 y151 z151
      obtain ⟨r_152, rfl, N151q, f153, e151⟩ := hQ151
      have N151 := Fr.app Ng135 N151q
      refine Go.tr  st151 ?_
      show Go p e below s Q 1 2 (T151.setTop (mkF m 226 #[.val (.int x0), .val (.int x1), .val (.int x2), .val (.int j4), .val (.int j13), .val (.int j23), .val (.int j33), .val (.int j44), .val (.int v59), .val (.int r_65), .val (.ref b68), .val (.int j33), .val (.int v149), .val (.int (1 : Int32))] [(.int r_152)]))
      have f154 := rng32 r_152
      refine Go.st (fun _ k => XS.iload X151.here hx rfl (hb hby at_226) rfl k) ?_
      show Go p e below s Q 1 2 (T151.setTop (mkF m 228 #[.val (.int x0), .val (.int x1), .val (.int x2), .val (.int j4), .val (.int j13), .val (.int j23), .val (.int j33), .val (.int j44), .val (.int v59), .val (.int r_65), .val (.ref b68), .val (.int j33), .val (.int v149), .val (.int (1 : Int32))] [(.int (1 : Int32)), (.int r_152)]))
      have f155 := liI_1
      have c156 : r_152.toInt = 1 := by omega
      refine Go.st (fun _ k => XS.icmpNo X151.here hx rfl (hb hby at_228) rfl (teq (eqI rfl liI_1 c156)).2 k) ?_
      show Go p e below s Q 1 2 (T151.setTop (mkF m 231 #[.val (.int x0), .val (.int x1), .val (.int x2), .val (.int j4), .val (.int j13), .val (.int j23), .val (.int j33), .val (.int j44), .val (.int v59), .val (.int r_65), .val (.ref b68), .val (.int j33), .val (.int v149), .val (.int (1 : Int32))] []))
      refine Go.st (fun _ k => XS.iconst X151.here hx rfl (hb hby at_231) k) ?_
      show Go p e below s Q 1 2 (T151.setTop (mkF m 232 #[.val (.int x0), .val (.int x1), .val (.int x2), .val (.int j4), .val (.int j13), .val (.int j23), .val (.int j33), .val (.int j44), .val (.int v59), .val (.int r_65), .val (.ref b68), .val (.int j33), .val (.int v149), .val (.int (1 : Int32))] [(.int (1 : Int32))]))
      refine Go.st (fun _ k => XS.goto X151.here hx rfl (pc0 := 232) (pc' := 236) rfl (hb hby at_232) (by decide) (by decide) k) ?_
      show Go p e below s Q 1 2 (T151.setTop (mkF m 236 #[.val (.int x0), .val (.int x1), .val (.int x2), .val (.int j4), .val (.int j13), .val (.int j23), .val (.int j33), .val (.int j44), .val (.int v59), .val (.int r_65), .val (.ref b68), .val (.int j33), .val (.int v149), .val (.int (1 : Int32))] [(.int (1 : Int32))]))
      exact Go.retN X151 hx hlk (by simp) Bd.returns (hb hby at_236) (z' := (1 : Int32)) (by decide) (by rw [← hQ, e151]; exact ⟨rfl, N151, Kg135⟩) (by decide) (by decide)
    ·
      refine Go.st (fun _ k => XS.ifYes Xg135.here hx rfl (pc0 := 198) (pc' := 207) rfl (hb hby at_198) rfl ((if0 _ _).trans (feq (neI rfl liI_0 c150)).2) (by decide) (by decide) k) ?_
      show Go p e below s Q 1 2 (Tg135.setTop (mkF m 207 #[.val (.int x0), .val (.int x1), .val (.int x2), .val (.int j4), .val (.int j13), .val (.int j23), .val (.int j33), .val (.int j44), .val (.int v59), .val (.int r_65), .val (.ref b68), .val (.int j33), .val (.int v149), .unset] []))
      refine Go.st (fun _ k => XS.iload Xg135.here hx rfl (hb hby at_207) rfl k) ?_
      show Go p e below s Q 1 2 (Tg135.setTop (mkF m 209 #[.val (.int x0), .val (.int x1), .val (.int x2), .val (.int j4), .val (.int j13), .val (.int j23), .val (.int j33), .val (.int j44), .val (.int v59), .val (.int r_65), .val (.ref b68), .val (.int j33), .val (.int v149), .unset] [(.int v149)]))
      refine Go.st (fun _ k => XS.iload Xg135.here hx rfl (hb hby at_209) rfl k) ?_
      show Go p e below s Q 1 2 (Tg135.setTop (mkF m 211 #[.val (.int x0), .val (.int x1), .val (.int x2), .val (.int j4), .val (.int j13), .val (.int j23), .val (.int j33), .val (.int j44), .val (.int v59), .val (.int r_65), .val (.ref b68), .val (.int j33), .val (.int v149), .unset] [(.int j33), (.int v149)]))
      by_cases c157 : v149.toInt < j33.toInt
      ·
        refine Go.st (fun _ k => XS.icmpNo Xg135.here hx rfl (hb hby at_211) rfl (tlt (ltI rfl rfl c157)).2.1 k) ?_
        show Go p e below s Q 1 2 (Tg135.setTop (mkF m 214 #[.val (.int x0), .val (.int x1), .val (.int x2), .val (.int j4), .val (.int j13), .val (.int j23), .val (.int j33), .val (.int j44), .val (.int v59), .val (.int r_65), .val (.ref b68), .val (.int j33), .val (.int v149), .unset] []))
        refine Go.st (fun _ k => XS.iconst Xg135.here hx rfl (hb hby at_214) k) ?_
        show Go p e below s Q 1 2 (Tg135.setTop (mkF m 215 #[.val (.int x0), .val (.int x1), .val (.int x2), .val (.int j4), .val (.int j13), .val (.int j23), .val (.int j33), .val (.int j44), .val (.int v59), .val (.int r_65), .val (.ref b68), .val (.int j33), .val (.int v149), .unset] [(.int (1 : Int32))]))
        refine Go.st (fun _ k => XS.goto Xg135.here hx rfl (pc0 := 215) (pc' := 219) rfl (hb hby at_215) (by decide) (by decide) k) ?_
        show Go p e below s Q 1 2 (Tg135.setTop (mkF m 219 #[.val (.int x0), .val (.int x1), .val (.int x2), .val (.int j4), .val (.int j13), .val (.int j23), .val (.int j33), .val (.int j44), .val (.int v59), .val (.int r_65), .val (.ref b68), .val (.int j33), .val (.int v149), .unset] [(.int (1 : Int32))]))
        refine Go.st (fun _ k => XS.istore Xg135.here hx rfl (hb hby at_219) rfl (l' := #[.val (.int x0), .val (.int x1), .val (.int x2), .val (.int j4), .val (.int j13), .val (.int j23), .val (.int j33), .val (.int j44), .val (.int v59), .val (.int r_65), .val (.ref b68), .val (.int j33), .val (.int v149), .val (.int (1 : Int32))]) rfl k) ?_
        show Go p e below s Q 1 2 (Tg135.setTop (mkF m 221 #[.val (.int x0), .val (.int x1), .val (.int x2), .val (.int j4), .val (.int j13), .val (.int j23), .val (.int j33), .val (.int j44), .val (.int v59), .val (.int r_65), .val (.ref b68), .val (.int j33), .val (.int v149), .val (.int (1 : Int32))] []))
        refine Go.st (fun _ k => XS.aload Xg135.here hx rfl (hb hby at_221) rfl rfl k) ?_
        show Go p e below s Q 1 2 (Tg135.setTop (mkF m 223 #[.val (.int x0), .val (.int x1), .val (.int x2), .val (.int j4), .val (.int j13), .val (.int j23), .val (.int j33), .val (.int j44), .val (.int v59), .val (.int r_65), .val (.ref b68), .val (.int j33), .val (.int v149), .val (.int (1 : Int32))] [(.ref b68)]))
        obtain ⟨cq158, kq158, q158a, q158b, q158c⟩ := isOf hZ eg135 hfg135_0
        obtain ⟨_, _, ⟨T158, L158, k158, n158⟩, -, X158, ⟨Lc158, hQ158, l158, y158, z158⟩, st158⟩ := Xg135.virtualBack hx (y := (⟨"com/example/amqp_broker/amqpbroker/model/Prefetch", "hasRoom", "()Z"⟩ : MethodName)) (z := (⟨"com/example/amqp_broker/amqpbroker/model/Prefetch", "hasRoom", "()Z"⟩ : MethodName)) hown (mvT hZ (hw _ (List.mem_of_getElem? (i := 21) rfl))) (mvT hZ (hw _ (List.mem_of_getElem? (i := 22) rfl))) (notFace_of_selects (args := #[]) (mvT hZ (hw _ (List.mem_of_getElem? (i := 24) rfl)))) (mvT hZ (hw _ (List.mem_of_getElem? (i := 24) rfl))) (mvT hZ (hw _ (List.mem_of_getElem? (i := 23) rfl))) (by decide) (backOf (W := 0) (rm5 l Z a0 hw [] b68 j33 ou169 hg135 n0 (Nat.le_trans Z0 Kg135.1) hfg135_1 hfg135_2) hZ (hw _ (List.mem_of_getElem? (i := 25) rfl)) (hw _ (List.mem_of_getElem? (i := 7) rfl)) (by decide) (by decide)) q158a q158c (g := (mkF m 223 #[.val (.int x0), .val (.int x1), .val (.int x2), .val (.int j4), .val (.int j13), .val (.int j23), .val (.int j33), .val (.int j44), .val (.int v59), .val (.int r_65), .val (.ref b68), .val (.int j33), .val (.int v149), .val (.int (1 : Int32))] [(.ref b68)])) rfl (by rw [hml]; rfl) (Steps.refl _) (argsL := []) (rest := []) (lenOf pd_3 rfl) rfl (by show 2 * 0 + _ ≤ _; exact Nat.le_of_eq rfl) (hb hby at_223) (fun _ _ => ⟨rfl, eg135, (by decide : 1 + 0 ≤ _), (by decide : 2 + 0 ≤ _)⟩)
        dsimp only [Pt.U, Pt.locs, Pt.cells, Pt.slots] at X158 l158 y158 z158 st158 hQ158
        subst l158 y158 z158
        obtain ⟨r_159, rfl, N158q, f160, e158⟩ := hQ158
        have N158 := Fr.app Ng135 N158q
        refine Go.tr  st158 ?_
        show Go p e below s Q 1 2 (T158.setTop (mkF m 226 #[.val (.int x0), .val (.int x1), .val (.int x2), .val (.int j4), .val (.int j13), .val (.int j23), .val (.int j33), .val (.int j44), .val (.int v59), .val (.int r_65), .val (.ref b68), .val (.int j33), .val (.int v149), .val (.int (1 : Int32))] [(.int r_159)]))
        have f161 := rng32 r_159
        refine Go.st (fun _ k => XS.iload X158.here hx rfl (hb hby at_226) rfl k) ?_
        show Go p e below s Q 1 2 (T158.setTop (mkF m 228 #[.val (.int x0), .val (.int x1), .val (.int x2), .val (.int j4), .val (.int j13), .val (.int j23), .val (.int j33), .val (.int j44), .val (.int v59), .val (.int r_65), .val (.ref b68), .val (.int j33), .val (.int v149), .val (.int (1 : Int32))] [(.int (1 : Int32)), (.int r_159)]))
        have f162 := liI_1
        have c163 : r_159.toInt = 1 := by omega
        refine Go.st (fun _ k => XS.icmpNo X158.here hx rfl (hb hby at_228) rfl (teq (eqI rfl liI_1 c163)).2 k) ?_
        show Go p e below s Q 1 2 (T158.setTop (mkF m 231 #[.val (.int x0), .val (.int x1), .val (.int x2), .val (.int j4), .val (.int j13), .val (.int j23), .val (.int j33), .val (.int j44), .val (.int v59), .val (.int r_65), .val (.ref b68), .val (.int j33), .val (.int v149), .val (.int (1 : Int32))] []))
        refine Go.st (fun _ k => XS.iconst X158.here hx rfl (hb hby at_231) k) ?_
        show Go p e below s Q 1 2 (T158.setTop (mkF m 232 #[.val (.int x0), .val (.int x1), .val (.int x2), .val (.int j4), .val (.int j13), .val (.int j23), .val (.int j33), .val (.int j44), .val (.int v59), .val (.int r_65), .val (.ref b68), .val (.int j33), .val (.int v149), .val (.int (1 : Int32))] [(.int (1 : Int32))]))
        refine Go.st (fun _ k => XS.goto X158.here hx rfl (pc0 := 232) (pc' := 236) rfl (hb hby at_232) (by decide) (by decide) k) ?_
        show Go p e below s Q 1 2 (T158.setTop (mkF m 236 #[.val (.int x0), .val (.int x1), .val (.int x2), .val (.int j4), .val (.int j13), .val (.int j23), .val (.int j33), .val (.int j44), .val (.int v59), .val (.int r_65), .val (.ref b68), .val (.int j33), .val (.int v149), .val (.int (1 : Int32))] [(.int (1 : Int32))]))
        exact Go.retN X158 hx hlk (by simp) Bd.returns (hb hby at_236) (z' := (1 : Int32)) (by decide) (by rw [← hQ, e158]; exact ⟨rfl, N158, Kg135⟩) (by decide) (by decide)
      ·
        refine Go.st (fun _ k => XS.icmpYes Xg135.here hx rfl (pc0 := 211) (pc' := 218) rfl (hb hby at_211) rfl (flt (nltI rfl rfl c157)).2.1 (by decide) (by decide) k) ?_
        show Go p e below s Q 1 2 (Tg135.setTop (mkF m 218 #[.val (.int x0), .val (.int x1), .val (.int x2), .val (.int j4), .val (.int j13), .val (.int j23), .val (.int j33), .val (.int j44), .val (.int v59), .val (.int r_65), .val (.ref b68), .val (.int j33), .val (.int v149), .unset] []))
        refine Go.st (fun _ k => XS.iconst Xg135.here hx rfl (hb hby at_218) k) ?_
        show Go p e below s Q 1 2 (Tg135.setTop (mkF m 219 #[.val (.int x0), .val (.int x1), .val (.int x2), .val (.int j4), .val (.int j13), .val (.int j23), .val (.int j33), .val (.int j44), .val (.int v59), .val (.int r_65), .val (.ref b68), .val (.int j33), .val (.int v149), .unset] [(.int (0 : Int32))]))
        refine Go.st (fun _ k => XS.istore Xg135.here hx rfl (hb hby at_219) rfl (l' := #[.val (.int x0), .val (.int x1), .val (.int x2), .val (.int j4), .val (.int j13), .val (.int j23), .val (.int j33), .val (.int j44), .val (.int v59), .val (.int r_65), .val (.ref b68), .val (.int j33), .val (.int v149), .val (.int (0 : Int32))]) rfl k) ?_
        show Go p e below s Q 1 2 (Tg135.setTop (mkF m 221 #[.val (.int x0), .val (.int x1), .val (.int x2), .val (.int j4), .val (.int j13), .val (.int j23), .val (.int j33), .val (.int j44), .val (.int v59), .val (.int r_65), .val (.ref b68), .val (.int j33), .val (.int v149), .val (.int (0 : Int32))] []))
        refine Go.st (fun _ k => XS.aload Xg135.here hx rfl (hb hby at_221) rfl rfl k) ?_
        show Go p e below s Q 1 2 (Tg135.setTop (mkF m 223 #[.val (.int x0), .val (.int x1), .val (.int x2), .val (.int j4), .val (.int j13), .val (.int j23), .val (.int j33), .val (.int j44), .val (.int v59), .val (.int r_65), .val (.ref b68), .val (.int j33), .val (.int v149), .val (.int (0 : Int32))] [(.ref b68)]))
        obtain ⟨cq164, kq164, q164a, q164b, q164c⟩ := isOf hZ eg135 hfg135_0
        obtain ⟨_, _, ⟨T164, L164, k164, n164⟩, -, X164, ⟨Lc164, hQ164, l164, y164, z164⟩, st164⟩ := Xg135.virtualBack hx (y := (⟨"com/example/amqp_broker/amqpbroker/model/Prefetch", "hasRoom", "()Z"⟩ : MethodName)) (z := (⟨"com/example/amqp_broker/amqpbroker/model/Prefetch", "hasRoom", "()Z"⟩ : MethodName)) hown (mvT hZ (hw _ (List.mem_of_getElem? (i := 21) rfl))) (mvT hZ (hw _ (List.mem_of_getElem? (i := 22) rfl))) (notFace_of_selects (args := #[]) (mvT hZ (hw _ (List.mem_of_getElem? (i := 24) rfl)))) (mvT hZ (hw _ (List.mem_of_getElem? (i := 24) rfl))) (mvT hZ (hw _ (List.mem_of_getElem? (i := 23) rfl))) (by decide) (backOf (W := 0) (rm5 l Z a0 hw [] b68 j33 ou169 hg135 n0 (Nat.le_trans Z0 Kg135.1) hfg135_1 hfg135_2) hZ (hw _ (List.mem_of_getElem? (i := 25) rfl)) (hw _ (List.mem_of_getElem? (i := 7) rfl)) (by decide) (by decide)) q164a q164c (g := (mkF m 223 #[.val (.int x0), .val (.int x1), .val (.int x2), .val (.int j4), .val (.int j13), .val (.int j23), .val (.int j33), .val (.int j44), .val (.int v59), .val (.int r_65), .val (.ref b68), .val (.int j33), .val (.int v149), .val (.int (0 : Int32))] [(.ref b68)])) rfl (by rw [hml]; rfl) (Steps.refl _) (argsL := []) (rest := []) (lenOf pd_3 rfl) rfl (by show 2 * 0 + _ ≤ _; exact Nat.le_of_eq rfl) (hb hby at_223) (fun _ _ => ⟨rfl, eg135, (by decide : 1 + 0 ≤ _), (by decide : 2 + 0 ≤ _)⟩)
        dsimp only [Pt.U, Pt.locs, Pt.cells, Pt.slots] at X164 l164 y164 z164 st164 hQ164
        subst l164 y164 z164
        obtain ⟨r_165, rfl, N164q, f166, e164⟩ := hQ164
        have N164 := Fr.app Ng135 N164q
        refine Go.tr  st164 ?_
        show Go p e below s Q 1 2 (T164.setTop (mkF m 226 #[.val (.int x0), .val (.int x1), .val (.int x2), .val (.int j4), .val (.int j13), .val (.int j23), .val (.int j33), .val (.int j44), .val (.int v59), .val (.int r_65), .val (.ref b68), .val (.int j33), .val (.int v149), .val (.int (0 : Int32))] [(.int r_165)]))
        have f167 := rng32 r_165
        refine Go.st (fun _ k => XS.iload X164.here hx rfl (hb hby at_226) rfl k) ?_
        show Go p e below s Q 1 2 (T164.setTop (mkF m 228 #[.val (.int x0), .val (.int x1), .val (.int x2), .val (.int j4), .val (.int j13), .val (.int j23), .val (.int j33), .val (.int j44), .val (.int v59), .val (.int r_65), .val (.ref b68), .val (.int j33), .val (.int v149), .val (.int (0 : Int32))] [(.int (0 : Int32)), (.int r_165)]))
        have c168 : r_165.toInt = 0 := by omega
        refine Go.st (fun _ k => XS.icmpNo X164.here hx rfl (hb hby at_228) rfl (teq (eqI rfl liI_0 c168)).2 k) ?_
        show Go p e below s Q 1 2 (T164.setTop (mkF m 231 #[.val (.int x0), .val (.int x1), .val (.int x2), .val (.int j4), .val (.int j13), .val (.int j23), .val (.int j33), .val (.int j44), .val (.int v59), .val (.int r_65), .val (.ref b68), .val (.int j33), .val (.int v149), .val (.int (0 : Int32))] []))
        refine Go.st (fun _ k => XS.iconst X164.here hx rfl (hb hby at_231) k) ?_
        show Go p e below s Q 1 2 (T164.setTop (mkF m 232 #[.val (.int x0), .val (.int x1), .val (.int x2), .val (.int j4), .val (.int j13), .val (.int j23), .val (.int j33), .val (.int j44), .val (.int v59), .val (.int r_65), .val (.ref b68), .val (.int j33), .val (.int v149), .val (.int (0 : Int32))] [(.int (1 : Int32))]))
        refine Go.st (fun _ k => XS.goto X164.here hx rfl (pc0 := 232) (pc' := 236) rfl (hb hby at_232) (by decide) (by decide) k) ?_
        show Go p e below s Q 1 2 (T164.setTop (mkF m 236 #[.val (.int x0), .val (.int x1), .val (.int x2), .val (.int j4), .val (.int j13), .val (.int j23), .val (.int j33), .val (.int j44), .val (.int v59), .val (.int r_65), .val (.ref b68), .val (.int j33), .val (.int v149), .val (.int (0 : Int32))] [(.int (1 : Int32))]))
        have f169 := liI_1
        exact Go.retN X164 hx hlk (by simp) Bd.returns (hb hby at_236) (z' := (1 : Int32)) (by decide) (by rw [← hQ, e164]; exact ⟨rfl, N164, Kg135⟩) (by decide) (by decide)
  ·
    refine Go.st (fun _ k => XS.ifNo Xg135.here hx rfl (hb hby at_175) rfl ((if0 _ _).trans (feq (neI rfl liI_0 c146)).1) k) ?_
    show Go p e below s Q 1 2 (Tg135.setTop (mkF m 178 #[.val (.int x0), .val (.int x1), .val (.int x2), .val (.int j4), .val (.int j13), .val (.int j23), .val (.int j33), .val (.int j44), .val (.int v59), .val (.int r_65), .val (.ref b68), .val (.int j33), .unset, .unset] []))
    refine Go.st (fun _ k => XS.aload Xg135.here hx rfl (hb hby at_178) rfl rfl k) ?_
    show Go p e below s Q 1 2 (Tg135.setTop (mkF m 180 #[.val (.int x0), .val (.int x1), .val (.int x2), .val (.int j4), .val (.int j13), .val (.int j23), .val (.int j33), .val (.int j44), .val (.int v59), .val (.int r_65), .val (.ref b68), .val (.int j33), .unset, .unset] [(.ref b68)]))
    refine Go.st (fun _ k => XS.iload Xg135.here hx rfl (hb hby at_180) rfl k) ?_
    show Go p e below s Q 1 2 (Tg135.setTop (mkF m 182 #[.val (.int x0), .val (.int x1), .val (.int x2), .val (.int j4), .val (.int j13), .val (.int j23), .val (.int j33), .val (.int j44), .val (.int v59), .val (.int r_65), .val (.ref b68), .val (.int j33), .unset, .unset] [(.int j44), (.ref b68)]))
    obtain ⟨cq170, kq170, q170a, q170b, q170c⟩ := isOf hZ eg135 hfg135_0
    obtain ⟨_, _, ⟨T170, L170, k170, n170⟩, -, X170, ⟨Lc170, hQ170, l170, y170, z170⟩, st170⟩ := Xg135.virtualBack hx (y := (⟨"com/example/amqp_broker/amqpbroker/model/Prefetch", "setLimit", "(I)V"⟩ : MethodName)) (z := (⟨"com/example/amqp_broker/amqpbroker/model/Prefetch", "setLimit", "(I)V"⟩ : MethodName)) hown (mvT hZ (hw _ (List.mem_of_getElem? (i := 16) rfl))) (mvT hZ (hw _ (List.mem_of_getElem? (i := 17) rfl))) (notFace_of_selects (args := #[]) (mvT hZ (hw _ (List.mem_of_getElem? (i := 19) rfl)))) (mvT hZ (hw _ (List.mem_of_getElem? (i := 19) rfl))) (mvT hZ (hw _ (List.mem_of_getElem? (i := 18) rfl))) (by decide) (backOf (W := 0) (rm4 l Z a0 hw [] b68 j44 j33 ou169 hg135 n0 (Nat.le_trans Z0 Kg135.1) hfg135_0 Gb68 hfg135_1 hfg135_2) hZ (hw _ (List.mem_of_getElem? (i := 20) rfl)) (hw _ (List.mem_of_getElem? (i := 7) rfl)) (by decide) (by decide)) q170a q170c (g := (mkF m 182 #[.val (.int x0), .val (.int x1), .val (.int x2), .val (.int j4), .val (.int j13), .val (.int j23), .val (.int j33), .val (.int j44), .val (.int v59), .val (.int r_65), .val (.ref b68), .val (.int j33), .unset, .unset] [(.int j44), (.ref b68)])) rfl (by rw [hml]; rfl) (Steps.refl _) (argsL := [(.int j44)]) (rest := []) (lenOf pd_1 rfl) rfl (by show 2 * 0 + _ ≤ _; exact Nat.le_of_eq rfl) (hb hby at_182) (fun _ _ => ⟨rfl, eg135, (by decide : 1 + 0 ≤ _), (by decide : 2 + 0 ≤ _)⟩)
    dsimp only [Pt.U, Pt.locs, Pt.cells, Pt.slots] at X170 l170 y170 z170 st170 hQ170
    subst l170 y170 z170
    obtain ⟨rfl, N170q, K170q, h171, h172, h173⟩ := hQ170
    have N170 := Fr.app Ng135 N170q
    have K170 : Keep h0 T170.heap [] := Kg135.trans K170q (fun x hx => (show ∀ x ∈ ([b68] : List Addr), x ∈ ([] : List Addr) ∨ h0.size ≤ x from (allS (Or.inr szb68) all0)) x hx)
    refine Go.tr  st170 ?_
    show Go p e below s Q 1 2 (T170.setTop (mkF m 185 #[.val (.int x0), .val (.int x1), .val (.int x2), .val (.int j4), .val (.int j13), .val (.int j23), .val (.int j33), .val (.int j44), .val (.int v59), .val (.int r_65), .val (.ref b68), .val (.int j33), .unset, .unset] []))
    refine Go.st (fun _ k => XS.iload X170.here hx rfl (hb hby at_185) rfl k) ?_
    show Go p e below s Q 1 2 (T170.setTop (mkF m 187 #[.val (.int x0), .val (.int x1), .val (.int x2), .val (.int j4), .val (.int j13), .val (.int j23), .val (.int j33), .val (.int j44), .val (.int v59), .val (.int r_65), .val (.ref b68), .val (.int j33), .unset, .unset] [(.int j44)]))
    refine Go.st (fun _ k => XS.istore X170.here hx rfl (hb hby at_187) rfl (l' := #[.val (.int x0), .val (.int x1), .val (.int x2), .val (.int j4), .val (.int j13), .val (.int j23), .val (.int j33), .val (.int j44), .val (.int v59), .val (.int r_65), .val (.ref b68), .val (.int j44), .unset, .unset]) rfl k) ?_
    show Go p e below s Q 1 2 (T170.setTop (mkF m 189 #[.val (.int x0), .val (.int x1), .val (.int x2), .val (.int j4), .val (.int j13), .val (.int j23), .val (.int j33), .val (.int j44), .val (.int v59), .val (.int r_65), .val (.ref b68), .val (.int j44), .unset, .unset] []))
    refine Go.st (fun _ k => XS.iload X170.here hx rfl (hb hby at_189) rfl k) ?_
    show Go p e below s Q 1 2 (T170.setTop (mkF m 191 #[.val (.int x0), .val (.int x1), .val (.int x2), .val (.int j4), .val (.int j13), .val (.int j23), .val (.int j33), .val (.int j44), .val (.int v59), .val (.int r_65), .val (.ref b68), .val (.int j44), .unset, .unset] [(.int v59)]))
    refine Go.st (fun _ k => XS.iload X170.here hx rfl (hb hby at_191) rfl k) ?_
    show Go p e below s Q 1 2 (T170.setTop (mkF m 193 #[.val (.int x0), .val (.int x1), .val (.int x2), .val (.int j4), .val (.int j13), .val (.int j23), .val (.int j33), .val (.int j44), .val (.int v59), .val (.int r_65), .val (.ref b68), .val (.int j44), .unset, .unset] [(.int r_65), (.int v59)]))
    refine Go.st (fun _ k => XS.isub X170.here hx rfl (hb hby at_193) rfl k) ?_
    show Go p e below s Q 1 2 (T170.setTop (mkF m 194 #[.val (.int x0), .val (.int x1), .val (.int x2), .val (.int j4), .val (.int j13), .val (.int j23), .val (.int j33), .val (.int j44), .val (.int v59), .val (.int r_65), .val (.ref b68), .val (.int j44), .unset, .unset] [(.int (v59 - r_65))]))
    refine Go.st (fun _ k => XS.istore X170.here hx rfl (hb hby at_194) rfl (l' := #[.val (.int x0), .val (.int x1), .val (.int x2), .val (.int j4), .val (.int j13), .val (.int j23), .val (.int j33), .val (.int j44), .val (.int v59), .val (.int r_65), .val (.ref b68), .val (.int j44), .val (.int (v59 - r_65)), .unset]) rfl k) ?_
    show Go p e below s Q 1 2 (T170.setTop (mkF m 196 #[.val (.int x0), .val (.int x1), .val (.int x2), .val (.int j4), .val (.int j13), .val (.int j23), .val (.int j33), .val (.int j44), .val (.int v59), .val (.int r_65), .val (.ref b68), .val (.int j44), .val (.int (v59 - r_65)), .unset] []))
    have f174 := c_isub v59 r_65
    have f175 := rng32 (v59 - r_65)
    generalize hv_v176 : (v59 - r_65) = v176 at f174 f175 ⊢
    refine Go.st (fun _ k => XS.iload X170.here hx rfl (hb hby at_196) rfl k) ?_
    show Go p e below s Q 1 2 (T170.setTop (mkF m 198 #[.val (.int x0), .val (.int x1), .val (.int x2), .val (.int j4), .val (.int j13), .val (.int j23), .val (.int j33), .val (.int j44), .val (.int v59), .val (.int r_65), .val (.ref b68), .val (.int j44), .val (.int v176), .unset] [(.int j44)]))
    by_cases c177 : j44.toInt = 0
    ·
      refine Go.st (fun _ k => XS.ifNo X170.here hx rfl (hb hby at_198) rfl ((if0 _ _).trans (teq (eqI rfl liI_0 c177)).2) k) ?_
      show Go p e below s Q 1 2 (T170.setTop (mkF m 201 #[.val (.int x0), .val (.int x1), .val (.int x2), .val (.int j4), .val (.int j13), .val (.int j23), .val (.int j33), .val (.int j44), .val (.int v59), .val (.int r_65), .val (.ref b68), .val (.int j44), .val (.int v176), .unset] []))
      refine Go.st (fun _ k => XS.iconst X170.here hx rfl (hb hby at_201) k) ?_
      show Go p e below s Q 1 2 (T170.setTop (mkF m 202 #[.val (.int x0), .val (.int x1), .val (.int x2), .val (.int j4), .val (.int j13), .val (.int j23), .val (.int j33), .val (.int j44), .val (.int v59), .val (.int r_65), .val (.ref b68), .val (.int j44), .val (.int v176), .unset] [(.int (1 : Int32))]))
      refine Go.st (fun _ k => XS.istore X170.here hx rfl (hb hby at_202) rfl (l' := #[.val (.int x0), .val (.int x1), .val (.int x2), .val (.int j4), .val (.int j13), .val (.int j23), .val (.int j33), .val (.int j44), .val (.int v59), .val (.int r_65), .val (.ref b68), .val (.int j44), .val (.int v176), .val (.int (1 : Int32))]) rfl k) ?_
      show Go p e below s Q 1 2 (T170.setTop (mkF m 204 #[.val (.int x0), .val (.int x1), .val (.int x2), .val (.int j4), .val (.int j13), .val (.int j23), .val (.int j33), .val (.int j44), .val (.int v59), .val (.int r_65), .val (.ref b68), .val (.int j44), .val (.int v176), .val (.int (1 : Int32))] []))
      refine Go.st (fun _ k => XS.goto X170.here hx rfl (pc0 := 204) (pc' := 221) rfl (hb hby at_204) (by decide) (by decide) k) ?_
      show Go p e below s Q 1 2 (T170.setTop (mkF m 221 #[.val (.int x0), .val (.int x1), .val (.int x2), .val (.int j4), .val (.int j13), .val (.int j23), .val (.int j33), .val (.int j44), .val (.int v59), .val (.int r_65), .val (.ref b68), .val (.int j44), .val (.int v176), .val (.int (1 : Int32))] []))
      refine Go.st (fun _ k => XS.aload X170.here hx rfl (hb hby at_221) rfl rfl k) ?_
      show Go p e below s Q 1 2 (T170.setTop (mkF m 223 #[.val (.int x0), .val (.int x1), .val (.int x2), .val (.int j4), .val (.int j13), .val (.int j23), .val (.int j33), .val (.int j44), .val (.int v59), .val (.int r_65), .val (.ref b68), .val (.int j44), .val (.int v176), .val (.int (1 : Int32))] [(.ref b68)]))
      obtain ⟨cq178, kq178, q178a, q178b, q178c⟩ := isOf hZ rfl h171
      obtain ⟨_, _, ⟨T178, L178, k178, n178⟩, -, X178, ⟨Lc178, hQ178, l178, y178, z178⟩, st178⟩ := X170.virtualBack hx (y := (⟨"com/example/amqp_broker/amqpbroker/model/Prefetch", "hasRoom", "()Z"⟩ : MethodName)) (z := (⟨"com/example/amqp_broker/amqpbroker/model/Prefetch", "hasRoom", "()Z"⟩ : MethodName)) hown (mvT hZ (hw _ (List.mem_of_getElem? (i := 21) rfl))) (mvT hZ (hw _ (List.mem_of_getElem? (i := 22) rfl))) (notFace_of_selects (args := #[]) (mvT hZ (hw _ (List.mem_of_getElem? (i := 24) rfl)))) (mvT hZ (hw _ (List.mem_of_getElem? (i := 24) rfl))) (mvT hZ (hw _ (List.mem_of_getElem? (i := 23) rfl))) (by decide) (backOf (W := 0) (rm5 l Z a0 hw [] b68 j44 ou169 T170.heap n0 (Nat.le_trans Z0 K170.1) h172 h173) hZ (hw _ (List.mem_of_getElem? (i := 25) rfl)) (hw _ (List.mem_of_getElem? (i := 7) rfl)) (by decide) (by decide)) q178a q178c (g := (mkF m 223 #[.val (.int x0), .val (.int x1), .val (.int x2), .val (.int j4), .val (.int j13), .val (.int j23), .val (.int j33), .val (.int j44), .val (.int v59), .val (.int r_65), .val (.ref b68), .val (.int j44), .val (.int v176), .val (.int (1 : Int32))] [(.ref b68)])) rfl (by rw [hml]; rfl) (Steps.refl _) (argsL := []) (rest := []) (lenOf pd_3 rfl) rfl (by show 2 * 0 + _ ≤ _; exact Nat.le_of_eq rfl) (hb hby at_223) (fun _ _ => ⟨rfl, rfl, (by decide : 1 + 0 ≤ _), (by decide : 2 + 0 ≤ _)⟩)
      dsimp only [Pt.U, Pt.locs, Pt.cells, Pt.slots] at X178 l178 y178 z178 st178 hQ178
      subst l178 y178 z178
      obtain ⟨r_179, rfl, N178q, f180, e178⟩ := hQ178
      have N178 := Fr.app N170 N178q
      refine Go.tr  st178 ?_
      show Go p e below s Q 1 2 (T178.setTop (mkF m 226 #[.val (.int x0), .val (.int x1), .val (.int x2), .val (.int j4), .val (.int j13), .val (.int j23), .val (.int j33), .val (.int j44), .val (.int v59), .val (.int r_65), .val (.ref b68), .val (.int j44), .val (.int v176), .val (.int (1 : Int32))] [(.int r_179)]))
      have f181 := rng32 r_179
      refine Go.st (fun _ k => XS.iload X178.here hx rfl (hb hby at_226) rfl k) ?_
      show Go p e below s Q 1 2 (T178.setTop (mkF m 228 #[.val (.int x0), .val (.int x1), .val (.int x2), .val (.int j4), .val (.int j13), .val (.int j23), .val (.int j33), .val (.int j44), .val (.int v59), .val (.int r_65), .val (.ref b68), .val (.int j44), .val (.int v176), .val (.int (1 : Int32))] [(.int (1 : Int32)), (.int r_179)]))
      have f182 := liI_1
      have c183 : r_179.toInt = 1 := by omega
      refine Go.st (fun _ k => XS.icmpNo X178.here hx rfl (hb hby at_228) rfl (teq (eqI rfl liI_1 c183)).2 k) ?_
      show Go p e below s Q 1 2 (T178.setTop (mkF m 231 #[.val (.int x0), .val (.int x1), .val (.int x2), .val (.int j4), .val (.int j13), .val (.int j23), .val (.int j33), .val (.int j44), .val (.int v59), .val (.int r_65), .val (.ref b68), .val (.int j44), .val (.int v176), .val (.int (1 : Int32))] []))
      refine Go.st (fun _ k => XS.iconst X178.here hx rfl (hb hby at_231) k) ?_
      show Go p e below s Q 1 2 (T178.setTop (mkF m 232 #[.val (.int x0), .val (.int x1), .val (.int x2), .val (.int j4), .val (.int j13), .val (.int j23), .val (.int j33), .val (.int j44), .val (.int v59), .val (.int r_65), .val (.ref b68), .val (.int j44), .val (.int v176), .val (.int (1 : Int32))] [(.int (1 : Int32))]))
      refine Go.st (fun _ k => XS.goto X178.here hx rfl (pc0 := 232) (pc' := 236) rfl (hb hby at_232) (by decide) (by decide) k) ?_
      show Go p e below s Q 1 2 (T178.setTop (mkF m 236 #[.val (.int x0), .val (.int x1), .val (.int x2), .val (.int j4), .val (.int j13), .val (.int j23), .val (.int j33), .val (.int j44), .val (.int v59), .val (.int r_65), .val (.ref b68), .val (.int j44), .val (.int v176), .val (.int (1 : Int32))] [(.int (1 : Int32))]))
      exact Go.retN X178 hx hlk (by simp) Bd.returns (hb hby at_236) (z' := (1 : Int32)) (by decide) (by rw [← hQ, e178]; exact ⟨rfl, N178, K170⟩) (by decide) (by decide)
    ·
      refine Go.st (fun _ k => XS.ifYes X170.here hx rfl (pc0 := 198) (pc' := 207) rfl (hb hby at_198) rfl ((if0 _ _).trans (feq (neI rfl liI_0 c177)).2) (by decide) (by decide) k) ?_
      show Go p e below s Q 1 2 (T170.setTop (mkF m 207 #[.val (.int x0), .val (.int x1), .val (.int x2), .val (.int j4), .val (.int j13), .val (.int j23), .val (.int j33), .val (.int j44), .val (.int v59), .val (.int r_65), .val (.ref b68), .val (.int j44), .val (.int v176), .unset] []))
      refine Go.st (fun _ k => XS.iload X170.here hx rfl (hb hby at_207) rfl k) ?_
      show Go p e below s Q 1 2 (T170.setTop (mkF m 209 #[.val (.int x0), .val (.int x1), .val (.int x2), .val (.int j4), .val (.int j13), .val (.int j23), .val (.int j33), .val (.int j44), .val (.int v59), .val (.int r_65), .val (.ref b68), .val (.int j44), .val (.int v176), .unset] [(.int v176)]))
      refine Go.st (fun _ k => XS.iload X170.here hx rfl (hb hby at_209) rfl k) ?_
      show Go p e below s Q 1 2 (T170.setTop (mkF m 211 #[.val (.int x0), .val (.int x1), .val (.int x2), .val (.int j4), .val (.int j13), .val (.int j23), .val (.int j33), .val (.int j44), .val (.int v59), .val (.int r_65), .val (.ref b68), .val (.int j44), .val (.int v176), .unset] [(.int j44), (.int v176)]))
      by_cases c184 : v176.toInt < j44.toInt
      ·
        refine Go.st (fun _ k => XS.icmpNo X170.here hx rfl (hb hby at_211) rfl (tlt (ltI rfl rfl c184)).2.1 k) ?_
        show Go p e below s Q 1 2 (T170.setTop (mkF m 214 #[.val (.int x0), .val (.int x1), .val (.int x2), .val (.int j4), .val (.int j13), .val (.int j23), .val (.int j33), .val (.int j44), .val (.int v59), .val (.int r_65), .val (.ref b68), .val (.int j44), .val (.int v176), .unset] []))
        refine Go.st (fun _ k => XS.iconst X170.here hx rfl (hb hby at_214) k) ?_
        show Go p e below s Q 1 2 (T170.setTop (mkF m 215 #[.val (.int x0), .val (.int x1), .val (.int x2), .val (.int j4), .val (.int j13), .val (.int j23), .val (.int j33), .val (.int j44), .val (.int v59), .val (.int r_65), .val (.ref b68), .val (.int j44), .val (.int v176), .unset] [(.int (1 : Int32))]))
        refine Go.st (fun _ k => XS.goto X170.here hx rfl (pc0 := 215) (pc' := 219) rfl (hb hby at_215) (by decide) (by decide) k) ?_
        show Go p e below s Q 1 2 (T170.setTop (mkF m 219 #[.val (.int x0), .val (.int x1), .val (.int x2), .val (.int j4), .val (.int j13), .val (.int j23), .val (.int j33), .val (.int j44), .val (.int v59), .val (.int r_65), .val (.ref b68), .val (.int j44), .val (.int v176), .unset] [(.int (1 : Int32))]))
        refine Go.st (fun _ k => XS.istore X170.here hx rfl (hb hby at_219) rfl (l' := #[.val (.int x0), .val (.int x1), .val (.int x2), .val (.int j4), .val (.int j13), .val (.int j23), .val (.int j33), .val (.int j44), .val (.int v59), .val (.int r_65), .val (.ref b68), .val (.int j44), .val (.int v176), .val (.int (1 : Int32))]) rfl k) ?_
        show Go p e below s Q 1 2 (T170.setTop (mkF m 221 #[.val (.int x0), .val (.int x1), .val (.int x2), .val (.int j4), .val (.int j13), .val (.int j23), .val (.int j33), .val (.int j44), .val (.int v59), .val (.int r_65), .val (.ref b68), .val (.int j44), .val (.int v176), .val (.int (1 : Int32))] []))
        refine Go.st (fun _ k => XS.aload X170.here hx rfl (hb hby at_221) rfl rfl k) ?_
        show Go p e below s Q 1 2 (T170.setTop (mkF m 223 #[.val (.int x0), .val (.int x1), .val (.int x2), .val (.int j4), .val (.int j13), .val (.int j23), .val (.int j33), .val (.int j44), .val (.int v59), .val (.int r_65), .val (.ref b68), .val (.int j44), .val (.int v176), .val (.int (1 : Int32))] [(.ref b68)]))
        obtain ⟨cq185, kq185, q185a, q185b, q185c⟩ := isOf hZ rfl h171
        obtain ⟨_, _, ⟨T185, L185, k185, n185⟩, -, X185, ⟨Lc185, hQ185, l185, y185, z185⟩, st185⟩ := X170.virtualBack hx (y := (⟨"com/example/amqp_broker/amqpbroker/model/Prefetch", "hasRoom", "()Z"⟩ : MethodName)) (z := (⟨"com/example/amqp_broker/amqpbroker/model/Prefetch", "hasRoom", "()Z"⟩ : MethodName)) hown (mvT hZ (hw _ (List.mem_of_getElem? (i := 21) rfl))) (mvT hZ (hw _ (List.mem_of_getElem? (i := 22) rfl))) (notFace_of_selects (args := #[]) (mvT hZ (hw _ (List.mem_of_getElem? (i := 24) rfl)))) (mvT hZ (hw _ (List.mem_of_getElem? (i := 24) rfl))) (mvT hZ (hw _ (List.mem_of_getElem? (i := 23) rfl))) (by decide) (backOf (W := 0) (rm5 l Z a0 hw [] b68 j44 ou169 T170.heap n0 (Nat.le_trans Z0 K170.1) h172 h173) hZ (hw _ (List.mem_of_getElem? (i := 25) rfl)) (hw _ (List.mem_of_getElem? (i := 7) rfl)) (by decide) (by decide)) q185a q185c (g := (mkF m 223 #[.val (.int x0), .val (.int x1), .val (.int x2), .val (.int j4), .val (.int j13), .val (.int j23), .val (.int j33), .val (.int j44), .val (.int v59), .val (.int r_65), .val (.ref b68), .val (.int j44), .val (.int v176), .val (.int (1 : Int32))] [(.ref b68)])) rfl (by rw [hml]; rfl) (Steps.refl _) (argsL := []) (rest := []) (lenOf pd_3 rfl) rfl (by show 2 * 0 + _ ≤ _; exact Nat.le_of_eq rfl) (hb hby at_223) (fun _ _ => ⟨rfl, rfl, (by decide : 1 + 0 ≤ _), (by decide : 2 + 0 ≤ _)⟩)
        dsimp only [Pt.U, Pt.locs, Pt.cells, Pt.slots] at X185 l185 y185 z185 st185 hQ185
        subst l185 y185 z185
        obtain ⟨r_186, rfl, N185q, f187, e185⟩ := hQ185
        have N185 := Fr.app N170 N185q
        refine Go.tr  st185 ?_
        show Go p e below s Q 1 2 (T185.setTop (mkF m 226 #[.val (.int x0), .val (.int x1), .val (.int x2), .val (.int j4), .val (.int j13), .val (.int j23), .val (.int j33), .val (.int j44), .val (.int v59), .val (.int r_65), .val (.ref b68), .val (.int j44), .val (.int v176), .val (.int (1 : Int32))] [(.int r_186)]))
        have f188 := rng32 r_186
        refine Go.st (fun _ k => XS.iload X185.here hx rfl (hb hby at_226) rfl k) ?_
        show Go p e below s Q 1 2 (T185.setTop (mkF m 228 #[.val (.int x0), .val (.int x1), .val (.int x2), .val (.int j4), .val (.int j13), .val (.int j23), .val (.int j33), .val (.int j44), .val (.int v59), .val (.int r_65), .val (.ref b68), .val (.int j44), .val (.int v176), .val (.int (1 : Int32))] [(.int (1 : Int32)), (.int r_186)]))
        have f189 := liI_1
        have c190 : r_186.toInt = 1 := by omega
        refine Go.st (fun _ k => XS.icmpNo X185.here hx rfl (hb hby at_228) rfl (teq (eqI rfl liI_1 c190)).2 k) ?_
        show Go p e below s Q 1 2 (T185.setTop (mkF m 231 #[.val (.int x0), .val (.int x1), .val (.int x2), .val (.int j4), .val (.int j13), .val (.int j23), .val (.int j33), .val (.int j44), .val (.int v59), .val (.int r_65), .val (.ref b68), .val (.int j44), .val (.int v176), .val (.int (1 : Int32))] []))
        refine Go.st (fun _ k => XS.iconst X185.here hx rfl (hb hby at_231) k) ?_
        show Go p e below s Q 1 2 (T185.setTop (mkF m 232 #[.val (.int x0), .val (.int x1), .val (.int x2), .val (.int j4), .val (.int j13), .val (.int j23), .val (.int j33), .val (.int j44), .val (.int v59), .val (.int r_65), .val (.ref b68), .val (.int j44), .val (.int v176), .val (.int (1 : Int32))] [(.int (1 : Int32))]))
        refine Go.st (fun _ k => XS.goto X185.here hx rfl (pc0 := 232) (pc' := 236) rfl (hb hby at_232) (by decide) (by decide) k) ?_
        show Go p e below s Q 1 2 (T185.setTop (mkF m 236 #[.val (.int x0), .val (.int x1), .val (.int x2), .val (.int j4), .val (.int j13), .val (.int j23), .val (.int j33), .val (.int j44), .val (.int v59), .val (.int r_65), .val (.ref b68), .val (.int j44), .val (.int v176), .val (.int (1 : Int32))] [(.int (1 : Int32))]))
        exact Go.retN X185 hx hlk (by simp) Bd.returns (hb hby at_236) (z' := (1 : Int32)) (by decide) (by rw [← hQ, e185]; exact ⟨rfl, N185, K170⟩) (by decide) (by decide)
      ·
        refine Go.st (fun _ k => XS.icmpYes X170.here hx rfl (pc0 := 211) (pc' := 218) rfl (hb hby at_211) rfl (flt (nltI rfl rfl c184)).2.1 (by decide) (by decide) k) ?_
        show Go p e below s Q 1 2 (T170.setTop (mkF m 218 #[.val (.int x0), .val (.int x1), .val (.int x2), .val (.int j4), .val (.int j13), .val (.int j23), .val (.int j33), .val (.int j44), .val (.int v59), .val (.int r_65), .val (.ref b68), .val (.int j44), .val (.int v176), .unset] []))
        refine Go.st (fun _ k => XS.iconst X170.here hx rfl (hb hby at_218) k) ?_
        show Go p e below s Q 1 2 (T170.setTop (mkF m 219 #[.val (.int x0), .val (.int x1), .val (.int x2), .val (.int j4), .val (.int j13), .val (.int j23), .val (.int j33), .val (.int j44), .val (.int v59), .val (.int r_65), .val (.ref b68), .val (.int j44), .val (.int v176), .unset] [(.int (0 : Int32))]))
        refine Go.st (fun _ k => XS.istore X170.here hx rfl (hb hby at_219) rfl (l' := #[.val (.int x0), .val (.int x1), .val (.int x2), .val (.int j4), .val (.int j13), .val (.int j23), .val (.int j33), .val (.int j44), .val (.int v59), .val (.int r_65), .val (.ref b68), .val (.int j44), .val (.int v176), .val (.int (0 : Int32))]) rfl k) ?_
        show Go p e below s Q 1 2 (T170.setTop (mkF m 221 #[.val (.int x0), .val (.int x1), .val (.int x2), .val (.int j4), .val (.int j13), .val (.int j23), .val (.int j33), .val (.int j44), .val (.int v59), .val (.int r_65), .val (.ref b68), .val (.int j44), .val (.int v176), .val (.int (0 : Int32))] []))
        refine Go.st (fun _ k => XS.aload X170.here hx rfl (hb hby at_221) rfl rfl k) ?_
        show Go p e below s Q 1 2 (T170.setTop (mkF m 223 #[.val (.int x0), .val (.int x1), .val (.int x2), .val (.int j4), .val (.int j13), .val (.int j23), .val (.int j33), .val (.int j44), .val (.int v59), .val (.int r_65), .val (.ref b68), .val (.int j44), .val (.int v176), .val (.int (0 : Int32))] [(.ref b68)]))
        obtain ⟨cq191, kq191, q191a, q191b, q191c⟩ := isOf hZ rfl h171
        obtain ⟨_, _, ⟨T191, L191, k191, n191⟩, -, X191, ⟨Lc191, hQ191, l191, y191, z191⟩, st191⟩ := X170.virtualBack hx (y := (⟨"com/example/amqp_broker/amqpbroker/model/Prefetch", "hasRoom", "()Z"⟩ : MethodName)) (z := (⟨"com/example/amqp_broker/amqpbroker/model/Prefetch", "hasRoom", "()Z"⟩ : MethodName)) hown (mvT hZ (hw _ (List.mem_of_getElem? (i := 21) rfl))) (mvT hZ (hw _ (List.mem_of_getElem? (i := 22) rfl))) (notFace_of_selects (args := #[]) (mvT hZ (hw _ (List.mem_of_getElem? (i := 24) rfl)))) (mvT hZ (hw _ (List.mem_of_getElem? (i := 24) rfl))) (mvT hZ (hw _ (List.mem_of_getElem? (i := 23) rfl))) (by decide) (backOf (W := 0) (rm5 l Z a0 hw [] b68 j44 ou169 T170.heap n0 (Nat.le_trans Z0 K170.1) h172 h173) hZ (hw _ (List.mem_of_getElem? (i := 25) rfl)) (hw _ (List.mem_of_getElem? (i := 7) rfl)) (by decide) (by decide)) q191a q191c (g := (mkF m 223 #[.val (.int x0), .val (.int x1), .val (.int x2), .val (.int j4), .val (.int j13), .val (.int j23), .val (.int j33), .val (.int j44), .val (.int v59), .val (.int r_65), .val (.ref b68), .val (.int j44), .val (.int v176), .val (.int (0 : Int32))] [(.ref b68)])) rfl (by rw [hml]; rfl) (Steps.refl _) (argsL := []) (rest := []) (lenOf pd_3 rfl) rfl (by show 2 * 0 + _ ≤ _; exact Nat.le_of_eq rfl) (hb hby at_223) (fun _ _ => ⟨rfl, rfl, (by decide : 1 + 0 ≤ _), (by decide : 2 + 0 ≤ _)⟩)
        dsimp only [Pt.U, Pt.locs, Pt.cells, Pt.slots] at X191 l191 y191 z191 st191 hQ191
        subst l191 y191 z191
        obtain ⟨r_192, rfl, N191q, f193, e191⟩ := hQ191
        have N191 := Fr.app N170 N191q
        refine Go.tr  st191 ?_
        show Go p e below s Q 1 2 (T191.setTop (mkF m 226 #[.val (.int x0), .val (.int x1), .val (.int x2), .val (.int j4), .val (.int j13), .val (.int j23), .val (.int j33), .val (.int j44), .val (.int v59), .val (.int r_65), .val (.ref b68), .val (.int j44), .val (.int v176), .val (.int (0 : Int32))] [(.int r_192)]))
        have f194 := rng32 r_192
        refine Go.st (fun _ k => XS.iload X191.here hx rfl (hb hby at_226) rfl k) ?_
        show Go p e below s Q 1 2 (T191.setTop (mkF m 228 #[.val (.int x0), .val (.int x1), .val (.int x2), .val (.int j4), .val (.int j13), .val (.int j23), .val (.int j33), .val (.int j44), .val (.int v59), .val (.int r_65), .val (.ref b68), .val (.int j44), .val (.int v176), .val (.int (0 : Int32))] [(.int (0 : Int32)), (.int r_192)]))
        have c195 : r_192.toInt = 0 := by omega
        refine Go.st (fun _ k => XS.icmpNo X191.here hx rfl (hb hby at_228) rfl (teq (eqI rfl liI_0 c195)).2 k) ?_
        show Go p e below s Q 1 2 (T191.setTop (mkF m 231 #[.val (.int x0), .val (.int x1), .val (.int x2), .val (.int j4), .val (.int j13), .val (.int j23), .val (.int j33), .val (.int j44), .val (.int v59), .val (.int r_65), .val (.ref b68), .val (.int j44), .val (.int v176), .val (.int (0 : Int32))] []))
        refine Go.st (fun _ k => XS.iconst X191.here hx rfl (hb hby at_231) k) ?_
        show Go p e below s Q 1 2 (T191.setTop (mkF m 232 #[.val (.int x0), .val (.int x1), .val (.int x2), .val (.int j4), .val (.int j13), .val (.int j23), .val (.int j33), .val (.int j44), .val (.int v59), .val (.int r_65), .val (.ref b68), .val (.int j44), .val (.int v176), .val (.int (0 : Int32))] [(.int (1 : Int32))]))
        refine Go.st (fun _ k => XS.goto X191.here hx rfl (pc0 := 232) (pc' := 236) rfl (hb hby at_232) (by decide) (by decide) k) ?_
        show Go p e below s Q 1 2 (T191.setTop (mkF m 236 #[.val (.int x0), .val (.int x1), .val (.int x2), .val (.int j4), .val (.int j13), .val (.int j23), .val (.int j33), .val (.int j44), .val (.int v59), .val (.int r_65), .val (.ref b68), .val (.int j44), .val (.int v176), .val (.int (0 : Int32))] [(.int (1 : Int32))]))
        have f196 := liI_1
        exact Go.retN X191 hx hlk (by simp) Bd.returns (hb hby at_236) (z' := (1 : Int32)) (by decide) (by rw [← hQ, e191]; exact ⟨rfl, N191, K170⟩) (by decide) (by decide)
set_option maxRecDepth 65536 in
set_option maxHeartbeats 40000000 in
theorem comes_1 {Post : Tables → Env → Array Value → State → Outcome → State → Prop} (hpost : ∀ tb e args s v u, (limb_1_1.after args s (.returned v) u = true ∧ limb_1_2.after args s (.returned v) u = true ∧ True) → FrameEnd s (.returned v) u (Jvm.fieldLocs frame_1_writes args s ++ Jvm.arrayLocs frame_1_arrays args s ++ Jvm.staticLocs frame_1_statics s) 16 128 → Post tb e args s (.returned v) u) :
    ArmFor flags0 classFile x code maxLocals ret World_1 tables_1 room_1 Calls_1 rest_1 Pre_1 Post := by
  intro l hfl _ _ p e ha hc hk s m args below hf hA hF happ hP
  obtain ⟨hcalls, hrest, hpre⟩ := hP
  obtain ⟨-, -, -, hnamed, -, -, -, hat⟩ := (Spec.applies_iff hf).mp happ
  obtain ⟨hg, hn⟩ := and_e (Cond.before_iff.mp (show (Jvm.Cond.and given_1 narrow_1).before args s = true from hpre))
  obtain ⟨hcount, g0⟩ := and_e hg
  obtain ⟨a0, g1⟩ := and_e g0
  obtain ⟨a1, g2⟩ := and_e g1
  obtain ⟨w0, w1, w2, rfl⟩ : ∃ w0 w1 w2 : Value, args = #[w0, w1, w2] := by
    have hs : args.size = 3 := by simpa [Cond.value, given_1] using hcount
    obtain ⟨L⟩ := args
    match L, hs with
    | [w0, w1, w2], _ => exact ⟨w0, w1, w2, rfl⟩
  have hw := fun d (hd : d ∈ tables_1) => atoms_spec (ws := Jvm.Cond.code x code maxLocals ret :: tables_1) hat d (List.mem_cons_of_mem _ hd)
  have hfit : Fit s := fun {y c} hc i hi => by
    obtain ⟨ha, rfl⟩ := Array.getElem?_eq_some_iff.mp hc
    have q := List.all_eq_true.mp ((Array.all_eq_true_iff_forall_mem.mp hF) _ (Array.getElem_mem ha)) i (List.mem_range.mpr hi)
    simpa [Array.getElem?_eq_getElem hi] using q
  obtain ⟨i0, ei0⟩ := is_v a0
  obtain rfl : w0 = (.int i0) := Option.some.inj ei0
  obtain ⟨i1, ei1⟩ := is_v a1
  obtain rfl : w1 = (.int i1) := Option.some.inj ei1
  obtain ⟨i2, ei2⟩ := is_v g2
  obtain rfl : w2 = (.int i2) := Option.some.inj ei2
  obtain ⟨n, o, h1, h2, h3, _, L, rfl, ⟨rfl, N, _⟩, hq⟩ := rm0 l s _ hw tables_1 i0 i1 i2 s.heap s.heap.size (Nat.le_refl _)  p e ha hc hk s m _ below hf ((Spec.applies_iff_loose hf).mp happ).1 ⟨rfl, State.Warmed39.refl s, rfl⟩ trivial
  refine ⟨n, _, h1, h2, h3, hpost _ _ _ _ _ _ ⟨Cond.after_iff.mpr rfl, Cond.after_iff.mpr (eq_i res_at (Term.int_eval (1)) rfl), trivial⟩ ⟨hq.1, hq.2.1, (hq.2.2.sift fun y hy => Or.inr (N y hy)).mono (by decide) (by decide)⟩⟩
theorem main_1_1 : Claimed_1_1 := comes_1 fun _ _ _ _ _ _ h hF => ⟨h.1, hF⟩
theorem main_1_2 : Claimed_1_2 := comes_1 fun _ _ _ _ _ _ h hF => ⟨h.2.1, hF⟩
end Jvm.Pilot.@@N@@
namespace Jvm.Pilot.@@N@@
open Jvm Jvm.ClassFile Sem Op Lib Jvm.Free Jvm.Stand Jvm.Pilot.@@N@@.Jvm.D
/-! MADE BY PROGRAM (witnessworld.py) out of the Statement's table words and the real class files: 10 classes; the members and pool entries that the words name. The judged class is class 1, her method 1. -/
namespace start1
open Jvm.ClassFile
def u (s : String) : CpInfo := .utf8 (stringToUtf16 s)
/-- a pool by its gaps: so many unusable entries, then the entry; so many at the end -/
def gap : Nat → List CpInfo → List CpInfo
  | 0, r => r
  | n + 1, r => .unusable :: gap n r
def poolList (es : List (Nat × CpInfo)) (last : Nat) : List CpInfo := es.foldr (fun e r => gap e.1 (e.2 :: r)) (gap last [])
def pool (es : List (Nat × CpInfo)) (last : Nat) : Array CpInfo := ⟨poolList es last⟩
def fileOf (pool : Array CpInfo) (this : Nat) (attrs : Array Attribute := #[]) (ms : Array MethodInfo := #[]) (fl : Nat := 33) (sup : Nat := 0) (ifs : Array Nat := #[]) (fds : Array FieldInfo := #[]) : ClassFile where
  minorVersion := 0
  majorVersion := 65
  constantPool := pool
  accessFlags := fl
  thisClass := this
  superClass := sup
  interfaces := ifs
  fields := fds
  methods := ms
  attributes := attrs
def plain (name : String) (sup : Option ClassId) : Class where
  name := name
  kind := .ordinary
  loader := none
  accessFlags := 33
  super := sup
  interfaces := #[]
  cf := none
  fields := #[]
  methods := #[]
  instanceTypes := #[]
  staticTypes := #[]
  resolved := #[]
  callSites := []
  init := .initialized
  statics := none
  mirror := none

def pool0 : Array CpInfo := pool [(5, u "<init>"), (0, u "()V"), (1, .class_ 10), (1, u "java/lang/Object")] 113

def k0c0 : Code := { maxStack := 0, maxLocals := 1, code := object_method_1_code, exceptionTable := #[], attributes := #[] }
def k0m0 : Method := { name := "<init>", desc := "()V", sig := { parameters := [], returnType := none }, accessFlags := 1, code := some k0c0 }
/-- java/lang/Object -/
def k0 : Class := { plain "java/lang/Object" none with
  accessFlags := 33
  interfaces := #[]
  cf := some (fileOf pool0 8 #[] #[{ accessFlags := 1, nameIndex := 5, descriptorIndex := 6, attributes := #[] }] 33 0 #[] #[])
  fields := #[]
  methods := #[k0m0]
  instanceTypes := #[]
  staticTypes := #[]
  resolved := Array.replicate 124 none
  statics := none }

def pool1 : Array CpInfo := pool [(2, .class_ 4), (1, u "java/lang/Object"), (0, u "<init>"), (0, u "()V"), (0, .integer 2147483647), (0, .methodref 9 10), (0, .class_ 11), (0, .nameAndType 12 13), (0, u "java/lang/Math"), (0, u "min"), (0, u "(II)I"), (0, .class_ 15), (0, u "com/example/amqp_broker/amqpbroker/model/Prefetch"), (0, .methodref 14 17), (0, .nameAndType 5 18), (0, u "(I)V"), (0, .methodref 14 20), (0, .nameAndType 21 6), (0, u "sent"), (0, .methodref 14 23), (0, .nameAndType 24 6), (0, u "settled"), (0, .methodref 14 26), (0, .nameAndType 27 18), (0, u "setLimit"), (0, .methodref 14 29), (0, .nameAndType 30 31), (0, u "hasRoom"), (0, u "()Z"), (0, .class_ 33), (0, u "com/example/amqp_broker/amqpbroker/model/PrefetchHasRoomPinLaw"), (2, u "law"), (0, u "(III)Z")] 3

def k1m0 : Method := { name := "<init>", desc := "()V", sig := { parameters := [], returnType := none }, accessFlags := 1, code := none }
def k1c1 : Code := { maxStack := 3, maxLocals := 14, code := code, exceptionTable := #[], attributes := #[] }
def k1m1 : Method := { name := "law", desc := "(III)Z", sig := { parameters := [.int, .int, .int], returnType := some .boolean }, accessFlags := 9, code := some k1c1 }
/-- com/example/amqp_broker/amqpbroker/model/PrefetchHasRoomPinLaw -/
def k1 : Class := { plain "com/example/amqp_broker/amqpbroker/model/PrefetchHasRoomPinLaw" (some 0) with
  accessFlags := 49
  interfaces := #[]
  cf := some (fileOf pool1 32 #[] #[{ accessFlags := 1, nameIndex := 5, descriptorIndex := 6, attributes := #[] }, { accessFlags := 9, nameIndex := 36, descriptorIndex := 37, attributes := #[] }] 49 2 #[] #[])
  fields := #[]
  methods := #[k1m0, k1m1]
  instanceTypes := #[]
  staticTypes := #[]
  resolved := Array.replicate 41 none
  statics := none }

def pool2 : Array CpInfo := pool [(1, .class_ 2), (0, u "java/lang/Math"), (1, .class_ 6), (1, u "java/lang/Object"), (0, u "<init>"), (0, u "()V"), (89, .class_ 100), (1, u "java/lang/Math$RandomNumberGeneratorHolder"), (71, u "negativeZeroFloatBits"), (0, u "J"), (2, u "negativeZeroDoubleBits"), (24, u "min"), (43, u "$assertionsDisabled"), (0, u "Z"), (88, u "(II)I"), (2, u "twoToTheDoubleScaleDown"), (0, u "D"), (4, u "twoToTheDoubleScaleUp"), (9, u "E"), (3, u "PI"), (2, u "TAU"), (2, u "DEGREES_TO_RADIANS"), (0, u "RADIANS_TO_DEGREES")] 94

def k2m0 : Method := { name := "<init>", desc := "()V", sig := { parameters := [], returnType := none }, accessFlags := 2, code := none }
def k2c1 : Code := { maxStack := 2, maxLocals := 2, code := jdk_29_method_69_code, exceptionTable := #[], attributes := #[] }
def k2m1 : Method := { name := "min", desc := "(II)I", sig := { parameters := [.int, .int], returnType := some .int }, accessFlags := 9, code := some k2c1 }
/-- java/lang/Math -/
def k2 : Class := { plain "java/lang/Math" (some 0) with
  accessFlags := 49
  interfaces := #[]
  cf := some (fileOf pool2 1 #[.nestMembers #[98]] #[{ accessFlags := 2, nameIndex := 7, descriptorIndex := 8, attributes := #[] }, { accessFlags := 9, nameIndex := 201, descriptorIndex := 335, attributes := #[] }] 49 4 #[] #[{ accessFlags := 25, nameIndex := 354, descriptorIndex := 339, attributes := #[] }, { accessFlags := 25, nameIndex := 358, descriptorIndex := 339, attributes := #[] }, { accessFlags := 25, nameIndex := 361, descriptorIndex := 339, attributes := #[] }, { accessFlags := 26, nameIndex := 364, descriptorIndex := 339, attributes := #[] }, { accessFlags := 26, nameIndex := 365, descriptorIndex := 339, attributes := #[] }, { accessFlags := 26, nameIndex := 172, descriptorIndex := 173, attributes := #[] }, { accessFlags := 26, nameIndex := 176, descriptorIndex := 173, attributes := #[] }, { accessFlags := 8, nameIndex := 344, descriptorIndex := 339, attributes := #[] }, { accessFlags := 8, nameIndex := 338, descriptorIndex := 339, attributes := #[] }, { accessFlags := 4120, nameIndex := 245, descriptorIndex := 246, attributes := #[] }])
  fields := #[{ name := "E", type := .double, accessFlags := 25, slot := 0, constantValue := 0 }, { name := "PI", type := .double, accessFlags := 25, slot := 1, constantValue := 0 }, { name := "TAU", type := .double, accessFlags := 25, slot := 2, constantValue := 0 }, { name := "DEGREES_TO_RADIANS", type := .double, accessFlags := 26, slot := 3, constantValue := 0 }, { name := "RADIANS_TO_DEGREES", type := .double, accessFlags := 26, slot := 4, constantValue := 0 }, { name := "negativeZeroFloatBits", type := .long, accessFlags := 26, slot := 5, constantValue := 0 }, { name := "negativeZeroDoubleBits", type := .long, accessFlags := 26, slot := 6, constantValue := 0 }, { name := "twoToTheDoubleScaleUp", type := .double, accessFlags := 8, slot := 7, constantValue := 0 }, { name := "twoToTheDoubleScaleDown", type := .double, accessFlags := 8, slot := 8, constantValue := 0 }, { name := "$assertionsDisabled", type := .boolean, accessFlags := 4120, slot := 9, constantValue := 0 }]
  methods := #[k2m0, k2m1]
  instanceTypes := #[]
  staticTypes := #[.double, .double, .double, .double, .double, .long, .long, .double, .double, .boolean]
  resolved := Array.replicate 460 none
  statics := none }

def pool3 : Array CpInfo := pool [(1, .methodref 2 3), (0, .class_ 4), (0, .nameAndType 5 6), (0, u "java/lang/Object"), (0, u "<init>"), (0, u "()V"), (0, .fieldref 8 9), (0, .class_ 10), (0, .nameAndType 11 12), (0, u "com/example/amqp_broker/amqpbroker/model/Prefetch"), (0, u "limit"), (0, u "I"), (0, .fieldref 8 14), (0, .nameAndType 15 12), (0, u "outstanding"), (0, u "(I)V"), (2, u "setLimit"), (0, u "hasRoom"), (0, u "()Z"), (1, u "sent"), (0, u "settled")] 2

def k3c0 : Code := { maxStack := 2, maxLocals := 2, code := prog_6_method_1_code, exceptionTable := #[], attributes := #[] }
def k3m0 : Method := { name := "<init>", desc := "(I)V", sig := { parameters := [.int], returnType := none }, accessFlags := 1, code := some k3c0 }
def k3c1 : Code := { maxStack := 2, maxLocals := 2, code := prog_6_method_2_code, exceptionTable := #[], attributes := #[] }
def k3m1 : Method := { name := "setLimit", desc := "(I)V", sig := { parameters := [.int], returnType := none }, accessFlags := 1, code := some k3c1 }
def k3c2 : Code := { maxStack := 2, maxLocals := 1, code := prog_6_method_3_code, exceptionTable := #[], attributes := #[] }
def k3m2 : Method := { name := "hasRoom", desc := "()Z", sig := { parameters := [], returnType := some .boolean }, accessFlags := 1, code := some k3c2 }
def k3c3 : Code := { maxStack := 3, maxLocals := 1, code := prog_6_method_4_code, exceptionTable := #[], attributes := #[] }
def k3m3 : Method := { name := "sent", desc := "()V", sig := { parameters := [], returnType := none }, accessFlags := 1, code := some k3c3 }
def k3c4 : Code := { maxStack := 3, maxLocals := 1, code := prog_6_method_5_code, exceptionTable := #[], attributes := #[] }
def k3m4 : Method := { name := "settled", desc := "()V", sig := { parameters := [], returnType := none }, accessFlags := 1, code := some k3c4 }
/-- com/example/amqp_broker/amqpbroker/model/Prefetch -/
def k3 : Class := { plain "com/example/amqp_broker/amqpbroker/model/Prefetch" (some 0) with
  accessFlags := 33
  interfaces := #[]
  cf := some (fileOf pool3 8 #[] #[{ accessFlags := 1, nameIndex := 5, descriptorIndex := 16, attributes := #[] }, { accessFlags := 1, nameIndex := 19, descriptorIndex := 16, attributes := #[] }, { accessFlags := 1, nameIndex := 20, descriptorIndex := 21, attributes := #[] }, { accessFlags := 1, nameIndex := 23, descriptorIndex := 6, attributes := #[] }, { accessFlags := 1, nameIndex := 24, descriptorIndex := 6, attributes := #[] }] 33 2 #[] #[{ accessFlags := 2, nameIndex := 11, descriptorIndex := 12, attributes := #[] }, { accessFlags := 2, nameIndex := 15, descriptorIndex := 12, attributes := #[] }])
  fields := #[{ name := "limit", type := .int, accessFlags := 2, slot := 0, constantValue := 0 }, { name := "outstanding", type := .int, accessFlags := 2, slot := 1, constantValue := 0 }]
  methods := #[k3m0, k3m1, k3m2, k3m3, k3m4]
  instanceTypes := #[.int, .int]
  staticTypes := #[]
  resolved := Array.replicate 27 none
  statics := none }

def pool4 : Array CpInfo := pool [(1, u "java/lang/Cloneable"), (0, .class_ 1), (0, u "java/lang/Object"), (0, .class_ 3)] 3

/-- java/lang/Cloneable -/
def k4 : Class := { plain "java/lang/Cloneable" (some 0) with
  accessFlags := 1537
  interfaces := #[]
  cf := some (fileOf pool4 2 #[] #[] 1537 4 #[] #[])
  fields := #[]
  methods := #[]
  instanceTypes := #[]
  staticTypes := #[]
  resolved := Array.replicate 8 none
  statics := none }

def pool5 : Array CpInfo := pool [(1, u "java/io/Serializable"), (0, .class_ 1), (0, u "java/lang/Object"), (0, .class_ 3)] 3

/-- java/io/Serializable -/
def k5 : Class := { plain "java/io/Serializable" (some 0) with
  accessFlags := 1537
  interfaces := #[]
  cf := some (fileOf pool5 2 #[] #[] 1537 4 #[] #[])
  fields := #[]
  methods := #[]
  instanceTypes := #[]
  staticTypes := #[]
  resolved := Array.replicate 8 none
  statics := none }

/-- the primitive byte -/
def k6 : Class := { plain "byte" none with kind := .primitive 'B', accessFlags := 0x411 }
/-- [B -/
def k7 : Class := { plain "[B" (some 0) with kind := .array 6 .byte, interfaces := #[4, 5], accessFlags := 1041 }

/-- the primitive int -/
def k8 : Class := { plain "int" none with kind := .primitive 'I', accessFlags := 0x411 }
/-- [I -/
def k9 : Class := { plain "[I" (some 0) with kind := .array 8 .int, interfaces := #[4, 5], accessFlags := 1041 }

def heap : Heap := #[]
def classes : Array Class := #[k0, k1, k2, k3, k4, k5, k6, k7, k8, k9]
def interned : List (Array UInt16 × Addr) := []
def slotsUsed : Nat := 0
def theMethod : MethodId := ⟨1, 1⟩
def args0 : Array Value := #[.int 5, .int 7, .int 9]
def aboutOver (below : List Frame) : State where
  vm := { classes := classes, interned := interned.toArray }
  heap := heap
  slotsUsed := slotsUsed
  threads := #[{ frames := .invoking theMethod args0 :: below }]
def below0 : List Frame := [.native { method := ⟨0, 0⟩, args := #[] }]
def about1 : State := aboutOver below0
def p0 : Program := .bare "" "" ""
def e0 : Env := launch0.env 0 0 0
theorem w_frames : about1.frames = Frame.invoking theMethod args0 :: below0 := rfl
set_option maxRecDepth 65536 in
theorem w_args : argsFit about1.vm theMethod args0 = true := by decide +kernel
set_option maxRecDepth 65536 in
theorem w_heap : heapFits about1 = true := by decide +kernel
set_option maxRecDepth 65536 in
theorem w_runnable : about1.curStatus? = some .runnable := by decide +kernel
set_option maxRecDepth 65536 in
theorem w_alone : about1.alone = true := by decide +kernel
set_option maxRecDepth 65536 in
theorem w_named : about1.methodNamed? x = some theMethod := by decide +kernel
set_option maxRecDepth 65536 in
theorem w_hears : about1.hears theMethod below0 = true := by decide +kernel
set_option maxRecDepth 65536 in
theorem w_ripe : about1.ripe theMethod args0 below0 = true := by decide +kernel
theorem w_running : about1.status = .running := rfl
set_option maxRecDepth 65536 in
theorem w_room : about1.hasRoom e0.platform room_1 = true :=
  launch0.hasRoom_least _ room_1 (by decide +kernel) (by decide +kernel) (by decide +kernel) (by decide +kernel) (by decide +kernel) (by decide +kernel)
theorem allAtoms_all (ts : List Jvm.Cond) (a : Array Jvm.Value) (st : Jvm.State) : (allAtoms ts).before a st = ts.all (fun c => c.before a st) := by
  induction ts with
  | nil => rfl
  | cons c t ih =>
    show (Jvm.Cond.and c (allAtoms t)).before a st = _
    rw [Jvm.Cond.before_and, ih, List.all_cons]
def words1 : List Jvm.Cond := Jvm.Cond.code x code maxLocals ret :: tables_1
/-- a 'code' word, met by the world's own term for the bytes: nothing is compared byte by byte -/
theorem code_word {y : MethodName} {bytes : ByteArray} {mx : Nat} {rt : Option FieldType} {a : Array Value} {s : State} {m : MethodId} {meth : Method} {c : Code} (h1 : s.methodNamed? y = some m) (h2 : s.vm.method? m = some meth) (h3 : meth.code = some c) (h4 : c.code = bytes)
    (h5 : (c.maxLocals == mx && c.exceptionTable.isEmpty && decide (c.maxStack ≤ mostOperands) && decide (meth.sig.returnType = rt) && !meth.locks && decide (parseMethodDescriptor y.desc = some meth.sig)) = true) : (Jvm.Cond.code y bytes mx rt).before a s = true := by
  simp only [Bool.and_eq_true, beq_iff_eq, Bool.not_eq_true', decide_eq_true_eq] at h5
  obtain ⟨⟨⟨⟨⟨g1, g2⟩, g3⟩, g4⟩, g5⟩, g6⟩ := h5
  simp [Cond.before, Cond.holds, Cond.value, h1, h2, h3, h4, g1, g2, g3, g4, g5, g6]
def isCode : Jvm.Cond → Bool
  | .code _ _ _ _ => true
  | _ => false
theorem all_split {L : List Jvm.Cond} {P : Jvm.Cond → Bool} (h1 : L.all (fun c => isCode c || P c) = true) (h2 : ∀ c ∈ L.filter isCode, P c = true) : L.all P = true := by
  refine List.all_eq_true.mpr fun c hc => ?_
  have h := List.all_eq_true.mp h1 c hc
  rcases Bool.eq_false_or_eq_true (isCode c) with hi | hi
  · exact h2 c (List.mem_filter.mpr ⟨hc, hi⟩)
  · simpa [hi] using h
set_option maxRecDepth 65536 in
theorem w_c0 : (Jvm.Cond.code x code maxLocals ret).before args0 about1 = true := code_word (m := ⟨1, 1⟩) (meth := k1m1) (c := k1c1) (by decide +kernel) rfl rfl rfl (by decide +kernel)
set_option maxRecDepth 65536 in
theorem w_c1 : (Jvm.Cond.code ({ cls := "java/lang/Math", name := "min", desc := "(II)I" } : Jvm.MethodName) jdk_29_method_69_code (2 : Nat) (Option.some Jvm.ClassFile.FieldType.int)).before args0 about1 = true := code_word (m := ⟨2, 1⟩) (meth := k2m1) (c := k2c1) (by decide +kernel) rfl rfl rfl (by decide +kernel)
set_option maxRecDepth 65536 in
theorem w_c2 : (Jvm.Cond.code ({ cls := "com/example/amqp_broker/amqpbroker/model/Prefetch", name := "<init>", desc := "(I)V" } : Jvm.MethodName) prog_6_method_1_code (2 : Nat) (Option.none : Option Jvm.ClassFile.FieldType)).before args0 about1 = true := code_word (m := ⟨3, 0⟩) (meth := k3m0) (c := k3c0) (by decide +kernel) rfl rfl rfl (by decide +kernel)
set_option maxRecDepth 65536 in
theorem w_c3 : (Jvm.Cond.code ({ cls := "java/lang/Object", name := "<init>", desc := "()V" } : Jvm.MethodName) object_method_1_code (1 : Nat) (Option.none : Option Jvm.ClassFile.FieldType)).before args0 about1 = true := code_word (m := ⟨0, 0⟩) (meth := k0m0) (c := k0c0) (by decide +kernel) rfl rfl rfl (by decide +kernel)
set_option maxRecDepth 65536 in
theorem w_c4 : (Jvm.Cond.code ({ cls := "com/example/amqp_broker/amqpbroker/model/Prefetch", name := "setLimit", desc := "(I)V" } : Jvm.MethodName) prog_6_method_2_code (2 : Nat) (Option.none : Option Jvm.ClassFile.FieldType)).before args0 about1 = true := code_word (m := ⟨3, 1⟩) (meth := k3m1) (c := k3c1) (by decide +kernel) rfl rfl rfl (by decide +kernel)
set_option maxRecDepth 65536 in
theorem w_c5 : (Jvm.Cond.code ({ cls := "com/example/amqp_broker/amqpbroker/model/Prefetch", name := "hasRoom", desc := "()Z" } : Jvm.MethodName) prog_6_method_3_code (1 : Nat) (Option.some Jvm.ClassFile.FieldType.boolean)).before args0 about1 = true := code_word (m := ⟨3, 2⟩) (meth := k3m2) (c := k3c2) (by decide +kernel) rfl rfl rfl (by decide +kernel)
set_option maxRecDepth 65536 in
theorem w_c6 : (Jvm.Cond.code ({ cls := "com/example/amqp_broker/amqpbroker/model/Prefetch", name := "sent", desc := "()V" } : Jvm.MethodName) prog_6_method_4_code (1 : Nat) (Option.none : Option Jvm.ClassFile.FieldType)).before args0 about1 = true := code_word (m := ⟨3, 3⟩) (meth := k3m3) (c := k3c3) (by decide +kernel) rfl rfl rfl (by decide +kernel)
set_option maxRecDepth 65536 in
theorem w_c7 : (Jvm.Cond.code ({ cls := "com/example/amqp_broker/amqpbroker/model/Prefetch", name := "settled", desc := "()V" } : Jvm.MethodName) prog_6_method_5_code (1 : Nat) (Option.none : Option Jvm.ClassFile.FieldType)).before args0 about1 = true := code_word (m := ⟨3, 4⟩) (meth := k3m4) (c := k3c4) (by decide +kernel) rfl rfl rfl (by decide +kernel)
def codes1 : List Jvm.Cond := [Jvm.Cond.code x code maxLocals ret, Jvm.Cond.code ({ cls := "java/lang/Math", name := "min", desc := "(II)I" } : Jvm.MethodName) jdk_29_method_69_code (2 : Nat) (Option.some Jvm.ClassFile.FieldType.int), Jvm.Cond.code ({ cls := "com/example/amqp_broker/amqpbroker/model/Prefetch", name := "<init>", desc := "(I)V" } : Jvm.MethodName) prog_6_method_1_code (2 : Nat) (Option.none : Option Jvm.ClassFile.FieldType), Jvm.Cond.code ({ cls := "java/lang/Object", name := "<init>", desc := "()V" } : Jvm.MethodName) object_method_1_code (1 : Nat) (Option.none : Option Jvm.ClassFile.FieldType), Jvm.Cond.code ({ cls := "com/example/amqp_broker/amqpbroker/model/Prefetch", name := "setLimit", desc := "(I)V" } : Jvm.MethodName) prog_6_method_2_code (2 : Nat) (Option.none : Option Jvm.ClassFile.FieldType), Jvm.Cond.code ({ cls := "com/example/amqp_broker/amqpbroker/model/Prefetch", name := "hasRoom", desc := "()Z" } : Jvm.MethodName) prog_6_method_3_code (1 : Nat) (Option.some Jvm.ClassFile.FieldType.boolean), Jvm.Cond.code ({ cls := "com/example/amqp_broker/amqpbroker/model/Prefetch", name := "sent", desc := "()V" } : Jvm.MethodName) prog_6_method_4_code (1 : Nat) (Option.none : Option Jvm.ClassFile.FieldType), Jvm.Cond.code ({ cls := "com/example/amqp_broker/amqpbroker/model/Prefetch", name := "settled", desc := "()V" } : Jvm.MethodName) prog_6_method_5_code (1 : Nat) (Option.none : Option Jvm.ClassFile.FieldType)]
set_option maxRecDepth 65536 in
theorem codes_eq : words1.filter isCode = codes1 := rfl
theorem w_codes : ∀ c ∈ words1.filter isCode, c.before args0 about1 = true := by
  rw [codes_eq]
  intro c hc
  simp only [codes1, List.mem_cons, List.not_mem_nil, or_false] at hc
  rcases hc with rfl | rfl | rfl | rfl | rfl | rfl | rfl | rfl
  · exact w_c0
  · exact w_c1
  · exact w_c2
  · exact w_c3
  · exact w_c4
  · exact w_c5
  · exact w_c6
  · exact w_c7
set_option maxRecDepth 65536 in
theorem w_t1 : (words1.take 24).all (fun c => isCode c || c.before args0 about1) = true := by decide +kernel
set_option maxRecDepth 65536 in
theorem w_t2 : (words1.drop 24).all (fun c => isCode c || c.before args0 about1) = true := by decide +kernel
theorem w_tables : (allAtoms (Jvm.Cond.code x code maxLocals ret :: tables_1)).before args0 about1 = true := by
  rw [allAtoms_all]
  show words1.all (fun c => c.before args0 about1) = true
  refine all_split ?_ w_codes
  rw [← List.take_append_drop 24 words1, List.all_append, w_t1, w_t2]
  rfl
set_option maxRecDepth 65536 in
theorem w_case : (Jvm.Cond.and given_1 narrow_1).before args0 about1 = true := by decide +kernel
theorem w_applies : (headSpec (Jvm.Cond.code x code maxLocals ret :: tables_1) room_1).applies x e0.platform about1 = true :=
  (Spec.applies_iff w_frames).mpr ⟨w_running, w_runnable, w_alone, w_named, w_hears, w_ripe, w_room, w_tables⟩
theorem atStart : AtStart classFile x code maxLocals ret World_1 tables_1 room_1 Calls_1 rest_1 Pre_1 launch0 p0 e0 about1 theMethod args0 below0 :=
  ⟨lists_1, trivial, launch0.admits_env _ _ _, launch0.least_env, fairChoices_fair.cas, fairChoices_fair.clock, w_frames, w_args, w_heap, w_applies, trivial, trivial, w_case⟩
end start1
theorem witness_1 : WitnessClaimed_1 := ⟨start1.p0, start1.e0, start1.about1, start1.theMethod, start1.args0, start1.below0, start1.atStart⟩
end Jvm.Pilot.@@N@@
