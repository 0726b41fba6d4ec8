import JvmDerived
import JvmDerived.Pilot.@@N@@Statement
import JvmDerived.Pilot.@@N@@Code
set_option linter.unusedVariables false
set_option linter.unusedSimpArgs false
namespace Jvm.OwnGo
open Jvm Jvm.ClassFile Sem Op Lib Jvm.Free Jvm.Stand Jvm.LawKit Jvm.RoadKit
section Own
variable {p : Program} {l : Launch} {e : Env} {R : Room} {s : State} {m : MethodId} {args : Array Value} {below : List Frame} {meth : Method} {c : Code} {T : State} {locs : List Loc} {cells slots : Nat} {Q : Option Value → Heap → List Loc → Prop} {C N : Nat}
/-- from A on the run comes to its return, and what it returns and leaves is as Q says -/
def Go (p : Program) (e : Env) (below : List Frame) (s : State) (Q : Option Value → Heap → List Loc → Prop) (C N : Nat) (A : State) : Prop :=
  ∃ s₂ o, Steps p.tables e below A s₂ ∧ s₂.status = .running ∧ Ended s₂ below o ∧ ∃ v L, o = .returned v ∧ Q v s₂.heap L ∧ FrameEnd s o s₂ L C N
theorem Go.st {A B : State} (h : ∀ t, Steps p.tables e below B t → Steps p.tables e below A t) (k : Go p e below s Q C N B) : Go p e below s Q C N A := by
  obtain ⟨s₂, o, h1, r⟩ := k
  exact ⟨s₂, o, h _ h1, r⟩
theorem Go.tr {A B : State} (h : Steps p.tables e below A B) (k : Go p e below s Q C N B) : Go p e below s Q C N A := k.st fun _ q => h.trans q
theorem Go.retI (X : Stand p l e R s m args below meth c T locs cells slots) (hx : p.tables.exec = Jvm.exec) (hlk : meth.locks = false) (hret : meth.sig.returnType = some .int) {pc : Nat} {Ls : Array Slot} {z : Int32} {rest : List Value} (hd : decode c.code pc = .ok (.ireturn, 1))
    (q : Q (some (.int z)) T.heap locs) (hc : cells ≤ C) (hn : slots ≤ N) : Go p e below s Q C N (T.setTop (mkF m pc Ls (.int z :: rest))) := by
  obtain ⟨fs, hr, hrun, hended, hW, hsame⟩ := X.leave (v := some (.int z)) (fun h => by rw [hret] at h; cases h) hlk
  exact ⟨_, _, retOut X hx hret rfl (Or.inl ⟨rfl, Or.inl rfl, _, rfl⟩) hd hr, hrun, hended, _, _, rfl, q, ⟨_, rfl⟩, hW, hsame.mono hc hn⟩
theorem Go.retN (X : Stand p l e R s m args below meth c T locs cells slots) (hx : p.tables.exec = Jvm.exec) (hlk : meth.locks = false) {t : FieldType} (ht : t = .boolean ∨ t = .byte ∨ t = .char ∨ t = .short) (hret : meth.sig.returnType = some t) {pc : Nat} {Ls : Array Slot} {z z' : Int32} {rest : List Value} (hd : decode c.code pc = .ok (.ireturn, 1))
    (hz : nar t z = z') (q : Q (some (.int z')) T.heap locs) (hc : cells ≤ C) (hn : slots ≤ N) : Go p e below s Q C N (T.setTop (mkF m pc Ls (.int z :: rest))) := by
  subst hz
  obtain ⟨fs, hr, hrun, hended, hW, hsame⟩ := X.leave (v := some (.int (nar t z))) (fun h => by rw [hret] at h; cases h) hlk
  exact ⟨_, _, Jvm.RoadKit.retN X hx hret ht hd hr, hrun, hended, _, _, rfl, q, ⟨_, rfl⟩, hW, hsame.mono hc hn⟩
theorem Go.retJ (X : Stand p l e R s m args below meth c T locs cells slots) (hx : p.tables.exec = Jvm.exec) (hlk : meth.locks = false) (hret : meth.sig.returnType = some .long) {pc : Nat} {Ls : Array Slot} {z : Int64} {rest : List Value} (hd : decode c.code pc = .ok (.lreturn, 1))
    (q : Q (some (.long z)) T.heap locs) (hc : cells ≤ C) (hn : slots ≤ N) : Go p e below s Q C N (T.setTop (mkF m pc Ls (.long z :: rest))) := by
  obtain ⟨fs, hr, hrun, hended, hW, hsame⟩ := X.leave (v := some (.long z)) (fun h => by rw [hret] at h; cases h) hlk
  exact ⟨_, _, retOut X hx hret rfl (Or.inr (Or.inl ⟨rfl, rfl, _, rfl⟩)) hd hr, hrun, hended, _, _, rfl, q, ⟨_, rfl⟩, hW, hsame.mono hc hn⟩
theorem nar_ref {t : FieldType} {w : Value} (hw : w.isRef = true) : narrow t w = w := by
  cases t <;> cases w <;> first | rfl | (simp [Value.isRef] at hw)
theorem Go.retA (X : Stand p l e R s m args below meth c T locs cells slots) (hx : p.tables.exec = Jvm.exec) (hlk : meth.locks = false) {t : FieldType} (ht : t.isReference = true) (hret : meth.sig.returnType = some t) {pc : Nat} {Ls : Array Slot} {w : Value} {rest : List Value} (hw : w.isRef = true) (hd : decode c.code pc = .ok (.areturn, 1))
    (q : Q (some w) T.heap locs) (hc : cells ≤ C) (hn : slots ≤ N) : Go p e below s Q C N (T.setTop (mkF m pc Ls (w :: rest))) := by
  obtain ⟨fs, hr, hrun, hended, hW, hsame⟩ := X.leave (v := some w) (fun h => by rw [hret] at h; cases h) hlk
  exact ⟨_, _, retOut X hx hret (nar_ref hw) (Or.inr (Or.inr (Or.inr (Or.inr ⟨rfl, ht, hw⟩)))) hd hr, hrun, hended, _, _, rfl, q, ⟨_, rfl⟩, hW, hsame.mono hc hn⟩
theorem Go.retV (X : Stand p l e R s m args below meth c T locs cells slots) (hx : p.tables.exec = Jvm.exec) (hlk : meth.locks = false) (hret : meth.sig.returnType = none) {pc : Nat} {Ls : Array Slot} (hd : decode c.code pc = .ok (.return_, 1))
    (q : Q none T.heap locs) (hc : cells ≤ C) (hn : slots ≤ N) : Go p e below s Q C N (T.setTop (mkF m pc Ls [])) := by
  obtain ⟨fs, hr, hrun, hended, hW, hsame⟩ := X.leave (v := none) (fun _ => rfl) hlk
  exact ⟨_, _, X.returnOut hx hret hd hr, hrun, hended, _, _, rfl, q, ⟨_, rfl⟩, hW, hsame.mono hc hn⟩
theorem up {k n : Nat} (X : Stand p l e R s m args below meth c T locs cells slots) (hc : cells ≤ k) (hn : slots ≤ n) : Stand p l e R s m args below meth c T locs k n := { X with same := X.same.mono hc hn }
end Own
section Num
variable {x y : Int32} {u v : Int64} {a b : Int}
theorem ltI (ha : x.toInt = a) (hb : y.toInt = b) (h : a < b) : x < y := by rw [Int32.lt_iff_toInt_lt, ha, hb]; exact h
theorem nltI (ha : x.toInt = a) (hb : y.toInt = b) (h : ¬ a < b) : ¬ x < y := by rw [Int32.lt_iff_toInt_lt, ha, hb]; exact h
theorem eqI (ha : x.toInt = a) (hb : y.toInt = b) (h : a = b) : x = y := Int32.toInt_inj.mp (by rw [ha, hb]; exact h)
theorem neI (ha : x.toInt = a) (hb : y.toInt = b) (h : ¬ a = b) : ¬ x = y := fun q => h (by rw [← ha, ← hb, q])
theorem ltJ (ha : u.toInt = a) (hb : v.toInt = b) (h : a < b) : u < v := by rw [Int64.lt_iff_toInt_lt, ha, hb]; exact h
theorem nltJ (ha : u.toInt = a) (hb : v.toInt = b) (h : ¬ a < b) : ¬ u < v := by rw [Int64.lt_iff_toInt_lt, ha, hb]; exact h
theorem eqJ (ha : u.toInt = a) (hb : v.toInt = b) (h : a = b) : u = v := Int64.toInt_inj.mp (by rw [ha, hb]; exact h)
theorem neJ (ha : u.toInt = a) (hb : v.toInt = b) (h : ¬ a = b) : ¬ u = v := fun q => h (by rw [← ha, ← hb, q])
theorem bool_nar (h : x.toInt = 0 ∨ x.toInt = 1) : nar .boolean x = x := by
  rcases h with h | h
  · rw [Int32.toInt_inj.mp (h.trans (by decide : (0 : Int) = (0 : Int32).toInt))]; decide
  · rw [Int32.toInt_inj.mp (h.trans (by decide : (1 : Int) = (1 : Int32).toInt))]; decide
end Num
section Words
variable {Z : State} {args : Array Value} {t : Term} {C n d : String} {a : Addr}
theorem fld_int {k : Int32} (ht : t.eval args Z none [] Z = some (.ref a)) (h : (Cond.eq (Term.field t C n d) (Term.int k)).value args Z none Z [] = some true) : Fld Z Z.heap a C n d (.int k) := by
  obtain ⟨u, v, e1, e2, k1, k2⟩ := cmp_v (Or.inl h)
  have e3 : v = .int k := Option.some.inj (e2.symm.trans (Term.int_eval k))
  subst e3
  obtain ⟨w, rfl⟩ : ∃ w, u = .int w := k2
  have q := gotT (Cond.eq_ints e1 (Term.int_eval k)) h
  subst q
  exact Fld.start (by rw [← fld_at (args := args) (first := Z) (o := none) (idx := []) ht]; exact e1)
theorem sta_long {k : Int64} (h : (Cond.eq (Term.static C n d) (Term.long k)).value args Z none Z [] = some true) : (Term.static C n d).eval args Z none [] Z = some (.long k) := by
  obtain ⟨u, v, e1, e2, k1, k2⟩ := cmp_v (Or.inl h)
  have e3 : v = .long k := Option.some.inj (e2.symm.trans rfl)
  subst e3
  obtain ⟨w, rfl⟩ : ∃ w, u = .long w := k2
  have q := gotT (eq_L (y := k) e1 rfl) h
  subst q
  exact e1
theorem sta_int {k : Int32} (h : (Cond.eq (Term.static C n d) (Term.int k)).value args Z none Z [] = some true) : (Term.static C n d).eval args Z none [] Z = some (.int k) := by
  obtain ⟨u, v, e1, e2, k1, k2⟩ := cmp_v (Or.inl h)
  have e3 : v = .int k := Option.some.inj (e2.symm.trans rfl)
  subst e3
  obtain ⟨w, rfl⟩ : ∃ w, u = .int w := k2
  have q := gotT (Cond.eq_ints e1 (Term.int_eval k)) h
  subst q
  exact e1
/-- a cell that is no class's statics -/
def Exi (h : Heap) (x : Addr) : Prop := ∃ c : Cell, h[x]? = some c ∧ c.vm.isStatics = false
theorem exi_exa {h : Heap} (F : Exa Z h a C) : Exi h a := by obtain ⟨c, k, h1, -, -, h4, -⟩ := F; exact ⟨c, h1, h4⟩
theorem sta_keep {h h' : Heap} {v : Value} {ws : List Addr} (F : Sta Z h C n d v) (K : Keep h h' ws) (q : ∀ x ∈ ws, Exi h x) : Sta Z h' C n d v := by
  obtain ⟨cf, i, k, f, st, cell, h1, h2, h3, h4, h5, h6, h7⟩ := F
  refine ⟨cf, i, k, f, st, cell, h1, h2, h3, h4, K.2.1 st cell h5 (fun hm => ?_), h6, h7⟩
  obtain ⟨c, e1, e2⟩ := q st hm
  cases h5.symm.trans e1
  rw [h6] at e2; cases e2
theorem self_sel {s : State} {as as' : Array Value} {y z : MethodName} (hs : (Cond.selects C z z).before as s = true) (hc : z.cls = y.cls) (hp : s.PrivateAt y) (hi : (Cond.instanceMethod y).before as' s = true) (hy : y.cls ≠ "java/lang/invoke/MethodHandle" ∧ y.cls ≠ "java/lang/invoke/VarHandle") : (Cond.selects y.cls y y).before as' s = true := by
  obtain ⟨c, r, m, h1, h2, h3, h4, mk, h5, h6⟩ := Cond.selects_spec hs
  exact selects_self_of_private (hc ▸ findClass_of_methodNamed h3) h5 h6 hp hi hy
end Words
end Jvm.OwnGo
namespace Jvm.Pilot.@@N@@
open Jvm Jvm.ClassFile Sem Op Lib Jvm.Free Jvm.Stand Jvm.LawKit Jvm.RoadKit Bundle Jvm.OwnGo Jvm.Pilot.@@N@@.Jvm.D
theorem pn_0 : plainName "com/example/concordat/concordat/model/Protocol" = true := by first | (simp [plainName, overriddenIn]; done) | decide +kernel
theorem d3_0 : decode prog_32_method_6_code 0 = .ok (.aload_n 0, 1) := by decide +kernel
theorem d3_1 : decode prog_32_method_6_code 1 = .ok (.getstatic 13, 3) := by decide +kernel
theorem d3_4 : decode prog_32_method_6_code 4 = .ok (.if_acmp .ne 7, 3) := by decide +kernel
theorem d3_11 : decode prog_32_method_6_code 11 = .ok (.iconst 0, 1) := by decide +kernel
theorem liI_0 : (0 : Int32).toInt = 0 := by decide
theorem d3_12 : decode prog_32_method_6_code 12 = .ok (.ireturn, 1) := by decide +kernel
theorem ef_rm3 (m : MethodId) (o : Addr) : entryFrame m #[(.ref o)] 1 = mkF m 0 #[.val (.ref o)] [] := by first | (simp [entryFrame, mkF, argsToLocals, Value.category]; done) | rfl
def Q3 (Z : State) (o : Addr) (w : Addr) (h0 : Heap) (n0 : Nat) (vv : Option Value) (h : Heap) (LL : List Loc) : Prop := vv = some (.int (0 : Int32)) ∧ Fr n0 LL ∧ h = h0
set_option maxRecDepth 65536 in
set_option maxHeartbeats 40000000 in
theorem rm3 (l : Launch) (Z : State) (a0 : Array Value) (hw : ∀ d ∈ tables_1, d.before a0 Z = true) (ws : List Jvm.Cond) (o : Addr) (w : Addr) (h0 : Heap) (n0 : Nat) (Z0 : n0 ≤ h0.size) (hS : Sta Z h0 "com/example/concordat/concordat/model/Protocol" "PRESUMED_ANY" "Lcom/example/concordat/concordat/model/Protocol;" (.ref w)) (hne : o ≠ w) :
    MetFree l (⟨"com/example/concordat/concordat/model/Protocol", "isMixed", "()Z"⟩ : MethodName) (head1 (Jvm.Cond.code (⟨"com/example/concordat/concordat/model/Protocol", "isMixed", "()Z"⟩ : MethodName) prog_32_method_6_code 1 (some .boolean) :: ws) ({ frames := 0, cells := 0, slots := 0, locals := 0 } : Room)) (fun aa UU => aa = #[(.ref o)] ∧ Z.Warmed39 UU.vm ∧ UU.heap = h0) (fun _ _ _ _ _ => True) (fun _ UU oo UU' => ∃ vv LL, oo = .returned vv ∧ Q3 Z o w h0 n0 vv UU'.heap LL ∧ FrameEnd UU oo UU' LL 0 0) := by
  refine MetFree.of_bodySF (plainFor_of_name pn_0) hisR ?_
  intro p e s m args below meth c s₁ Bd hml0 hP hK
  obtain ⟨rfl, hZ, hh⟩ := hP
  have hx := Bd.exec
  have hby := Bd.bytes
  have hlk : meth.locks = false := BodyLoose.notSynchronized Bd
  have hml : c.maxLocals = 1 := hml0
  have hown : s.vm.findClass "com/example/concordat/concordat/model/Protocol" = some m.cls := findClass_of_methodNamed Bd.named
  have hnm := (name_of_methodNamed Bd.named Bd.method).1
  have X0 : Stand p l e ({ frames := 0, cells := 0, slots := 0, locals := 0 } : Room) s m #[(.ref o)] below meth c s₁ [] 0 0 := Stand.of_body Bd
  have e0 : s₁.heap = h0 := by rw [← hh, Bd.state]; rfl
  have N0 := Fr.nil n0
  have K0 : Keep h0 h0 [] := Keep.refl h0 _
  refine (?_ : Go p e below s (Q3 Z o w h0 n0) 0 0 (s₁.setTop (entryFrame m #[(.ref o)] 1)))
  rw [ef_rm3]
  generalize hQ : Q3 Z o w h0 n0 = Q
  show Go p e below s Q 0 0 (s₁.setTop (mkF m 0 #[.val (.ref o)] []))
  refine Go.st (fun _ k => XS.aloadN X0.here hx rfl (hb hby d3_0) rfl rfl k) ?_
  show Go p e below s Q 0 0 (s₁.setTop (mkF m 1 #[.val (.ref o)] [(.ref o)]))
  obtain ⟨T1, X1, e1, st1⟩ := getS2 X0 hx hZ hown (host := "") (Or.inl (hw _ (List.mem_of_getElem? (i := 18) rfl))) Via.refl e0 hS (g := (mkF m 1 #[.val (.ref o)] [(.ref o)])) rfl (hb hby d3_1)
  refine Go.st st1 ?_
  show Go p e below s Q 0 0 (T1.setTop (mkF m 4 #[.val (.ref o)] [(.ref w), (.ref o)]))
  refine Go.st (fun _ k => Jvm.RoadKit.acmp (g := (mkF m 4 #[.val (.ref o)] [(.ref w), (.ref o)])) X1 hx rfl rfl rfl (pc0 := 4) (pc' := 11) (same := false) rfl (hb hby d3_4) rfl (decide_eq_false fun q => hne (Value.ref.inj q)) (by decide) (by decide) k) ?_
  show Go p e below s Q 0 0 (T1.setTop (mkF m 11 #[.val (.ref o)] []))
  refine Go.st (fun _ k => XS.iconst X1.here hx rfl (hb hby d3_11) k) ?_
  show Go p e below s Q 0 0 (T1.setTop (mkF m 12 #[.val (.ref o)] [(.int (0 : Int32))]))
  have f2 := liI_0
  exact Go.retN X1 hx hlk (by simp) Bd.returns (hb hby d3_12) (z' := (0 : Int32)) (by decide) (by rw [← hQ, e1]; exact ⟨rfl, N0, rfl⟩) (by decide) (by decide)
theorem d2_0 : decode prog_32_method_17_code 0 = .ok (.aload_n 0, 1) := by decide +kernel
theorem pd_0 : parseMethodDescriptor "()Z" = some ⟨[], some .boolean⟩ := by decide +kernel
theorem d2_1 : decode prog_32_method_17_code 1 = .ok (.invokevirtual 59, 3) := by decide +kernel
theorem d2_4 : decode prog_32_method_17_code 4 = .ok (.ifCond .eq 20, 3) := by decide +kernel
theorem d2_24 : decode prog_32_method_17_code 24 = .ok (.return_, 1) := by decide +kernel
theorem ef_rm2 (m : MethodId) (o : Addr) : entryFrame m #[(.ref o)] 1 = mkF m 0 #[.val (.ref o)] [] := by first | (simp [entryFrame, mkF, argsToLocals, Value.category]; done) | rfl
def Q2 (Z : State) (o : Addr) (w : Addr) (h0 : Heap) (n0 : Nat) (vv : Option Value) (h : Heap) (LL : List Loc) : Prop := vv = none ∧ Fr n0 LL ∧ h = h0
set_option maxRecDepth 65536 in
set_option maxHeartbeats 40000000 in
theorem rm2 (l : Launch) (Z : State) (a0 : Array Value) (hw : ∀ d ∈ tables_1, d.before a0 Z = true) (ws : List Jvm.Cond) (o : Addr) (w : Addr) (h0 : Heap) (n0 : Nat) (Z0 : n0 ≤ h0.size) (hS : Sta Z h0 "com/example/concordat/concordat/model/Protocol" "PRESUMED_ANY" "Lcom/example/concordat/concordat/model/Protocol;" (.ref w)) (hne : o ≠ w) (hE : Exa Z h0 o "com/example/concordat/concordat/model/Protocol") :
    MetFree l (⟨"com/example/concordat/concordat/model/Protocol", "requirePresumption", "()V"⟩ : MethodName) (head1 (Jvm.Cond.code (⟨"com/example/concordat/concordat/model/Protocol", "requirePresumption", "()V"⟩ : MethodName) prog_32_method_17_code 1 none :: ws) ({ frames := 1, cells := 0, slots := 0, locals := 12 } : Room)) (fun aa UU => aa = #[(.ref o)] ∧ Z.Warmed39 UU.vm ∧ UU.heap = h0) (fun _ _ _ _ _ => True) (fun _ UU oo UU' => ∃ vv LL, oo = .returned vv ∧ Q2 Z o w h0 n0 vv UU'.heap LL ∧ FrameEnd UU oo UU' LL 0 0) := by
  refine MetFree.of_bodySF (plainFor_of_name pn_0) hisR ?_
  intro p e s m args below meth c s₁ Bd hml0 hP hK
  obtain ⟨rfl, hZ, hh⟩ := hP
  have hx := Bd.exec
  have hby := Bd.bytes
  have hlk : meth.locks = false := BodyLoose.notSynchronized Bd
  have hml : c.maxLocals = 1 := hml0
  have hown : s.vm.findClass "com/example/concordat/concordat/model/Protocol" = some m.cls := findClass_of_methodNamed Bd.named
  have hnm := (name_of_methodNamed Bd.named Bd.method).1
  have X0 : Stand p l e ({ frames := 1, cells := 0, slots := 0, locals := 12 } : Room) s m #[(.ref o)] below meth c s₁ [] 0 0 := Stand.of_body Bd
  have e0 : s₁.heap = h0 := by rw [← hh, Bd.state]; rfl
  have N0 := Fr.nil n0
  have K0 : Keep h0 h0 [] := Keep.refl h0 _
  refine (?_ : Go p e below s (Q2 Z o w h0 n0) 0 0 (s₁.setTop (entryFrame m #[(.ref o)] 1)))
  rw [ef_rm2]
  generalize hQ : Q2 Z o w h0 n0 = Q
  show Go p e below s Q 0 0 (s₁.setTop (mkF m 0 #[.val (.ref o)] []))
  refine Go.st (fun _ k => XS.aloadN X0.here hx rfl (hb hby d2_0) rfl rfl k) ?_
  show Go p e below s Q 0 0 (s₁.setTop (mkF m 1 #[.val (.ref o)] [(.ref o)]))
  obtain ⟨cq1, kq1, q1a, q1b, q1c⟩ := isOf hZ e0 hE
  obtain ⟨_, _, ⟨T1, L1, k1, n1⟩, -, X1, ⟨Lc1, hQ1, l1, y1, z1⟩, st1⟩ := X0.virtualBack hx (y := (⟨"com/example/concordat/concordat/model/Protocol", "isMixed", "()Z"⟩ : MethodName)) (z := (⟨"com/example/concordat/concordat/model/Protocol", "isMixed", "()Z"⟩ : MethodName)) hown (mvT hZ (hw _ (List.mem_of_getElem? (i := 13) rfl))) (mvT hZ (hw _ (List.mem_of_getElem? (i := 14) rfl))) (notFace_of_selects (args := #[]) (mvT hZ (hw _ (List.mem_of_getElem? (i := 16) rfl)))) (mvT hZ (hw _ (List.mem_of_getElem? (i := 16) rfl))) (mvT hZ (hw _ (List.mem_of_getElem? (i := 15) rfl))) (by decide) (backOf (W := 0) (rm3 l Z a0 hw [] o w h0 n0 (Nat.le_trans Z0 K0.1) hS hne) hZ (hw _ (List.mem_of_getElem? (i := 17) rfl)) (hw _ (List.mem_of_getElem? (i := 2) rfl)) (by decide) (by decide)) q1a q1c (g := (mkF m 1 #[.val (.ref o)] [(.ref o)])) rfl (by rw [hml]; rfl) (Steps.refl _) (argsL := []) (rest := []) (lenOf pd_0 rfl) rfl (by show 2 * 0 + _ ≤ _; exact Nat.le_of_eq rfl) (hb hby d2_1) (fun _ _ => ⟨rfl, e0, (by decide : 0 + 0 ≤ _), (by decide : 0 + 0 ≤ _)⟩)
  dsimp only [Pt.U, Pt.locs, Pt.cells, Pt.slots] at X1 l1 y1 z1 st1 hQ1
  subst l1 y1 z1
  obtain ⟨rfl, N1q, e1⟩ := hQ1
  have N1 := Fr.app N0 N1q
  refine Go.tr  st1 ?_
  show Go p e below s Q 0 0 (T1.setTop (mkF m 4 #[.val (.ref o)] [(.int (0 : Int32))]))
  have f2 := liI_0
  refine Go.st (fun _ k => XS.ifYes X1.here hx rfl (pc0 := 4) (pc' := 24) rfl (hb hby d2_4) rfl ((if0 _ _).trans (teq (eqI liI_0 liI_0 (by decide))).1) (by decide) (by decide) k) ?_
  show Go p e below s Q 0 0 (T1.setTop (mkF m 24 #[.val (.ref o)] []))
  exact Go.retV X1 hx hlk Bd.returns (hb hby d2_24) (by rw [← hQ, e1]; exact ⟨rfl, N1, rfl⟩) (by decide) (by decide)
theorem d1_0 : decode prog_32_method_7_code 0 = .ok (.aload_n 0, 1) := by decide +kernel
theorem pd_1 : parseMethodDescriptor "()V" = some ⟨[], none⟩ := by decide +kernel
theorem d1_1 : decode prog_32_method_7_code 1 = .ok (.invokevirtual 55, 3) := by decide +kernel
theorem d1_4 : decode prog_32_method_7_code 4 = .ok (.iload_n 1, 1) := by decide +kernel
theorem d1_5 : decode prog_32_method_7_code 5 = .ok (.ifCond .eq 10, 3) := by decide +kernel
theorem d1_15 : decode prog_32_method_7_code 15 = .ok (.aload_n 0, 1) := by decide +kernel
theorem d1_16 : decode prog_32_method_7_code 16 = .ok (.getfield 43, 3) := by decide +kernel
theorem d1_19 : decode prog_32_method_7_code 19 = .ok (.ireturn, 1) := by decide +kernel
theorem d1_8 : decode prog_32_method_7_code 8 = .ok (.aload_n 0, 1) := by decide +kernel
theorem d1_9 : decode prog_32_method_7_code 9 = .ok (.getfield 39, 3) := by decide +kernel
theorem d1_12 : decode prog_32_method_7_code 12 = .ok (.goto 7, 3) := by decide +kernel
theorem ef_rm1 (m : MethodId) (o : Addr) (bo : Int32) : entryFrame m #[(.ref o), (.int bo)] 2 = mkF m 0 #[.val (.ref o), .val (.int bo)] [] := by first | (simp [entryFrame, mkF, argsToLocals, Value.category]; done) | rfl
def Q1 (Z : State) (o : Addr) (bo : Int32) (w : Addr) (cA : Int32) (aA : Int32) (h0 : Heap) (n0 : Nat) (vv : Option Value) (h : Heap) (LL : List Loc) : Prop := ∃ (r : Int32), vv = some (.int r) ∧ Fr n0 LL ∧ ((bo.toInt = 0 → r.toInt = aA.toInt) ∧ (¬ bo.toInt = 0 → r.toInt = cA.toInt)) ∧ h = h0
set_option maxRecDepth 65536 in
set_option maxHeartbeats 40000000 in
theorem rm1 (l : Launch) (Z : State) (a0 : Array Value) (hw : ∀ d ∈ tables_1, d.before a0 Z = true) (ws : List Jvm.Cond) (o : Addr) (bo : Int32) (w : Addr) (cA : Int32) (aA : Int32) (h0 : Heap) (n0 : Nat) (Z0 : n0 ≤ h0.size) (hS : Sta Z h0 "com/example/concordat/concordat/model/Protocol" "PRESUMED_ANY" "Lcom/example/concordat/concordat/model/Protocol;" (.ref w)) (hne : o ≠ w) (hE : Exa Z h0 o "com/example/concordat/concordat/model/Protocol") (hc : Fld Z h0 o "com/example/concordat/concordat/model/Protocol" "commitAcknowledged" "Z" (.int cA)) (ha : Fld Z h0 o "com/example/concordat/concordat/model/Protocol" "abortAcknowledged" "Z" (.int aA)) (h1 : cA.toInt = 0 ∨ cA.toInt = 1) (h2 : aA.toInt = 0 ∨ aA.toInt = 1) :
    MetFree l (⟨"com/example/concordat/concordat/model/Protocol", "acknowledges", "(Z)Z"⟩ : MethodName) (head1 (Jvm.Cond.code (⟨"com/example/concordat/concordat/model/Protocol", "acknowledges", "(Z)Z"⟩ : MethodName) prog_32_method_7_code 2 (some .boolean) :: ws) ({ frames := 2, cells := 0, slots := 0, locals := 24 } : Room)) (fun aa UU => aa = #[(.ref o), (.int bo)] ∧ Z.Warmed39 UU.vm ∧ UU.heap = h0) (fun _ _ _ _ _ => True) (fun _ UU oo UU' => ∃ vv LL, oo = .returned vv ∧ Q1 Z o bo w cA aA h0 n0 vv UU'.heap LL ∧ FrameEnd UU oo UU' LL 0 0) := by
  refine MetFree.of_bodySF (plainFor_of_name pn_0) hisR ?_
  intro p e s m args below meth c s₁ Bd hml0 hP hK
  obtain ⟨rfl, hZ, hh⟩ := hP
  have hx := Bd.exec
  have hby := Bd.bytes
  have hlk : meth.locks = false := BodyLoose.notSynchronized Bd
  have hml : c.maxLocals = 2 := hml0
  have hown : s.vm.findClass "com/example/concordat/concordat/model/Protocol" = some m.cls := findClass_of_methodNamed Bd.named
  have hnm := (name_of_methodNamed Bd.named Bd.method).1
  have X0 : Stand p l e ({ frames := 2, cells := 0, slots := 0, locals := 24 } : Room) s m #[(.ref o), (.int bo)] below meth c s₁ [] 0 0 := Stand.of_body Bd
  have e0 : s₁.heap = h0 := by rw [← hh, Bd.state]; rfl
  have N0 := Fr.nil n0
  have K0 : Keep h0 h0 [] := Keep.refl h0 _
  refine (?_ : Go p e below s (Q1 Z o bo w cA aA h0 n0) 0 0 (s₁.setTop (entryFrame m #[(.ref o), (.int bo)] 2)))
  rw [ef_rm1]
  generalize hQ : Q1 Z o bo w cA aA h0 n0 = Q
  show Go p e below s Q 0 0 (s₁.setTop (mkF m 0 #[.val (.ref o), .val (.int bo)] []))
  have f1 := rng32 bo
  refine Go.st (fun _ k => XS.aloadN X0.here hx rfl (hb hby d1_0) rfl rfl k) ?_
  show Go p e below s Q 0 0 (s₁.setTop (mkF m 1 #[.val (.ref o), .val (.int bo)] [(.ref o)]))
  obtain ⟨cq2, q2, q2'⟩ := hE.cell
  have pv2 := Cond.privateMethod_at (mvP hZ (hw _ (List.mem_of_getElem? (i := 11) rfl)) (args := #[]))
  obtain ⟨_, _, ⟨T2, L2, k2, n2⟩, -, X2, ⟨Lc2, hQ2, l2, y2, z2⟩, st2⟩ := X0.privateBack hx (y := (⟨"com/example/concordat/concordat/model/Protocol", "requirePresumption", "()V"⟩ : MethodName)) hown (mvT hZ (hw _ (List.mem_of_getElem? (i := 9) rfl))) (mvT hZ (hw _ (List.mem_of_getElem? (i := 10) rfl))) (self_sel (mvT hZ (args := #[]) (hw _ (List.mem_of_getElem? (i := 7) rfl))) rfl pv2 (mvT hZ (hw _ (List.mem_of_getElem? (i := 10) rfl))) (by decide)) pv2 (mvT hZ (hw _ (List.mem_of_getElem? (i := 12) rfl))) (by decide) (backOf (W := 0) (rm2 l Z a0 hw [] o w h0 n0 (Nat.le_trans Z0 K0.1) hS hne hE) hZ (hw _ (List.mem_of_getElem? (i := 12) rfl)) (hw _ (List.mem_of_getElem? (i := 2) rfl)) (by decide) (by decide)) (g := (mkF m 1 #[.val (.ref o), .val (.int bo)] [(.ref o)])) rfl (by rw [hml]; rfl) (Steps.refl _) (a := o) (by rw [e0]; exact q2) q2' (argsL := []) (rest := []) (lenOf pd_1 rfl) rfl (by show 2 * 0 + _ ≤ _; exact Nat.le_of_eq rfl) (hb hby d1_1) (fun _ _ => ⟨rfl, e0, (by decide : 0 + 0 ≤ _), (by decide : 0 + 0 ≤ _)⟩)
  dsimp only [Pt.U, Pt.locs, Pt.cells, Pt.slots] at X2 l2 y2 z2 st2 hQ2
  subst l2 y2 z2
  obtain ⟨rfl, N2q, e2⟩ := hQ2
  have N2 := Fr.app N0 N2q
  refine Go.tr  st2 ?_
  show Go p e below s Q 0 0 (T2.setTop (mkF m 4 #[.val (.ref o), .val (.int bo)] []))
  refine Go.st (fun _ k => XS.iloadN X2.here hx rfl (hb hby d1_4) rfl k) ?_
  show Go p e below s Q 0 0 (T2.setTop (mkF m 5 #[.val (.ref o), .val (.int bo)] [(.int bo)]))
  have f3 := liI_0
  by_cases c4 : bo.toInt = 0
  ·
    refine Go.st (fun _ k => XS.ifYes X2.here hx rfl (pc0 := 5) (pc' := 15) rfl (hb hby d1_5) rfl ((if0 _ _).trans (teq (eqI rfl liI_0 c4)).1) (by decide) (by decide) k) ?_
    show Go p e below s Q 0 0 (T2.setTop (mkF m 15 #[.val (.ref o), .val (.int bo)] []))
    refine Go.st (fun _ k => XS.aloadN X2.here hx rfl (hb hby d1_15) rfl rfl k) ?_
    show Go p e below s Q 0 0 (T2.setTop (mkF m 16 #[.val (.ref o), .val (.int bo)] [(.ref o)]))
    obtain ⟨T5, X5, e5, st5⟩ := getF X2 hx hZ hown (host := "") (Or.inl (hw _ (List.mem_of_getElem? (i := 24) rfl))) Via.refl e2 ha (g := (mkF m 16 #[.val (.ref o), .val (.int bo)] [(.ref o)])) rfl rfl (hb hby d1_16)
    refine Go.st st5 ?_
    show Go p e below s Q 0 0 (T5.setTop (mkF m 19 #[.val (.ref o), .val (.int bo)] [(.int aA)]))
    have f6 := rng32 aA
    exact Go.retN X5 hx hlk (by simp) Bd.returns (hb hby d1_19) (bool_nar (by omega)) (by rw [← hQ, e5]; exact ⟨aA, rfl, N2, (by omega), rfl⟩) (by decide) (by decide)
  ·
    refine Go.st (fun _ k => XS.ifNo X2.here hx rfl (hb hby d1_5) rfl ((if0 _ _).trans (feq (neI rfl liI_0 c4)).1) k) ?_
    show Go p e below s Q 0 0 (T2.setTop (mkF m 8 #[.val (.ref o), .val (.int bo)] []))
    refine Go.st (fun _ k => XS.aloadN X2.here hx rfl (hb hby d1_8) rfl rfl k) ?_
    show Go p e below s Q 0 0 (T2.setTop (mkF m 9 #[.val (.ref o), .val (.int bo)] [(.ref o)]))
    obtain ⟨T7, X7, e7, st7⟩ := getF X2 hx hZ hown (host := "") (Or.inl (hw _ (List.mem_of_getElem? (i := 20) rfl))) Via.refl e2 hc (g := (mkF m 9 #[.val (.ref o), .val (.int bo)] [(.ref o)])) rfl rfl (hb hby d1_9)
    refine Go.st st7 ?_
    show Go p e below s Q 0 0 (T7.setTop (mkF m 12 #[.val (.ref o), .val (.int bo)] [(.int cA)]))
    refine Go.st (fun _ k => XS.goto X7.here hx rfl (pc0 := 12) (pc' := 19) rfl (hb hby d1_12) (by decide) (by decide) k) ?_
    show Go p e below s Q 0 0 (T7.setTop (mkF m 19 #[.val (.ref o), .val (.int bo)] [(.int cA)]))
    have f8 := rng32 cA
    exact Go.retN X7 hx hlk (by simp) Bd.returns (hb hby d1_19) (bool_nar (by omega)) (by rw [← hQ, e7]; exact ⟨cA, rfl, N2, (by omega), rfl⟩) (by decide) (by decide)
theorem pn_1 : plainName "com/example/concordat/concordat/model/ProtocolAcknowledgesPinLaw" = true := by first | (simp [plainName, overriddenIn]; done) | decide +kernel
theorem liI_2147483647 : (2147483647 : Int32).toInt = 2147483647 := by decide
theorem liI_3 : (3 : Int32).toInt = 3 := by decide
theorem liI_1 : (1 : Int32).toInt = 1 := by decide
theorem pd_2 : parseMethodDescriptor "(Z)Z" = some ⟨[.boolean], some .boolean⟩ := by decide +kernel
theorem ef_rm0 (m : MethodId) (p0 : Int32) (c0 : Int32) : entryFrame m #[(.int p0), (.int c0)] maxLocals = mkF m 0 #[.val (.int p0), .val (.int c0), .unset, .unset, .unset, .unset, .unset] [] := by first | (simp [entryFrame, mkF, argsToLocals, Value.category, maxLocals]; done) | rfl
def Q0 (Z : State) (p0 : Int32) (c0 : Int32) (aPRESUMED_NOTHING : Addr) (aPRESUMED_ANY : Addr) (aPRESUMED_COMMIT : Addr) (aPRESUMED_ABORT : Addr) (h0 : Heap) (n0 : Nat) (vv : Option Value) (h : Heap) (LL : List Loc) : Prop := vv = some (.int (1 : Int32)) ∧ Fr n0 LL ∧ h = h0
set_option maxRecDepth 65536 in
set_option maxHeartbeats 40000000 in
theorem rm0 (l : Launch) (Z : State) (a0 : Array Value) (hw : ∀ d ∈ tables_1, d.before a0 Z = true) (ws : List Jvm.Cond) (p0 : Int32) (c0 : Int32) (aPRESUMED_NOTHING : Addr) (aPRESUMED_ANY : Addr) (aPRESUMED_COMMIT : Addr) (aPRESUMED_ABORT : Addr) (h0 : Heap) (n0 : Nat) (Z0 : n0 ≤ h0.size) (S_aPRESUMED_NOTHING : Sta Z h0 "com/example/concordat/concordat/model/Protocol" "PRESUMED_NOTHING" "Lcom/example/concordat/concordat/model/Protocol;" (.ref aPRESUMED_NOTHING)) (E_aPRESUMED_NOTHING : Exa Z h0 aPRESUMED_NOTHING "com/example/concordat/concordat/model/Protocol") (S_aPRESUMED_ANY : Sta Z h0 "com/example/concordat/concordat/model/Protocol" "PRESUMED_ANY" "Lcom/example/concordat/concordat/model/Protocol;" (.ref aPRESUMED_ANY)) (E_aPRESUMED_ANY : Exa Z h0 aPRESUMED_ANY "com/example/concordat/concordat/model/Protocol") (F_aPRESUMED_NOTHING_ordinal : Fld Z h0 aPRESUMED_NOTHING "java/lang/Enum" "ordinal" "I" (.int (0 : Int32))) (F_aPRESUMED_ANY_ordinal : Fld Z h0 aPRESUMED_ANY "java/lang/Enum" "ordinal" "I" (.int (3 : Int32))) (F_aPRESUMED_NOTHING_commitAcknowledged : Fld Z h0 aPRESUMED_NOTHING "com/example/concordat/concordat/model/Protocol" "commitAcknowledged" "Z" (.int (1 : Int32))) (S_aPRESUMED_COMMIT : Sta Z h0 "com/example/concordat/concordat/model/Protocol" "PRESUMED_COMMIT" "Lcom/example/concordat/concordat/model/Protocol;" (.ref aPRESUMED_COMMIT)) (E_aPRESUMED_COMMIT : Exa Z h0 aPRESUMED_COMMIT "com/example/concordat/concordat/model/Protocol") (F_aPRESUMED_COMMIT_ordinal : Fld Z h0 aPRESUMED_COMMIT "java/lang/Enum" "ordinal" "I" (.int (2 : Int32))) (F_aPRESUMED_COMMIT_commitAcknowledged : Fld Z h0 aPRESUMED_COMMIT "com/example/concordat/concordat/model/Protocol" "commitAcknowledged" "Z" (.int (0 : Int32))) (F_aPRESUMED_COMMIT_abortAcknowledged : Fld Z h0 aPRESUMED_COMMIT "com/example/concordat/concordat/model/Protocol" "abortAcknowledged" "Z" (.int (1 : Int32))) (S_aPRESUMED_ABORT : Sta Z h0 "com/example/concordat/concordat/model/Protocol" "PRESUMED_ABORT" "Lcom/example/concordat/concordat/model/Protocol;" (.ref aPRESUMED_ABORT)) (E_aPRESUMED_ABORT : Exa Z h0 aPRESUMED_ABORT "com/example/concordat/concordat/model/Protocol") (F_aPRESUMED_ABORT_ordinal : Fld Z h0 aPRESUMED_ABORT "java/lang/Enum" "ordinal" "I" (.int (1 : Int32))) (F_aPRESUMED_ABORT_abortAcknowledged : Fld Z h0 aPRESUMED_ABORT "com/example/concordat/concordat/model/Protocol" "abortAcknowledged" "Z" (.int (0 : Int32))) (F_aPRESUMED_ABORT_commitAcknowledged : Fld Z h0 aPRESUMED_ABORT "com/example/concordat/concordat/model/Protocol" "commitAcknowledged" "Z" (.int (1 : Int32))) (F_aPRESUMED_NOTHING_abortAcknowledged : Fld Z h0 aPRESUMED_NOTHING "com/example/concordat/concordat/model/Protocol" "abortAcknowledged" "Z" (.int (1 : Int32))) (F_aPRESUMED_ANY_commitAcknowledged : Fld Z h0 aPRESUMED_ANY "com/example/concordat/concordat/model/Protocol" "commitAcknowledged" "Z" (.int (0 : Int32))) (F_aPRESUMED_ANY_abortAcknowledged : Fld Z h0 aPRESUMED_ANY "com/example/concordat/concordat/model/Protocol" "abortAcknowledged" "Z" (.int (0 : Int32))) (ne_aPRESUMED_NOTHING_aPRESUMED_ANY : aPRESUMED_NOTHING ≠ aPRESUMED_ANY) (ne_aPRESUMED_NOTHING_aPRESUMED_COMMIT : aPRESUMED_NOTHING ≠ aPRESUMED_COMMIT) (ne_aPRESUMED_NOTHING_aPRESUMED_ABORT : aPRESUMED_NOTHING ≠ aPRESUMED_ABORT) (ne_aPRESUMED_ANY_aPRESUMED_COMMIT : aPRESUMED_ANY ≠ aPRESUMED_COMMIT) (ne_aPRESUMED_ANY_aPRESUMED_ABORT : aPRESUMED_ANY ≠ aPRESUMED_ABORT) (ne_aPRESUMED_COMMIT_aPRESUMED_ABORT : aPRESUMED_COMMIT ≠ aPRESUMED_ABORT) :
    MetFree l x (head1 (Jvm.Cond.code x code maxLocals ret :: ws) room_1) (fun aa UU => aa = #[(.int p0), (.int c0)] ∧ Z.Warmed39 UU.vm ∧ UU.heap = h0) (fun _ _ _ _ _ => True) (fun _ UU oo UU' => ∃ vv LL, oo = .returned vv ∧ Q0 Z p0 c0 aPRESUMED_NOTHING aPRESUMED_ANY aPRESUMED_COMMIT aPRESUMED_ABORT h0 n0 vv UU'.heap LL ∧ FrameEnd UU oo UU' LL 0 0) := by
  refine MetFree.of_bodySF (plainFor_of_name pn_1) hisR ?_
  intro p e s m args below meth c s₁ Bd hml0 hP hK
  obtain ⟨rfl, hZ, hh⟩ := hP
  have hx := Bd.exec
  have hby := Bd.bytes
  have hlk : meth.locks = false := BodyLoose.notSynchronized Bd
  have hml : c.maxLocals = 7 := hml0
  have hown : s.vm.findClass "com/example/concordat/concordat/model/ProtocolAcknowledgesPinLaw" = some m.cls := findClass_of_methodNamed Bd.named
  have hnm := (name_of_methodNamed Bd.named Bd.method).1
  have X0 : Stand p l e room_1 s m #[(.int p0), (.int c0)] below meth c s₁ [] 0 0 := Stand.of_body Bd
  have e0 : s₁.heap = h0 := by rw [← hh, Bd.state]; rfl
  have N0 := Fr.nil n0
  have K0 : Keep h0 h0 [] := Keep.refl h0 _
  refine (?_ : Go p e below s (Q0 Z p0 c0 aPRESUMED_NOTHING aPRESUMED_ANY aPRESUMED_COMMIT aPRESUMED_ABORT h0 n0) 0 0 (s₁.setTop (entryFrame m #[(.int p0), (.int c0)] maxLocals)))
  rw [ef_rm0]
  generalize hQ : Q0 Z p0 c0 aPRESUMED_NOTHING aPRESUMED_ANY aPRESUMED_COMMIT aPRESUMED_ABORT h0 n0 = Q
  show Go p e below s Q 0 0 (s₁.setTop (mkF m 0 #[.val (.int p0), .val (.int c0), .unset, .unset, .unset, .unset, .unset] []))
  have f1 := rng32 p0
  have f2 := rng32 c0
  refine Go.st (fun _ k => XS.iloadN X0.here hx rfl (hb hby at_0) rfl k) ?_
  show Go p e below s Q 0 0 (s₁.setTop (mkF m 1 #[.val (.int p0), .val (.int c0), .unset, .unset, .unset, .unset, .unset] [(.int p0)]))
  refine Go.st (X0.ldcInt hx hown (mvT hZ (hw _ (List.mem_of_getElem? (i := 0) rfl))) (g := (mkF m 1 #[.val (.int p0), .val (.int c0), .unset, .unset, .unset, .unset, .unset] [(.int p0)])) rfl (hb hby at_1)) ?_
  show Go p e below s Q 0 0 (s₁.setTop (mkF m 3 #[.val (.int p0), .val (.int c0), .unset, .unset, .unset, .unset, .unset] [(.int (2147483647 : Int32)), (.int p0)]))
  refine Go.st (fun _ k => XS.iand X0.here hx rfl (hb hby at_3) rfl k) ?_
  show Go p e below s Q 0 0 (s₁.setTop (mkF m 4 #[.val (.int p0), .val (.int c0), .unset, .unset, .unset, .unset, .unset] [(.int (p0 &&& (2147483647 : Int32)))]))
  refine Go.st (fun _ k => XS.iconst X0.here hx rfl (hb hby at_4) k) ?_
  show Go p e below s Q 0 0 (s₁.setTop (mkF m 5 #[.val (.int p0), .val (.int c0), .unset, .unset, .unset, .unset, .unset] [(.int (3 : Int32)), (.int (p0 &&& (2147483647 : Int32)))]))
  refine Go.st (fun _ k => iremM X0 hx rfl (hb hby at_5) rfl (by decide) k) ?_
  show Go p e below s Q 0 0 (s₁.setTop (mkF m 6 #[.val (.int p0), .val (.int c0), .unset, .unset, .unset, .unset, .unset] [(.int ((p0 &&& (2147483647 : Int32)) % (3 : Int32)))]))
  refine Go.st (fun _ k => XS.istoreN X0.here hx rfl (hb hby at_6) rfl (l' := #[.val (.int p0), .val (.int c0), .val (.int ((p0 &&& (2147483647 : Int32)) % (3 : Int32))), .unset, .unset, .unset, .unset]) rfl k) ?_
  show Go p e below s Q 0 0 (s₁.setTop (mkF m 7 #[.val (.int p0), .val (.int c0), .val (.int ((p0 &&& (2147483647 : Int32)) % (3 : Int32))), .unset, .unset, .unset, .unset] []))
  have f3 := liI_2147483647
  have f4 : (p0 &&& (2147483647 : Int32)).toInt = p0.toInt % 2147483648 := c_mask p0 (2147483647 : Int32) 31 (by decide) (by decide)
  have f5 := liI_3
  have f6 := c_irem (p0 &&& (2147483647 : Int32)) (3 : Int32) 3 (by decide)
  have f7 := rng32 ((p0 &&& (2147483647 : Int32)) % (3 : Int32))
  generalize hv_v8 : ((p0 &&& (2147483647 : Int32)) % (3 : Int32)) = v8 at f6 f7 ⊢
  refine Go.st (fun _ k => XS.iloadN X0.here hx rfl (hb hby at_7) rfl k) ?_
  show Go p e below s Q 0 0 (s₁.setTop (mkF m 8 #[.val (.int p0), .val (.int c0), .val (.int v8), .unset, .unset, .unset, .unset] [(.int c0)]))
  refine Go.st (fun _ k => XS.iconst X0.here hx rfl (hb hby at_8) k) ?_
  show Go p e below s Q 0 0 (s₁.setTop (mkF m 9 #[.val (.int p0), .val (.int c0), .val (.int v8), .unset, .unset, .unset, .unset] [(.int (1 : Int32)), (.int c0)]))
  refine Go.st (fun _ k => XS.iand X0.here hx rfl (hb hby at_9) rfl k) ?_
  show Go p e below s Q 0 0 (s₁.setTop (mkF m 10 #[.val (.int p0), .val (.int c0), .val (.int v8), .unset, .unset, .unset, .unset] [(.int (c0 &&& (1 : Int32)))]))
  have f9 := liI_1
  have f10 : (c0 &&& (1 : Int32)).toInt = c0.toInt % 2 := c_mask c0 (1 : Int32) 1 (by decide) (by decide)
  have f11 := liI_0
  by_cases c12 : (c0 &&& (1 : Int32)).toInt = 0
  ·
    refine Go.st (fun _ k => XS.ifYes X0.here hx rfl (pc0 := 10) (pc' := 17) rfl (hb hby at_10) rfl ((if0 _ _).trans (teq (eqI rfl liI_0 c12)).1) (by decide) (by decide) k) ?_
    show Go p e below s Q 0 0 (s₁.setTop (mkF m 17 #[.val (.int p0), .val (.int c0), .val (.int v8), .unset, .unset, .unset, .unset] []))
    refine Go.st (fun _ k => XS.iconst X0.here hx rfl (hb hby at_17) k) ?_
    show Go p e below s Q 0 0 (s₁.setTop (mkF m 18 #[.val (.int p0), .val (.int c0), .val (.int v8), .unset, .unset, .unset, .unset] [(.int (0 : Int32))]))
    refine Go.st (fun _ k => XS.istoreN X0.here hx rfl (hb hby at_18) rfl (l' := #[.val (.int p0), .val (.int c0), .val (.int v8), .val (.int (0 : Int32)), .unset, .unset, .unset]) rfl k) ?_
    show Go p e below s Q 0 0 (s₁.setTop (mkF m 19 #[.val (.int p0), .val (.int c0), .val (.int v8), .val (.int (0 : Int32)), .unset, .unset, .unset] []))
    refine Go.st (fun _ k => XS.iloadN X0.here hx rfl (hb hby at_19) rfl k) ?_
    show Go p e below s Q 0 0 (s₁.setTop (mkF m 20 #[.val (.int p0), .val (.int c0), .val (.int v8), .val (.int (0 : Int32)), .unset, .unset, .unset] [(.int v8)]))
    by_cases c13 : v8.toInt = 0
    ·
      refine Go.st (fun _ k => XS.ifNo X0.here hx rfl (hb hby at_20) rfl ((if0 _ _).trans (teq (eqI rfl liI_0 c13)).2) k) ?_
      show Go p e below s Q 0 0 (s₁.setTop (mkF m 23 #[.val (.int p0), .val (.int c0), .val (.int v8), .val (.int (0 : Int32)), .unset, .unset, .unset] []))
      obtain ⟨T14, X14, e14, st14⟩ := getS2 X0 hx hZ hown (host := "") (Or.inl (hw _ (List.mem_of_getElem? (i := 1) rfl))) Via.refl e0 S_aPRESUMED_NOTHING (g := (mkF m 23 #[.val (.int p0), .val (.int c0), .val (.int v8), .val (.int (0 : Int32)), .unset, .unset, .unset] [])) rfl (hb hby at_23)
      refine Go.st st14 ?_
      show Go p e below s Q 0 0 (T14.setTop (mkF m 26 #[.val (.int p0), .val (.int c0), .val (.int v8), .val (.int (0 : Int32)), .unset, .unset, .unset] [(.ref aPRESUMED_NOTHING)]))
      refine Go.st (fun _ k => XS.astore X14.here hx rfl (hb hby at_26) rfl rfl (l' := #[.val (.int p0), .val (.int c0), .val (.int v8), .val (.int (0 : Int32)), .val (.ref aPRESUMED_NOTHING), .unset, .unset]) rfl k) ?_
      show Go p e below s Q 0 0 (T14.setTop (mkF m 28 #[.val (.int p0), .val (.int c0), .val (.int v8), .val (.int (0 : Int32)), .val (.ref aPRESUMED_NOTHING), .unset, .unset] []))
      refine Go.st (fun _ k => XS.iconst X14.here hx rfl (hb hby at_28) k) ?_
      show Go p e below s Q 0 0 (T14.setTop (mkF m 29 #[.val (.int p0), .val (.int c0), .val (.int v8), .val (.int (0 : Int32)), .val (.ref aPRESUMED_NOTHING), .unset, .unset] [(.int (1 : Int32))]))
      refine Go.st (fun _ k => XS.istore X14.here hx rfl (hb hby at_29) rfl (l' := #[.val (.int p0), .val (.int c0), .val (.int v8), .val (.int (0 : Int32)), .val (.ref aPRESUMED_NOTHING), .val (.int (1 : Int32)), .unset]) rfl k) ?_
      show Go p e below s Q 0 0 (T14.setTop (mkF m 31 #[.val (.int p0), .val (.int c0), .val (.int v8), .val (.int (0 : Int32)), .val (.ref aPRESUMED_NOTHING), .val (.int (1 : Int32)), .unset] []))
      refine Go.st (fun _ k => XS.goto X14.here hx rfl (pc0 := 31) (pc' := 66) rfl (hb hby at_31) (by decide) (by decide) k) ?_
      show Go p e below s Q 0 0 (T14.setTop (mkF m 66 #[.val (.int p0), .val (.int c0), .val (.int v8), .val (.int (0 : Int32)), .val (.ref aPRESUMED_NOTHING), .val (.int (1 : Int32)), .unset] []))
      refine Go.st (fun _ k => XS.aload X14.here hx rfl (hb hby at_66) rfl rfl k) ?_
      show Go p e below s Q 0 0 (T14.setTop (mkF m 68 #[.val (.int p0), .val (.int c0), .val (.int v8), .val (.int (0 : Int32)), .val (.ref aPRESUMED_NOTHING), .val (.int (1 : Int32)), .unset] [(.ref aPRESUMED_NOTHING)]))
      refine Go.st (fun _ k => XS.iloadN X14.here hx rfl (hb hby at_68) rfl k) ?_
      show Go p e below s Q 0 0 (T14.setTop (mkF m 69 #[.val (.int p0), .val (.int c0), .val (.int v8), .val (.int (0 : Int32)), .val (.ref aPRESUMED_NOTHING), .val (.int (1 : Int32)), .unset] [(.int (0 : Int32)), (.ref aPRESUMED_NOTHING)]))
      have p16 : (1 : Int32).toInt = 0 ∨ (1 : Int32).toInt = 1 := by decide
      have p17 : (1 : Int32).toInt = 0 ∨ (1 : Int32).toInt = 1 := by decide
      obtain ⟨cq15, kq15, q15a, q15b, q15c⟩ := isOf hZ e14 E_aPRESUMED_NOTHING
      obtain ⟨_, _, ⟨T15, L15, k15, n15⟩, -, X15, ⟨Lc15, hQ15, l15, y15, z15⟩, st15⟩ := X14.virtualBack hx (y := (⟨"com/example/concordat/concordat/model/Protocol", "acknowledges", "(Z)Z"⟩ : MethodName)) (z := (⟨"com/example/concordat/concordat/model/Protocol", "acknowledges", "(Z)Z"⟩ : MethodName)) hown (mvT hZ (hw _ (List.mem_of_getElem? (i := 4) rfl))) (mvT hZ (hw _ (List.mem_of_getElem? (i := 5) rfl))) (notFace_of_selects (args := #[]) (mvT hZ (hw _ (List.mem_of_getElem? (i := 7) rfl)))) (mvT hZ (hw _ (List.mem_of_getElem? (i := 7) rfl))) (mvT hZ (hw _ (List.mem_of_getElem? (i := 6) rfl))) (by decide) (backOf (W := 0) (rm1 l Z a0 hw [] aPRESUMED_NOTHING (0 : Int32) aPRESUMED_ANY (1 : Int32) (1 : Int32) h0 n0 (Nat.le_trans Z0 K0.1) S_aPRESUMED_ANY ne_aPRESUMED_NOTHING_aPRESUMED_ANY E_aPRESUMED_NOTHING F_aPRESUMED_NOTHING_commitAcknowledged F_aPRESUMED_NOTHING_abortAcknowledged p16 p17) hZ (hw _ (List.mem_of_getElem? (i := 8) rfl)) (hw _ (List.mem_of_getElem? (i := 2) rfl)) (by decide) (by decide)) q15a q15c (g := (mkF m 69 #[.val (.int p0), .val (.int c0), .val (.int v8), .val (.int (0 : Int32)), .val (.ref aPRESUMED_NOTHING), .val (.int (1 : Int32)), .unset] [(.int (0 : Int32)), (.ref aPRESUMED_NOTHING)])) rfl (by rw [hml]; rfl) (Steps.refl _) (argsL := [(.int (0 : Int32))]) (rest := []) (lenOf pd_2 rfl) rfl (by show 2 * 0 + _ ≤ _; exact Nat.le_of_eq rfl) (hb hby at_69) (fun _ _ => ⟨rfl, e14, (by decide : 0 + 0 ≤ _), (by decide : 0 + 0 ≤ _)⟩)
      dsimp only [Pt.U, Pt.locs, Pt.cells, Pt.slots] at X15 l15 y15 z15 st15 hQ15
      subst l15 y15 z15
      obtain ⟨r_18, rfl, N15q, f19, e15⟩ := hQ15
      have N15 := Fr.app N0 N15q
      refine Go.tr  st15 ?_
      show Go p e below s Q 0 0 (T15.setTop (mkF m 72 #[.val (.int p0), .val (.int c0), .val (.int v8), .val (.int (0 : Int32)), .val (.ref aPRESUMED_NOTHING), .val (.int (1 : Int32)), .unset] [(.int r_18)]))
      have f20 := rng32 r_18
      refine Go.st (fun _ k => XS.istore X15.here hx rfl (hb hby at_72) rfl (l' := #[.val (.int p0), .val (.int c0), .val (.int v8), .val (.int (0 : Int32)), .val (.ref aPRESUMED_NOTHING), .val (.int (1 : Int32)), .val (.int r_18)]) rfl k) ?_
      show Go p e below s Q 0 0 (T15.setTop (mkF m 74 #[.val (.int p0), .val (.int c0), .val (.int v8), .val (.int (0 : Int32)), .val (.ref aPRESUMED_NOTHING), .val (.int (1 : Int32)), .val (.int r_18)] []))
      refine Go.st (fun _ k => XS.iload X15.here hx rfl (hb hby at_74) rfl k) ?_
      show Go p e below s Q 0 0 (T15.setTop (mkF m 76 #[.val (.int p0), .val (.int c0), .val (.int v8), .val (.int (0 : Int32)), .val (.ref aPRESUMED_NOTHING), .val (.int (1 : Int32)), .val (.int r_18)] [(.int r_18)]))
      refine Go.st (fun _ k => XS.iload X15.here hx rfl (hb hby at_76) rfl k) ?_
      show Go p e below s Q 0 0 (T15.setTop (mkF m 78 #[.val (.int p0), .val (.int c0), .val (.int v8), .val (.int (0 : Int32)), .val (.ref aPRESUMED_NOTHING), .val (.int (1 : Int32)), .val (.int r_18)] [(.int (1 : Int32)), (.int r_18)]))
      by_cases c21 : r_18.toInt = 1
      ·
        refine Go.st (fun _ k => XS.icmpNo X15.here hx rfl (hb hby at_78) rfl (teq (eqI rfl liI_1 c21)).2 k) ?_
        show Go p e below s Q 0 0 (T15.setTop (mkF m 81 #[.val (.int p0), .val (.int c0), .val (.int v8), .val (.int (0 : Int32)), .val (.ref aPRESUMED_NOTHING), .val (.int (1 : Int32)), .val (.int r_18)] []))
        refine Go.st (fun _ k => XS.iconst X15.here hx rfl (hb hby at_81) k) ?_
        show Go p e below s Q 0 0 (T15.setTop (mkF m 82 #[.val (.int p0), .val (.int c0), .val (.int v8), .val (.int (0 : Int32)), .val (.ref aPRESUMED_NOTHING), .val (.int (1 : Int32)), .val (.int r_18)] [(.int (1 : Int32))]))
        refine Go.st (fun _ k => XS.goto X15.here hx rfl (pc0 := 82) (pc' := 86) rfl (hb hby at_82) (by decide) (by decide) k) ?_
        show Go p e below s Q 0 0 (T15.setTop (mkF m 86 #[.val (.int p0), .val (.int c0), .val (.int v8), .val (.int (0 : Int32)), .val (.ref aPRESUMED_NOTHING), .val (.int (1 : Int32)), .val (.int r_18)] [(.int (1 : Int32))]))
        exact Go.retN X15 hx hlk (by simp) Bd.returns (hb hby at_86) (z' := (1 : Int32)) (by decide) (by rw [← hQ, e15]; exact ⟨rfl, N15, rfl⟩) (by decide) (by decide)
      ·
        refine Go.st (fun _ k => XS.icmpYes X15.here hx rfl (pc0 := 78) (pc' := 85) rfl (hb hby at_78) rfl (feq (neI rfl liI_1 c21)).2 (by decide) (by decide) k) ?_
        show Go p e below s Q 0 0 (T15.setTop (mkF m 85 #[.val (.int p0), .val (.int c0), .val (.int v8), .val (.int (0 : Int32)), .val (.ref aPRESUMED_NOTHING), .val (.int (1 : Int32)), .val (.int r_18)] []))
        refine Go.st (fun _ k => XS.iconst X15.here hx rfl (hb hby at_85) k) ?_
        show Go p e below s Q 0 0 (T15.setTop (mkF m 86 #[.val (.int p0), .val (.int c0), .val (.int v8), .val (.int (0 : Int32)), .val (.ref aPRESUMED_NOTHING), .val (.int (1 : Int32)), .val (.int r_18)] [(.int (0 : Int32))]))
        exact Go.retN X15 hx hlk (by simp) Bd.returns (hb hby at_86) (z' := (0 : Int32)) (by decide) (by rw [← hQ, e15]; exact ⟨congrArg (fun z => some (Value.int z)) (Int32.toInt_inj.mp (by omega)), N15, rfl⟩) (by decide) (by decide)
    ·
      refine Go.st (fun _ k => XS.ifYes X0.here hx rfl (pc0 := 20) (pc' := 34) rfl (hb hby at_20) rfl ((if0 _ _).trans (feq (neI rfl liI_0 c13)).2) (by decide) (by decide) k) ?_
      show Go p e below s Q 0 0 (s₁.setTop (mkF m 34 #[.val (.int p0), .val (.int c0), .val (.int v8), .val (.int (0 : Int32)), .unset, .unset, .unset] []))
      refine Go.st (fun _ k => XS.iloadN X0.here hx rfl (hb hby at_34) rfl k) ?_
      show Go p e below s Q 0 0 (s₁.setTop (mkF m 35 #[.val (.int p0), .val (.int c0), .val (.int v8), .val (.int (0 : Int32)), .unset, .unset, .unset] [(.int v8)]))
      refine Go.st (fun _ k => XS.iconst X0.here hx rfl (hb hby at_35) k) ?_
      show Go p e below s Q 0 0 (s₁.setTop (mkF m 36 #[.val (.int p0), .val (.int c0), .val (.int v8), .val (.int (0 : Int32)), .unset, .unset, .unset] [(.int (1 : Int32)), (.int v8)]))
      by_cases c22 : v8.toInt = 1
      ·
        refine Go.st (fun _ k => XS.icmpNo X0.here hx rfl (hb hby at_36) rfl (teq (eqI rfl liI_1 c22)).2 k) ?_
        show Go p e below s Q 0 0 (s₁.setTop (mkF m 39 #[.val (.int p0), .val (.int c0), .val (.int v8), .val (.int (0 : Int32)), .unset, .unset, .unset] []))
        obtain ⟨T23, X23, e23, st23⟩ := getS2 X0 hx hZ hown (host := "") (Or.inl (hw _ (List.mem_of_getElem? (i := 26) rfl))) Via.refl e0 S_aPRESUMED_ABORT (g := (mkF m 39 #[.val (.int p0), .val (.int c0), .val (.int v8), .val (.int (0 : Int32)), .unset, .unset, .unset] [])) rfl (hb hby at_39)
        refine Go.st st23 ?_
        show Go p e below s Q 0 0 (T23.setTop (mkF m 42 #[.val (.int p0), .val (.int c0), .val (.int v8), .val (.int (0 : Int32)), .unset, .unset, .unset] [(.ref aPRESUMED_ABORT)]))
        refine Go.st (fun _ k => XS.astore X23.here hx rfl (hb hby at_42) rfl rfl (l' := #[.val (.int p0), .val (.int c0), .val (.int v8), .val (.int (0 : Int32)), .val (.ref aPRESUMED_ABORT), .unset, .unset]) rfl k) ?_
        show Go p e below s Q 0 0 (T23.setTop (mkF m 44 #[.val (.int p0), .val (.int c0), .val (.int v8), .val (.int (0 : Int32)), .val (.ref aPRESUMED_ABORT), .unset, .unset] []))
        refine Go.st (fun _ k => XS.iloadN X23.here hx rfl (hb hby at_44) rfl k) ?_
        show Go p e below s Q 0 0 (T23.setTop (mkF m 45 #[.val (.int p0), .val (.int c0), .val (.int v8), .val (.int (0 : Int32)), .val (.ref aPRESUMED_ABORT), .unset, .unset] [(.int (0 : Int32))]))
        refine Go.st (fun _ k => XS.istore X23.here hx rfl (hb hby at_45) rfl (l' := #[.val (.int p0), .val (.int c0), .val (.int v8), .val (.int (0 : Int32)), .val (.ref aPRESUMED_ABORT), .val (.int (0 : Int32)), .unset]) rfl k) ?_
        show Go p e below s Q 0 0 (T23.setTop (mkF m 47 #[.val (.int p0), .val (.int c0), .val (.int v8), .val (.int (0 : Int32)), .val (.ref aPRESUMED_ABORT), .val (.int (0 : Int32)), .unset] []))
        refine Go.st (fun _ k => XS.goto X23.here hx rfl (pc0 := 47) (pc' := 66) rfl (hb hby at_47) (by decide) (by decide) k) ?_
        show Go p e below s Q 0 0 (T23.setTop (mkF m 66 #[.val (.int p0), .val (.int c0), .val (.int v8), .val (.int (0 : Int32)), .val (.ref aPRESUMED_ABORT), .val (.int (0 : Int32)), .unset] []))
        refine Go.st (fun _ k => XS.aload X23.here hx rfl (hb hby at_66) rfl rfl k) ?_
        show Go p e below s Q 0 0 (T23.setTop (mkF m 68 #[.val (.int p0), .val (.int c0), .val (.int v8), .val (.int (0 : Int32)), .val (.ref aPRESUMED_ABORT), .val (.int (0 : Int32)), .unset] [(.ref aPRESUMED_ABORT)]))
        refine Go.st (fun _ k => XS.iloadN X23.here hx rfl (hb hby at_68) rfl k) ?_
        show Go p e below s Q 0 0 (T23.setTop (mkF m 69 #[.val (.int p0), .val (.int c0), .val (.int v8), .val (.int (0 : Int32)), .val (.ref aPRESUMED_ABORT), .val (.int (0 : Int32)), .unset] [(.int (0 : Int32)), (.ref aPRESUMED_ABORT)]))
        have p25 : (1 : Int32).toInt = 0 ∨ (1 : Int32).toInt = 1 := by decide
        have p26 : (0 : Int32).toInt = 0 ∨ (0 : Int32).toInt = 1 := by decide
        obtain ⟨cq24, kq24, q24a, q24b, q24c⟩ := isOf hZ e23 E_aPRESUMED_ABORT
        obtain ⟨_, _, ⟨T24, L24, k24, n24⟩, -, X24, ⟨Lc24, hQ24, l24, y24, z24⟩, st24⟩ := X23.virtualBack hx (y := (⟨"com/example/concordat/concordat/model/Protocol", "acknowledges", "(Z)Z"⟩ : MethodName)) (z := (⟨"com/example/concordat/concordat/model/Protocol", "acknowledges", "(Z)Z"⟩ : MethodName)) hown (mvT hZ (hw _ (List.mem_of_getElem? (i := 4) rfl))) (mvT hZ (hw _ (List.mem_of_getElem? (i := 5) rfl))) (notFace_of_selects (args := #[]) (mvT hZ (hw _ (List.mem_of_getElem? (i := 7) rfl)))) (mvT hZ (hw _ (List.mem_of_getElem? (i := 7) rfl))) (mvT hZ (hw _ (List.mem_of_getElem? (i := 6) rfl))) (by decide) (backOf (W := 0) (rm1 l Z a0 hw [] aPRESUMED_ABORT (0 : Int32) aPRESUMED_ANY (1 : Int32) (0 : Int32) h0 n0 (Nat.le_trans Z0 K0.1) S_aPRESUMED_ANY (Ne.symm ne_aPRESUMED_ANY_aPRESUMED_ABORT) E_aPRESUMED_ABORT F_aPRESUMED_ABORT_commitAcknowledged F_aPRESUMED_ABORT_abortAcknowledged p25 p26) hZ (hw _ (List.mem_of_getElem? (i := 8) rfl)) (hw _ (List.mem_of_getElem? (i := 2) rfl)) (by decide) (by decide)) q24a q24c (g := (mkF m 69 #[.val (.int p0), .val (.int c0), .val (.int v8), .val (.int (0 : Int32)), .val (.ref aPRESUMED_ABORT), .val (.int (0 : Int32)), .unset] [(.int (0 : Int32)), (.ref aPRESUMED_ABORT)])) rfl (by rw [hml]; rfl) (Steps.refl _) (argsL := [(.int (0 : Int32))]) (rest := []) (lenOf pd_2 rfl) rfl (by show 2 * 0 + _ ≤ _; exact Nat.le_of_eq rfl) (hb hby at_69) (fun _ _ => ⟨rfl, e23, (by decide : 0 + 0 ≤ _), (by decide : 0 + 0 ≤ _)⟩)
        dsimp only [Pt.U, Pt.locs, Pt.cells, Pt.slots] at X24 l24 y24 z24 st24 hQ24
        subst l24 y24 z24
        obtain ⟨r_27, rfl, N24q, f28, e24⟩ := hQ24
        have N24 := Fr.app N0 N24q
        refine Go.tr  st24 ?_
        show Go p e below s Q 0 0 (T24.setTop (mkF m 72 #[.val (.int p0), .val (.int c0), .val (.int v8), .val (.int (0 : Int32)), .val (.ref aPRESUMED_ABORT), .val (.int (0 : Int32)), .unset] [(.int r_27)]))
        have f29 := rng32 r_27
        refine Go.st (fun _ k => XS.istore X24.here hx rfl (hb hby at_72) rfl (l' := #[.val (.int p0), .val (.int c0), .val (.int v8), .val (.int (0 : Int32)), .val (.ref aPRESUMED_ABORT), .val (.int (0 : Int32)), .val (.int r_27)]) rfl k) ?_
        show Go p e below s Q 0 0 (T24.setTop (mkF m 74 #[.val (.int p0), .val (.int c0), .val (.int v8), .val (.int (0 : Int32)), .val (.ref aPRESUMED_ABORT), .val (.int (0 : Int32)), .val (.int r_27)] []))
        refine Go.st (fun _ k => XS.iload X24.here hx rfl (hb hby at_74) rfl k) ?_
        show Go p e below s Q 0 0 (T24.setTop (mkF m 76 #[.val (.int p0), .val (.int c0), .val (.int v8), .val (.int (0 : Int32)), .val (.ref aPRESUMED_ABORT), .val (.int (0 : Int32)), .val (.int r_27)] [(.int r_27)]))
        refine Go.st (fun _ k => XS.iload X24.here hx rfl (hb hby at_76) rfl k) ?_
        show Go p e below s Q 0 0 (T24.setTop (mkF m 78 #[.val (.int p0), .val (.int c0), .val (.int v8), .val (.int (0 : Int32)), .val (.ref aPRESUMED_ABORT), .val (.int (0 : Int32)), .val (.int r_27)] [(.int (0 : Int32)), (.int r_27)]))
        by_cases c30 : r_27.toInt = 0
        ·
          refine Go.st (fun _ k => XS.icmpNo X24.here hx rfl (hb hby at_78) rfl (teq (eqI rfl liI_0 c30)).2 k) ?_
          show Go p e below s Q 0 0 (T24.setTop (mkF m 81 #[.val (.int p0), .val (.int c0), .val (.int v8), .val (.int (0 : Int32)), .val (.ref aPRESUMED_ABORT), .val (.int (0 : Int32)), .val (.int r_27)] []))
          refine Go.st (fun _ k => XS.iconst X24.here hx rfl (hb hby at_81) k) ?_
          show Go p e below s Q 0 0 (T24.setTop (mkF m 82 #[.val (.int p0), .val (.int c0), .val (.int v8), .val (.int (0 : Int32)), .val (.ref aPRESUMED_ABORT), .val (.int (0 : Int32)), .val (.int r_27)] [(.int (1 : Int32))]))
          refine Go.st (fun _ k => XS.goto X24.here hx rfl (pc0 := 82) (pc' := 86) rfl (hb hby at_82) (by decide) (by decide) k) ?_
          show Go p e below s Q 0 0 (T24.setTop (mkF m 86 #[.val (.int p0), .val (.int c0), .val (.int v8), .val (.int (0 : Int32)), .val (.ref aPRESUMED_ABORT), .val (.int (0 : Int32)), .val (.int r_27)] [(.int (1 : Int32))]))
          exact Go.retN X24 hx hlk (by simp) Bd.returns (hb hby at_86) (z' := (1 : Int32)) (by decide) (by rw [← hQ, e24]; exact ⟨rfl, N24, rfl⟩) (by decide) (by decide)
        ·
          refine Go.st (fun _ k => XS.icmpYes X24.here hx rfl (pc0 := 78) (pc' := 85) rfl (hb hby at_78) rfl (feq (neI rfl liI_0 c30)).2 (by decide) (by decide) k) ?_
          show Go p e below s Q 0 0 (T24.setTop (mkF m 85 #[.val (.int p0), .val (.int c0), .val (.int v8), .val (.int (0 : Int32)), .val (.ref aPRESUMED_ABORT), .val (.int (0 : Int32)), .val (.int r_27)] []))
          refine Go.st (fun _ k => XS.iconst X24.here hx rfl (hb hby at_85) k) ?_
          show Go p e below s Q 0 0 (T24.setTop (mkF m 86 #[.val (.int p0), .val (.int c0), .val (.int v8), .val (.int (0 : Int32)), .val (.ref aPRESUMED_ABORT), .val (.int (0 : Int32)), .val (.int r_27)] [(.int (0 : Int32))]))
          exact Go.retN X24 hx hlk (by simp) Bd.returns (hb hby at_86) (z' := (0 : Int32)) (by decide) (by rw [← hQ, e24]; exact ⟨congrArg (fun z => some (Value.int z)) (Int32.toInt_inj.mp (by omega)), N24, rfl⟩) (by decide) (by decide)
      ·
        refine Go.st (fun _ k => XS.icmpYes X0.here hx rfl (pc0 := 36) (pc' := 50) rfl (hb hby at_36) rfl (feq (neI rfl liI_1 c22)).2 (by decide) (by decide) k) ?_
        show Go p e below s Q 0 0 (s₁.setTop (mkF m 50 #[.val (.int p0), .val (.int c0), .val (.int v8), .val (.int (0 : Int32)), .unset, .unset, .unset] []))
        obtain ⟨T31, X31, e31, st31⟩ := getS2 X0 hx hZ hown (host := "") (Or.inl (hw _ (List.mem_of_getElem? (i := 22) rfl))) Via.refl e0 S_aPRESUMED_COMMIT (g := (mkF m 50 #[.val (.int p0), .val (.int c0), .val (.int v8), .val (.int (0 : Int32)), .unset, .unset, .unset] [])) rfl (hb hby at_50)
        refine Go.st st31 ?_
        show Go p e below s Q 0 0 (T31.setTop (mkF m 53 #[.val (.int p0), .val (.int c0), .val (.int v8), .val (.int (0 : Int32)), .unset, .unset, .unset] [(.ref aPRESUMED_COMMIT)]))
        refine Go.st (fun _ k => XS.astore X31.here hx rfl (hb hby at_53) rfl rfl (l' := #[.val (.int p0), .val (.int c0), .val (.int v8), .val (.int (0 : Int32)), .val (.ref aPRESUMED_COMMIT), .unset, .unset]) rfl k) ?_
        show Go p e below s Q 0 0 (T31.setTop (mkF m 55 #[.val (.int p0), .val (.int c0), .val (.int v8), .val (.int (0 : Int32)), .val (.ref aPRESUMED_COMMIT), .unset, .unset] []))
        refine Go.st (fun _ k => XS.iloadN X31.here hx rfl (hb hby at_55) rfl k) ?_
        show Go p e below s Q 0 0 (T31.setTop (mkF m 56 #[.val (.int p0), .val (.int c0), .val (.int v8), .val (.int (0 : Int32)), .val (.ref aPRESUMED_COMMIT), .unset, .unset] [(.int (0 : Int32))]))
        refine Go.st (fun _ k => XS.ifNo X31.here hx rfl (hb hby at_56) rfl ((if0 _ _).trans (teq (eqI liI_0 liI_0 (by decide))).2) k) ?_
        show Go p e below s Q 0 0 (T31.setTop (mkF m 59 #[.val (.int p0), .val (.int c0), .val (.int v8), .val (.int (0 : Int32)), .val (.ref aPRESUMED_COMMIT), .unset, .unset] []))
        refine Go.st (fun _ k => XS.iconst X31.here hx rfl (hb hby at_59) k) ?_
        show Go p e below s Q 0 0 (T31.setTop (mkF m 60 #[.val (.int p0), .val (.int c0), .val (.int v8), .val (.int (0 : Int32)), .val (.ref aPRESUMED_COMMIT), .unset, .unset] [(.int (1 : Int32))]))
        refine Go.st (fun _ k => XS.goto X31.here hx rfl (pc0 := 60) (pc' := 64) rfl (hb hby at_60) (by decide) (by decide) k) ?_
        show Go p e below s Q 0 0 (T31.setTop (mkF m 64 #[.val (.int p0), .val (.int c0), .val (.int v8), .val (.int (0 : Int32)), .val (.ref aPRESUMED_COMMIT), .unset, .unset] [(.int (1 : Int32))]))
        refine Go.st (fun _ k => XS.istore X31.here hx rfl (hb hby at_64) rfl (l' := #[.val (.int p0), .val (.int c0), .val (.int v8), .val (.int (0 : Int32)), .val (.ref aPRESUMED_COMMIT), .val (.int (1 : Int32)), .unset]) rfl k) ?_
        show Go p e below s Q 0 0 (T31.setTop (mkF m 66 #[.val (.int p0), .val (.int c0), .val (.int v8), .val (.int (0 : Int32)), .val (.ref aPRESUMED_COMMIT), .val (.int (1 : Int32)), .unset] []))
        refine Go.st (fun _ k => XS.aload X31.here hx rfl (hb hby at_66) rfl rfl k) ?_
        show Go p e below s Q 0 0 (T31.setTop (mkF m 68 #[.val (.int p0), .val (.int c0), .val (.int v8), .val (.int (0 : Int32)), .val (.ref aPRESUMED_COMMIT), .val (.int (1 : Int32)), .unset] [(.ref aPRESUMED_COMMIT)]))
        refine Go.st (fun _ k => XS.iloadN X31.here hx rfl (hb hby at_68) rfl k) ?_
        show Go p e below s Q 0 0 (T31.setTop (mkF m 69 #[.val (.int p0), .val (.int c0), .val (.int v8), .val (.int (0 : Int32)), .val (.ref aPRESUMED_COMMIT), .val (.int (1 : Int32)), .unset] [(.int (0 : Int32)), (.ref aPRESUMED_COMMIT)]))
        have p33 : (0 : Int32).toInt = 0 ∨ (0 : Int32).toInt = 1 := by decide
        have p34 : (1 : Int32).toInt = 0 ∨ (1 : Int32).toInt = 1 := by decide
        obtain ⟨cq32, kq32, q32a, q32b, q32c⟩ := isOf hZ e31 E_aPRESUMED_COMMIT
        obtain ⟨_, _, ⟨T32, L32, k32, n32⟩, -, X32, ⟨Lc32, hQ32, l32, y32, z32⟩, st32⟩ := X31.virtualBack hx (y := (⟨"com/example/concordat/concordat/model/Protocol", "acknowledges", "(Z)Z"⟩ : MethodName)) (z := (⟨"com/example/concordat/concordat/model/Protocol", "acknowledges", "(Z)Z"⟩ : MethodName)) hown (mvT hZ (hw _ (List.mem_of_getElem? (i := 4) rfl))) (mvT hZ (hw _ (List.mem_of_getElem? (i := 5) rfl))) (notFace_of_selects (args := #[]) (mvT hZ (hw _ (List.mem_of_getElem? (i := 7) rfl)))) (mvT hZ (hw _ (List.mem_of_getElem? (i := 7) rfl))) (mvT hZ (hw _ (List.mem_of_getElem? (i := 6) rfl))) (by decide) (backOf (W := 0) (rm1 l Z a0 hw [] aPRESUMED_COMMIT (0 : Int32) aPRESUMED_ANY (0 : Int32) (1 : Int32) h0 n0 (Nat.le_trans Z0 K0.1) S_aPRESUMED_ANY (Ne.symm ne_aPRESUMED_ANY_aPRESUMED_COMMIT) E_aPRESUMED_COMMIT F_aPRESUMED_COMMIT_commitAcknowledged F_aPRESUMED_COMMIT_abortAcknowledged p33 p34) hZ (hw _ (List.mem_of_getElem? (i := 8) rfl)) (hw _ (List.mem_of_getElem? (i := 2) rfl)) (by decide) (by decide)) q32a q32c (g := (mkF m 69 #[.val (.int p0), .val (.int c0), .val (.int v8), .val (.int (0 : Int32)), .val (.ref aPRESUMED_COMMIT), .val (.int (1 : Int32)), .unset] [(.int (0 : Int32)), (.ref aPRESUMED_COMMIT)])) rfl (by rw [hml]; rfl) (Steps.refl _) (argsL := [(.int (0 : Int32))]) (rest := []) (lenOf pd_2 rfl) rfl (by show 2 * 0 + _ ≤ _; exact Nat.le_of_eq rfl) (hb hby at_69) (fun _ _ => ⟨rfl, e31, (by decide : 0 + 0 ≤ _), (by decide : 0 + 0 ≤ _)⟩)
        dsimp only [Pt.U, Pt.locs, Pt.cells, Pt.slots] at X32 l32 y32 z32 st32 hQ32
        subst l32 y32 z32
        obtain ⟨r_35, rfl, N32q, f36, e32⟩ := hQ32
        have N32 := Fr.app N0 N32q
        refine Go.tr  st32 ?_
        show Go p e below s Q 0 0 (T32.setTop (mkF m 72 #[.val (.int p0), .val (.int c0), .val (.int v8), .val (.int (0 : Int32)), .val (.ref aPRESUMED_COMMIT), .val (.int (1 : Int32)), .unset] [(.int r_35)]))
        have f37 := rng32 r_35
        refine Go.st (fun _ k => XS.istore X32.here hx rfl (hb hby at_72) rfl (l' := #[.val (.int p0), .val (.int c0), .val (.int v8), .val (.int (0 : Int32)), .val (.ref aPRESUMED_COMMIT), .val (.int (1 : Int32)), .val (.int r_35)]) rfl k) ?_
        show Go p e below s Q 0 0 (T32.setTop (mkF m 74 #[.val (.int p0), .val (.int c0), .val (.int v8), .val (.int (0 : Int32)), .val (.ref aPRESUMED_COMMIT), .val (.int (1 : Int32)), .val (.int r_35)] []))
        refine Go.st (fun _ k => XS.iload X32.here hx rfl (hb hby at_74) rfl k) ?_
        show Go p e below s Q 0 0 (T32.setTop (mkF m 76 #[.val (.int p0), .val (.int c0), .val (.int v8), .val (.int (0 : Int32)), .val (.ref aPRESUMED_COMMIT), .val (.int (1 : Int32)), .val (.int r_35)] [(.int r_35)]))
        refine Go.st (fun _ k => XS.iload X32.here hx rfl (hb hby at_76) rfl k) ?_
        show Go p e below s Q 0 0 (T32.setTop (mkF m 78 #[.val (.int p0), .val (.int c0), .val (.int v8), .val (.int (0 : Int32)), .val (.ref aPRESUMED_COMMIT), .val (.int (1 : Int32)), .val (.int r_35)] [(.int (1 : Int32)), (.int r_35)]))
        by_cases c38 : r_35.toInt = 1
        ·
          refine Go.st (fun _ k => XS.icmpNo X32.here hx rfl (hb hby at_78) rfl (teq (eqI rfl liI_1 c38)).2 k) ?_
          show Go p e below s Q 0 0 (T32.setTop (mkF m 81 #[.val (.int p0), .val (.int c0), .val (.int v8), .val (.int (0 : Int32)), .val (.ref aPRESUMED_COMMIT), .val (.int (1 : Int32)), .val (.int r_35)] []))
          refine Go.st (fun _ k => XS.iconst X32.here hx rfl (hb hby at_81) k) ?_
          show Go p e below s Q 0 0 (T32.setTop (mkF m 82 #[.val (.int p0), .val (.int c0), .val (.int v8), .val (.int (0 : Int32)), .val (.ref aPRESUMED_COMMIT), .val (.int (1 : Int32)), .val (.int r_35)] [(.int (1 : Int32))]))
          refine Go.st (fun _ k => XS.goto X32.here hx rfl (pc0 := 82) (pc' := 86) rfl (hb hby at_82) (by decide) (by decide) k) ?_
          show Go p e below s Q 0 0 (T32.setTop (mkF m 86 #[.val (.int p0), .val (.int c0), .val (.int v8), .val (.int (0 : Int32)), .val (.ref aPRESUMED_COMMIT), .val (.int (1 : Int32)), .val (.int r_35)] [(.int (1 : Int32))]))
          exact Go.retN X32 hx hlk (by simp) Bd.returns (hb hby at_86) (z' := (1 : Int32)) (by decide) (by rw [← hQ, e32]; exact ⟨rfl, N32, rfl⟩) (by decide) (by decide)
        ·
          refine Go.st (fun _ k => XS.icmpYes X32.here hx rfl (pc0 := 78) (pc' := 85) rfl (hb hby at_78) rfl (feq (neI rfl liI_1 c38)).2 (by decide) (by decide) k) ?_
          show Go p e below s Q 0 0 (T32.setTop (mkF m 85 #[.val (.int p0), .val (.int c0), .val (.int v8), .val (.int (0 : Int32)), .val (.ref aPRESUMED_COMMIT), .val (.int (1 : Int32)), .val (.int r_35)] []))
          refine Go.st (fun _ k => XS.iconst X32.here hx rfl (hb hby at_85) k) ?_
          show Go p e below s Q 0 0 (T32.setTop (mkF m 86 #[.val (.int p0), .val (.int c0), .val (.int v8), .val (.int (0 : Int32)), .val (.ref aPRESUMED_COMMIT), .val (.int (1 : Int32)), .val (.int r_35)] [(.int (0 : Int32))]))
          exact Go.retN X32 hx hlk (by simp) Bd.returns (hb hby at_86) (z' := (0 : Int32)) (by decide) (by rw [← hQ, e32]; exact ⟨congrArg (fun z => some (Value.int z)) (Int32.toInt_inj.mp (by omega)), N32, rfl⟩) (by decide) (by decide)
  ·
    refine Go.st (fun _ k => XS.ifNo X0.here hx rfl (hb hby at_10) rfl ((if0 _ _).trans (feq (neI rfl liI_0 c12)).1) k) ?_
    show Go p e below s Q 0 0 (s₁.setTop (mkF m 13 #[.val (.int p0), .val (.int c0), .val (.int v8), .unset, .unset, .unset, .unset] []))
    refine Go.st (fun _ k => XS.iconst X0.here hx rfl (hb hby at_13) k) ?_
    show Go p e below s Q 0 0 (s₁.setTop (mkF m 14 #[.val (.int p0), .val (.int c0), .val (.int v8), .unset, .unset, .unset, .unset] [(.int (1 : Int32))]))
    refine Go.st (fun _ k => XS.goto X0.here hx rfl (pc0 := 14) (pc' := 18) rfl (hb hby at_14) (by decide) (by decide) k) ?_
    show Go p e below s Q 0 0 (s₁.setTop (mkF m 18 #[.val (.int p0), .val (.int c0), .val (.int v8), .unset, .unset, .unset, .unset] [(.int (1 : Int32))]))
    refine Go.st (fun _ k => XS.istoreN X0.here hx rfl (hb hby at_18) rfl (l' := #[.val (.int p0), .val (.int c0), .val (.int v8), .val (.int (1 : Int32)), .unset, .unset, .unset]) rfl k) ?_
    show Go p e below s Q 0 0 (s₁.setTop (mkF m 19 #[.val (.int p0), .val (.int c0), .val (.int v8), .val (.int (1 : Int32)), .unset, .unset, .unset] []))
    refine Go.st (fun _ k => XS.iloadN X0.here hx rfl (hb hby at_19) rfl k) ?_
    show Go p e below s Q 0 0 (s₁.setTop (mkF m 20 #[.val (.int p0), .val (.int c0), .val (.int v8), .val (.int (1 : Int32)), .unset, .unset, .unset] [(.int v8)]))
    by_cases c39 : v8.toInt = 0
    ·
      refine Go.st (fun _ k => XS.ifNo X0.here hx rfl (hb hby at_20) rfl ((if0 _ _).trans (teq (eqI rfl liI_0 c39)).2) k) ?_
      show Go p e below s Q 0 0 (s₁.setTop (mkF m 23 #[.val (.int p0), .val (.int c0), .val (.int v8), .val (.int (1 : Int32)), .unset, .unset, .unset] []))
      obtain ⟨T40, X40, e40, st40⟩ := getS2 X0 hx hZ hown (host := "") (Or.inl (hw _ (List.mem_of_getElem? (i := 1) rfl))) Via.refl e0 S_aPRESUMED_NOTHING (g := (mkF m 23 #[.val (.int p0), .val (.int c0), .val (.int v8), .val (.int (1 : Int32)), .unset, .unset, .unset] [])) rfl (hb hby at_23)
      refine Go.st st40 ?_
      show Go p e below s Q 0 0 (T40.setTop (mkF m 26 #[.val (.int p0), .val (.int c0), .val (.int v8), .val (.int (1 : Int32)), .unset, .unset, .unset] [(.ref aPRESUMED_NOTHING)]))
      refine Go.st (fun _ k => XS.astore X40.here hx rfl (hb hby at_26) rfl rfl (l' := #[.val (.int p0), .val (.int c0), .val (.int v8), .val (.int (1 : Int32)), .val (.ref aPRESUMED_NOTHING), .unset, .unset]) rfl k) ?_
      show Go p e below s Q 0 0 (T40.setTop (mkF m 28 #[.val (.int p0), .val (.int c0), .val (.int v8), .val (.int (1 : Int32)), .val (.ref aPRESUMED_NOTHING), .unset, .unset] []))
      refine Go.st (fun _ k => XS.iconst X40.here hx rfl (hb hby at_28) k) ?_
      show Go p e below s Q 0 0 (T40.setTop (mkF m 29 #[.val (.int p0), .val (.int c0), .val (.int v8), .val (.int (1 : Int32)), .val (.ref aPRESUMED_NOTHING), .unset, .unset] [(.int (1 : Int32))]))
      refine Go.st (fun _ k => XS.istore X40.here hx rfl (hb hby at_29) rfl (l' := #[.val (.int p0), .val (.int c0), .val (.int v8), .val (.int (1 : Int32)), .val (.ref aPRESUMED_NOTHING), .val (.int (1 : Int32)), .unset]) rfl k) ?_
      show Go p e below s Q 0 0 (T40.setTop (mkF m 31 #[.val (.int p0), .val (.int c0), .val (.int v8), .val (.int (1 : Int32)), .val (.ref aPRESUMED_NOTHING), .val (.int (1 : Int32)), .unset] []))
      refine Go.st (fun _ k => XS.goto X40.here hx rfl (pc0 := 31) (pc' := 66) rfl (hb hby at_31) (by decide) (by decide) k) ?_
      show Go p e below s Q 0 0 (T40.setTop (mkF m 66 #[.val (.int p0), .val (.int c0), .val (.int v8), .val (.int (1 : Int32)), .val (.ref aPRESUMED_NOTHING), .val (.int (1 : Int32)), .unset] []))
      refine Go.st (fun _ k => XS.aload X40.here hx rfl (hb hby at_66) rfl rfl k) ?_
      show Go p e below s Q 0 0 (T40.setTop (mkF m 68 #[.val (.int p0), .val (.int c0), .val (.int v8), .val (.int (1 : Int32)), .val (.ref aPRESUMED_NOTHING), .val (.int (1 : Int32)), .unset] [(.ref aPRESUMED_NOTHING)]))
      refine Go.st (fun _ k => XS.iloadN X40.here hx rfl (hb hby at_68) rfl k) ?_
      show Go p e below s Q 0 0 (T40.setTop (mkF m 69 #[.val (.int p0), .val (.int c0), .val (.int v8), .val (.int (1 : Int32)), .val (.ref aPRESUMED_NOTHING), .val (.int (1 : Int32)), .unset] [(.int (1 : Int32)), (.ref aPRESUMED_NOTHING)]))
      have p42 : (1 : Int32).toInt = 0 ∨ (1 : Int32).toInt = 1 := by decide
      have p43 : (1 : Int32).toInt = 0 ∨ (1 : Int32).toInt = 1 := by decide
      obtain ⟨cq41, kq41, q41a, q41b, q41c⟩ := isOf hZ e40 E_aPRESUMED_NOTHING
      obtain ⟨_, _, ⟨T41, L41, k41, n41⟩, -, X41, ⟨Lc41, hQ41, l41, y41, z41⟩, st41⟩ := X40.virtualBack hx (y := (⟨"com/example/concordat/concordat/model/Protocol", "acknowledges", "(Z)Z"⟩ : MethodName)) (z := (⟨"com/example/concordat/concordat/model/Protocol", "acknowledges", "(Z)Z"⟩ : MethodName)) hown (mvT hZ (hw _ (List.mem_of_getElem? (i := 4) rfl))) (mvT hZ (hw _ (List.mem_of_getElem? (i := 5) rfl))) (notFace_of_selects (args := #[]) (mvT hZ (hw _ (List.mem_of_getElem? (i := 7) rfl)))) (mvT hZ (hw _ (List.mem_of_getElem? (i := 7) rfl))) (mvT hZ (hw _ (List.mem_of_getElem? (i := 6) rfl))) (by decide) (backOf (W := 0) (rm1 l Z a0 hw [] aPRESUMED_NOTHING (1 : Int32) aPRESUMED_ANY (1 : Int32) (1 : Int32) h0 n0 (Nat.le_trans Z0 K0.1) S_aPRESUMED_ANY ne_aPRESUMED_NOTHING_aPRESUMED_ANY E_aPRESUMED_NOTHING F_aPRESUMED_NOTHING_commitAcknowledged F_aPRESUMED_NOTHING_abortAcknowledged p42 p43) hZ (hw _ (List.mem_of_getElem? (i := 8) rfl)) (hw _ (List.mem_of_getElem? (i := 2) rfl)) (by decide) (by decide)) q41a q41c (g := (mkF m 69 #[.val (.int p0), .val (.int c0), .val (.int v8), .val (.int (1 : Int32)), .val (.ref aPRESUMED_NOTHING), .val (.int (1 : Int32)), .unset] [(.int (1 : Int32)), (.ref aPRESUMED_NOTHING)])) rfl (by rw [hml]; rfl) (Steps.refl _) (argsL := [(.int (1 : Int32))]) (rest := []) (lenOf pd_2 rfl) rfl (by show 2 * 0 + _ ≤ _; exact Nat.le_of_eq rfl) (hb hby at_69) (fun _ _ => ⟨rfl, e40, (by decide : 0 + 0 ≤ _), (by decide : 0 + 0 ≤ _)⟩)
      dsimp only [Pt.U, Pt.locs, Pt.cells, Pt.slots] at X41 l41 y41 z41 st41 hQ41
      subst l41 y41 z41
      obtain ⟨r_44, rfl, N41q, f45, e41⟩ := hQ41
      have N41 := Fr.app N0 N41q
      refine Go.tr  st41 ?_
      show Go p e below s Q 0 0 (T41.setTop (mkF m 72 #[.val (.int p0), .val (.int c0), .val (.int v8), .val (.int (1 : Int32)), .val (.ref aPRESUMED_NOTHING), .val (.int (1 : Int32)), .unset] [(.int r_44)]))
      have f46 := rng32 r_44
      refine Go.st (fun _ k => XS.istore X41.here hx rfl (hb hby at_72) rfl (l' := #[.val (.int p0), .val (.int c0), .val (.int v8), .val (.int (1 : Int32)), .val (.ref aPRESUMED_NOTHING), .val (.int (1 : Int32)), .val (.int r_44)]) rfl k) ?_
      show Go p e below s Q 0 0 (T41.setTop (mkF m 74 #[.val (.int p0), .val (.int c0), .val (.int v8), .val (.int (1 : Int32)), .val (.ref aPRESUMED_NOTHING), .val (.int (1 : Int32)), .val (.int r_44)] []))
      refine Go.st (fun _ k => XS.iload X41.here hx rfl (hb hby at_74) rfl k) ?_
      show Go p e below s Q 0 0 (T41.setTop (mkF m 76 #[.val (.int p0), .val (.int c0), .val (.int v8), .val (.int (1 : Int32)), .val (.ref aPRESUMED_NOTHING), .val (.int (1 : Int32)), .val (.int r_44)] [(.int r_44)]))
      refine Go.st (fun _ k => XS.iload X41.here hx rfl (hb hby at_76) rfl k) ?_
      show Go p e below s Q 0 0 (T41.setTop (mkF m 78 #[.val (.int p0), .val (.int c0), .val (.int v8), .val (.int (1 : Int32)), .val (.ref aPRESUMED_NOTHING), .val (.int (1 : Int32)), .val (.int r_44)] [(.int (1 : Int32)), (.int r_44)]))
      by_cases c47 : r_44.toInt = 1
      ·
        refine Go.st (fun _ k => XS.icmpNo X41.here hx rfl (hb hby at_78) rfl (teq (eqI rfl liI_1 c47)).2 k) ?_
        show Go p e below s Q 0 0 (T41.setTop (mkF m 81 #[.val (.int p0), .val (.int c0), .val (.int v8), .val (.int (1 : Int32)), .val (.ref aPRESUMED_NOTHING), .val (.int (1 : Int32)), .val (.int r_44)] []))
        refine Go.st (fun _ k => XS.iconst X41.here hx rfl (hb hby at_81) k) ?_
        show Go p e below s Q 0 0 (T41.setTop (mkF m 82 #[.val (.int p0), .val (.int c0), .val (.int v8), .val (.int (1 : Int32)), .val (.ref aPRESUMED_NOTHING), .val (.int (1 : Int32)), .val (.int r_44)] [(.int (1 : Int32))]))
        refine Go.st (fun _ k => XS.goto X41.here hx rfl (pc0 := 82) (pc' := 86) rfl (hb hby at_82) (by decide) (by decide) k) ?_
        show Go p e below s Q 0 0 (T41.setTop (mkF m 86 #[.val (.int p0), .val (.int c0), .val (.int v8), .val (.int (1 : Int32)), .val (.ref aPRESUMED_NOTHING), .val (.int (1 : Int32)), .val (.int r_44)] [(.int (1 : Int32))]))
        exact Go.retN X41 hx hlk (by simp) Bd.returns (hb hby at_86) (z' := (1 : Int32)) (by decide) (by rw [← hQ, e41]; exact ⟨rfl, N41, rfl⟩) (by decide) (by decide)
      ·
        refine Go.st (fun _ k => XS.icmpYes X41.here hx rfl (pc0 := 78) (pc' := 85) rfl (hb hby at_78) rfl (feq (neI rfl liI_1 c47)).2 (by decide) (by decide) k) ?_
        show Go p e below s Q 0 0 (T41.setTop (mkF m 85 #[.val (.int p0), .val (.int c0), .val (.int v8), .val (.int (1 : Int32)), .val (.ref aPRESUMED_NOTHING), .val (.int (1 : Int32)), .val (.int r_44)] []))
        refine Go.st (fun _ k => XS.iconst X41.here hx rfl (hb hby at_85) k) ?_
        show Go p e below s Q 0 0 (T41.setTop (mkF m 86 #[.val (.int p0), .val (.int c0), .val (.int v8), .val (.int (1 : Int32)), .val (.ref aPRESUMED_NOTHING), .val (.int (1 : Int32)), .val (.int r_44)] [(.int (0 : Int32))]))
        exact Go.retN X41 hx hlk (by simp) Bd.returns (hb hby at_86) (z' := (0 : Int32)) (by decide) (by rw [← hQ, e41]; exact ⟨congrArg (fun z => some (Value.int z)) (Int32.toInt_inj.mp (by omega)), N41, rfl⟩) (by decide) (by decide)
    ·
      refine Go.st (fun _ k => XS.ifYes X0.here hx rfl (pc0 := 20) (pc' := 34) rfl (hb hby at_20) rfl ((if0 _ _).trans (feq (neI rfl liI_0 c39)).2) (by decide) (by decide) k) ?_
      show Go p e below s Q 0 0 (s₁.setTop (mkF m 34 #[.val (.int p0), .val (.int c0), .val (.int v8), .val (.int (1 : Int32)), .unset, .unset, .unset] []))
      refine Go.st (fun _ k => XS.iloadN X0.here hx rfl (hb hby at_34) rfl k) ?_
      show Go p e below s Q 0 0 (s₁.setTop (mkF m 35 #[.val (.int p0), .val (.int c0), .val (.int v8), .val (.int (1 : Int32)), .unset, .unset, .unset] [(.int v8)]))
      refine Go.st (fun _ k => XS.iconst X0.here hx rfl (hb hby at_35) k) ?_
      show Go p e below s Q 0 0 (s₁.setTop (mkF m 36 #[.val (.int p0), .val (.int c0), .val (.int v8), .val (.int (1 : Int32)), .unset, .unset, .unset] [(.int (1 : Int32)), (.int v8)]))
      by_cases c48 : v8.toInt = 1
      ·
        refine Go.st (fun _ k => XS.icmpNo X0.here hx rfl (hb hby at_36) rfl (teq (eqI rfl liI_1 c48)).2 k) ?_
        show Go p e below s Q 0 0 (s₁.setTop (mkF m 39 #[.val (.int p0), .val (.int c0), .val (.int v8), .val (.int (1 : Int32)), .unset, .unset, .unset] []))
        obtain ⟨T49, X49, e49, st49⟩ := getS2 X0 hx hZ hown (host := "") (Or.inl (hw _ (List.mem_of_getElem? (i := 26) rfl))) Via.refl e0 S_aPRESUMED_ABORT (g := (mkF m 39 #[.val (.int p0), .val (.int c0), .val (.int v8), .val (.int (1 : Int32)), .unset, .unset, .unset] [])) rfl (hb hby at_39)
        refine Go.st st49 ?_
        show Go p e below s Q 0 0 (T49.setTop (mkF m 42 #[.val (.int p0), .val (.int c0), .val (.int v8), .val (.int (1 : Int32)), .unset, .unset, .unset] [(.ref aPRESUMED_ABORT)]))
        refine Go.st (fun _ k => XS.astore X49.here hx rfl (hb hby at_42) rfl rfl (l' := #[.val (.int p0), .val (.int c0), .val (.int v8), .val (.int (1 : Int32)), .val (.ref aPRESUMED_ABORT), .unset, .unset]) rfl k) ?_
        show Go p e below s Q 0 0 (T49.setTop (mkF m 44 #[.val (.int p0), .val (.int c0), .val (.int v8), .val (.int (1 : Int32)), .val (.ref aPRESUMED_ABORT), .unset, .unset] []))
        refine Go.st (fun _ k => XS.iloadN X49.here hx rfl (hb hby at_44) rfl k) ?_
        show Go p e below s Q 0 0 (T49.setTop (mkF m 45 #[.val (.int p0), .val (.int c0), .val (.int v8), .val (.int (1 : Int32)), .val (.ref aPRESUMED_ABORT), .unset, .unset] [(.int (1 : Int32))]))
        refine Go.st (fun _ k => XS.istore X49.here hx rfl (hb hby at_45) rfl (l' := #[.val (.int p0), .val (.int c0), .val (.int v8), .val (.int (1 : Int32)), .val (.ref aPRESUMED_ABORT), .val (.int (1 : Int32)), .unset]) rfl k) ?_
        show Go p e below s Q 0 0 (T49.setTop (mkF m 47 #[.val (.int p0), .val (.int c0), .val (.int v8), .val (.int (1 : Int32)), .val (.ref aPRESUMED_ABORT), .val (.int (1 : Int32)), .unset] []))
        refine Go.st (fun _ k => XS.goto X49.here hx rfl (pc0 := 47) (pc' := 66) rfl (hb hby at_47) (by decide) (by decide) k) ?_
        show Go p e below s Q 0 0 (T49.setTop (mkF m 66 #[.val (.int p0), .val (.int c0), .val (.int v8), .val (.int (1 : Int32)), .val (.ref aPRESUMED_ABORT), .val (.int (1 : Int32)), .unset] []))
        refine Go.st (fun _ k => XS.aload X49.here hx rfl (hb hby at_66) rfl rfl k) ?_
        show Go p e below s Q 0 0 (T49.setTop (mkF m 68 #[.val (.int p0), .val (.int c0), .val (.int v8), .val (.int (1 : Int32)), .val (.ref aPRESUMED_ABORT), .val (.int (1 : Int32)), .unset] [(.ref aPRESUMED_ABORT)]))
        refine Go.st (fun _ k => XS.iloadN X49.here hx rfl (hb hby at_68) rfl k) ?_
        show Go p e below s Q 0 0 (T49.setTop (mkF m 69 #[.val (.int p0), .val (.int c0), .val (.int v8), .val (.int (1 : Int32)), .val (.ref aPRESUMED_ABORT), .val (.int (1 : Int32)), .unset] [(.int (1 : Int32)), (.ref aPRESUMED_ABORT)]))
        have p51 : (1 : Int32).toInt = 0 ∨ (1 : Int32).toInt = 1 := by decide
        have p52 : (0 : Int32).toInt = 0 ∨ (0 : Int32).toInt = 1 := by decide
        obtain ⟨cq50, kq50, q50a, q50b, q50c⟩ := isOf hZ e49 E_aPRESUMED_ABORT
        obtain ⟨_, _, ⟨T50, L50, k50, n50⟩, -, X50, ⟨Lc50, hQ50, l50, y50, z50⟩, st50⟩ := X49.virtualBack hx (y := (⟨"com/example/concordat/concordat/model/Protocol", "acknowledges", "(Z)Z"⟩ : MethodName)) (z := (⟨"com/example/concordat/concordat/model/Protocol", "acknowledges", "(Z)Z"⟩ : MethodName)) hown (mvT hZ (hw _ (List.mem_of_getElem? (i := 4) rfl))) (mvT hZ (hw _ (List.mem_of_getElem? (i := 5) rfl))) (notFace_of_selects (args := #[]) (mvT hZ (hw _ (List.mem_of_getElem? (i := 7) rfl)))) (mvT hZ (hw _ (List.mem_of_getElem? (i := 7) rfl))) (mvT hZ (hw _ (List.mem_of_getElem? (i := 6) rfl))) (by decide) (backOf (W := 0) (rm1 l Z a0 hw [] aPRESUMED_ABORT (1 : Int32) aPRESUMED_ANY (1 : Int32) (0 : Int32) h0 n0 (Nat.le_trans Z0 K0.1) S_aPRESUMED_ANY (Ne.symm ne_aPRESUMED_ANY_aPRESUMED_ABORT) E_aPRESUMED_ABORT F_aPRESUMED_ABORT_commitAcknowledged F_aPRESUMED_ABORT_abortAcknowledged p51 p52) hZ (hw _ (List.mem_of_getElem? (i := 8) rfl)) (hw _ (List.mem_of_getElem? (i := 2) rfl)) (by decide) (by decide)) q50a q50c (g := (mkF m 69 #[.val (.int p0), .val (.int c0), .val (.int v8), .val (.int (1 : Int32)), .val (.ref aPRESUMED_ABORT), .val (.int (1 : Int32)), .unset] [(.int (1 : Int32)), (.ref aPRESUMED_ABORT)])) rfl (by rw [hml]; rfl) (Steps.refl _) (argsL := [(.int (1 : Int32))]) (rest := []) (lenOf pd_2 rfl) rfl (by show 2 * 0 + _ ≤ _; exact Nat.le_of_eq rfl) (hb hby at_69) (fun _ _ => ⟨rfl, e49, (by decide : 0 + 0 ≤ _), (by decide : 0 + 0 ≤ _)⟩)
        dsimp only [Pt.U, Pt.locs, Pt.cells, Pt.slots] at X50 l50 y50 z50 st50 hQ50
        subst l50 y50 z50
        obtain ⟨r_53, rfl, N50q, f54, e50⟩ := hQ50
        have N50 := Fr.app N0 N50q
        refine Go.tr  st50 ?_
        show Go p e below s Q 0 0 (T50.setTop (mkF m 72 #[.val (.int p0), .val (.int c0), .val (.int v8), .val (.int (1 : Int32)), .val (.ref aPRESUMED_ABORT), .val (.int (1 : Int32)), .unset] [(.int r_53)]))
        have f55 := rng32 r_53
        refine Go.st (fun _ k => XS.istore X50.here hx rfl (hb hby at_72) rfl (l' := #[.val (.int p0), .val (.int c0), .val (.int v8), .val (.int (1 : Int32)), .val (.ref aPRESUMED_ABORT), .val (.int (1 : Int32)), .val (.int r_53)]) rfl k) ?_
        show Go p e below s Q 0 0 (T50.setTop (mkF m 74 #[.val (.int p0), .val (.int c0), .val (.int v8), .val (.int (1 : Int32)), .val (.ref aPRESUMED_ABORT), .val (.int (1 : Int32)), .val (.int r_53)] []))
        refine Go.st (fun _ k => XS.iload X50.here hx rfl (hb hby at_74) rfl k) ?_
        show Go p e below s Q 0 0 (T50.setTop (mkF m 76 #[.val (.int p0), .val (.int c0), .val (.int v8), .val (.int (1 : Int32)), .val (.ref aPRESUMED_ABORT), .val (.int (1 : Int32)), .val (.int r_53)] [(.int r_53)]))
        refine Go.st (fun _ k => XS.iload X50.here hx rfl (hb hby at_76) rfl k) ?_
        show Go p e below s Q 0 0 (T50.setTop (mkF m 78 #[.val (.int p0), .val (.int c0), .val (.int v8), .val (.int (1 : Int32)), .val (.ref aPRESUMED_ABORT), .val (.int (1 : Int32)), .val (.int r_53)] [(.int (1 : Int32)), (.int r_53)]))
        by_cases c56 : r_53.toInt = 1
        ·
          refine Go.st (fun _ k => XS.icmpNo X50.here hx rfl (hb hby at_78) rfl (teq (eqI rfl liI_1 c56)).2 k) ?_
          show Go p e below s Q 0 0 (T50.setTop (mkF m 81 #[.val (.int p0), .val (.int c0), .val (.int v8), .val (.int (1 : Int32)), .val (.ref aPRESUMED_ABORT), .val (.int (1 : Int32)), .val (.int r_53)] []))
          refine Go.st (fun _ k => XS.iconst X50.here hx rfl (hb hby at_81) k) ?_
          show Go p e below s Q 0 0 (T50.setTop (mkF m 82 #[.val (.int p0), .val (.int c0), .val (.int v8), .val (.int (1 : Int32)), .val (.ref aPRESUMED_ABORT), .val (.int (1 : Int32)), .val (.int r_53)] [(.int (1 : Int32))]))
          refine Go.st (fun _ k => XS.goto X50.here hx rfl (pc0 := 82) (pc' := 86) rfl (hb hby at_82) (by decide) (by decide) k) ?_
          show Go p e below s Q 0 0 (T50.setTop (mkF m 86 #[.val (.int p0), .val (.int c0), .val (.int v8), .val (.int (1 : Int32)), .val (.ref aPRESUMED_ABORT), .val (.int (1 : Int32)), .val (.int r_53)] [(.int (1 : Int32))]))
          exact Go.retN X50 hx hlk (by simp) Bd.returns (hb hby at_86) (z' := (1 : Int32)) (by decide) (by rw [← hQ, e50]; exact ⟨rfl, N50, rfl⟩) (by decide) (by decide)
        ·
          refine Go.st (fun _ k => XS.icmpYes X50.here hx rfl (pc0 := 78) (pc' := 85) rfl (hb hby at_78) rfl (feq (neI rfl liI_1 c56)).2 (by decide) (by decide) k) ?_
          show Go p e below s Q 0 0 (T50.setTop (mkF m 85 #[.val (.int p0), .val (.int c0), .val (.int v8), .val (.int (1 : Int32)), .val (.ref aPRESUMED_ABORT), .val (.int (1 : Int32)), .val (.int r_53)] []))
          refine Go.st (fun _ k => XS.iconst X50.here hx rfl (hb hby at_85) k) ?_
          show Go p e below s Q 0 0 (T50.setTop (mkF m 86 #[.val (.int p0), .val (.int c0), .val (.int v8), .val (.int (1 : Int32)), .val (.ref aPRESUMED_ABORT), .val (.int (1 : Int32)), .val (.int r_53)] [(.int (0 : Int32))]))
          exact Go.retN X50 hx hlk (by simp) Bd.returns (hb hby at_86) (z' := (0 : Int32)) (by decide) (by rw [← hQ, e50]; exact ⟨congrArg (fun z => some (Value.int z)) (Int32.toInt_inj.mp (by omega)), N50, rfl⟩) (by decide) (by decide)
      ·
        refine Go.st (fun _ k => XS.icmpYes X0.here hx rfl (pc0 := 36) (pc' := 50) rfl (hb hby at_36) rfl (feq (neI rfl liI_1 c48)).2 (by decide) (by decide) k) ?_
        show Go p e below s Q 0 0 (s₁.setTop (mkF m 50 #[.val (.int p0), .val (.int c0), .val (.int v8), .val (.int (1 : Int32)), .unset, .unset, .unset] []))
        obtain ⟨T57, X57, e57, st57⟩ := getS2 X0 hx hZ hown (host := "") (Or.inl (hw _ (List.mem_of_getElem? (i := 22) rfl))) Via.refl e0 S_aPRESUMED_COMMIT (g := (mkF m 50 #[.val (.int p0), .val (.int c0), .val (.int v8), .val (.int (1 : Int32)), .unset, .unset, .unset] [])) rfl (hb hby at_50)
        refine Go.st st57 ?_
        show Go p e below s Q 0 0 (T57.setTop (mkF m 53 #[.val (.int p0), .val (.int c0), .val (.int v8), .val (.int (1 : Int32)), .unset, .unset, .unset] [(.ref aPRESUMED_COMMIT)]))
        refine Go.st (fun _ k => XS.astore X57.here hx rfl (hb hby at_53) rfl rfl (l' := #[.val (.int p0), .val (.int c0), .val (.int v8), .val (.int (1 : Int32)), .val (.ref aPRESUMED_COMMIT), .unset, .unset]) rfl k) ?_
        show Go p e below s Q 0 0 (T57.setTop (mkF m 55 #[.val (.int p0), .val (.int c0), .val (.int v8), .val (.int (1 : Int32)), .val (.ref aPRESUMED_COMMIT), .unset, .unset] []))
        refine Go.st (fun _ k => XS.iloadN X57.here hx rfl (hb hby at_55) rfl k) ?_
        show Go p e below s Q 0 0 (T57.setTop (mkF m 56 #[.val (.int p0), .val (.int c0), .val (.int v8), .val (.int (1 : Int32)), .val (.ref aPRESUMED_COMMIT), .unset, .unset] [(.int (1 : Int32))]))
        refine Go.st (fun _ k => XS.ifYes X57.here hx rfl (pc0 := 56) (pc' := 63) rfl (hb hby at_56) rfl ((if0 _ _).trans (feq (neI liI_1 liI_0 (by decide))).2) (by decide) (by decide) k) ?_
        show Go p e below s Q 0 0 (T57.setTop (mkF m 63 #[.val (.int p0), .val (.int c0), .val (.int v8), .val (.int (1 : Int32)), .val (.ref aPRESUMED_COMMIT), .unset, .unset] []))
        refine Go.st (fun _ k => XS.iconst X57.here hx rfl (hb hby at_63) k) ?_
        show Go p e below s Q 0 0 (T57.setTop (mkF m 64 #[.val (.int p0), .val (.int c0), .val (.int v8), .val (.int (1 : Int32)), .val (.ref aPRESUMED_COMMIT), .unset, .unset] [(.int (0 : Int32))]))
        refine Go.st (fun _ k => XS.istore X57.here hx rfl (hb hby at_64) rfl (l' := #[.val (.int p0), .val (.int c0), .val (.int v8), .val (.int (1 : Int32)), .val (.ref aPRESUMED_COMMIT), .val (.int (0 : Int32)), .unset]) rfl k) ?_
        show Go p e below s Q 0 0 (T57.setTop (mkF m 66 #[.val (.int p0), .val (.int c0), .val (.int v8), .val (.int (1 : Int32)), .val (.ref aPRESUMED_COMMIT), .val (.int (0 : Int32)), .unset] []))
        refine Go.st (fun _ k => XS.aload X57.here hx rfl (hb hby at_66) rfl rfl k) ?_
        show Go p e below s Q 0 0 (T57.setTop (mkF m 68 #[.val (.int p0), .val (.int c0), .val (.int v8), .val (.int (1 : Int32)), .val (.ref aPRESUMED_COMMIT), .val (.int (0 : Int32)), .unset] [(.ref aPRESUMED_COMMIT)]))
        refine Go.st (fun _ k => XS.iloadN X57.here hx rfl (hb hby at_68) rfl k) ?_
        show Go p e below s Q 0 0 (T57.setTop (mkF m 69 #[.val (.int p0), .val (.int c0), .val (.int v8), .val (.int (1 : Int32)), .val (.ref aPRESUMED_COMMIT), .val (.int (0 : Int32)), .unset] [(.int (1 : Int32)), (.ref aPRESUMED_COMMIT)]))
        have p59 : (0 : Int32).toInt = 0 ∨ (0 : Int32).toInt = 1 := by decide
        have p60 : (1 : Int32).toInt = 0 ∨ (1 : Int32).toInt = 1 := by decide
        obtain ⟨cq58, kq58, q58a, q58b, q58c⟩ := isOf hZ e57 E_aPRESUMED_COMMIT
        obtain ⟨_, _, ⟨T58, L58, k58, n58⟩, -, X58, ⟨Lc58, hQ58, l58, y58, z58⟩, st58⟩ := X57.virtualBack hx (y := (⟨"com/example/concordat/concordat/model/Protocol", "acknowledges", "(Z)Z"⟩ : MethodName)) (z := (⟨"com/example/concordat/concordat/model/Protocol", "acknowledges", "(Z)Z"⟩ : MethodName)) hown (mvT hZ (hw _ (List.mem_of_getElem? (i := 4) rfl))) (mvT hZ (hw _ (List.mem_of_getElem? (i := 5) rfl))) (notFace_of_selects (args := #[]) (mvT hZ (hw _ (List.mem_of_getElem? (i := 7) rfl)))) (mvT hZ (hw _ (List.mem_of_getElem? (i := 7) rfl))) (mvT hZ (hw _ (List.mem_of_getElem? (i := 6) rfl))) (by decide) (backOf (W := 0) (rm1 l Z a0 hw [] aPRESUMED_COMMIT (1 : Int32) aPRESUMED_ANY (0 : Int32) (1 : Int32) h0 n0 (Nat.le_trans Z0 K0.1) S_aPRESUMED_ANY (Ne.symm ne_aPRESUMED_ANY_aPRESUMED_COMMIT) E_aPRESUMED_COMMIT F_aPRESUMED_COMMIT_commitAcknowledged F_aPRESUMED_COMMIT_abortAcknowledged p59 p60) hZ (hw _ (List.mem_of_getElem? (i := 8) rfl)) (hw _ (List.mem_of_getElem? (i := 2) rfl)) (by decide) (by decide)) q58a q58c (g := (mkF m 69 #[.val (.int p0), .val (.int c0), .val (.int v8), .val (.int (1 : Int32)), .val (.ref aPRESUMED_COMMIT), .val (.int (0 : Int32)), .unset] [(.int (1 : Int32)), (.ref aPRESUMED_COMMIT)])) rfl (by rw [hml]; rfl) (Steps.refl _) (argsL := [(.int (1 : Int32))]) (rest := []) (lenOf pd_2 rfl) rfl (by show 2 * 0 + _ ≤ _; exact Nat.le_of_eq rfl) (hb hby at_69) (fun _ _ => ⟨rfl, e57, (by decide : 0 + 0 ≤ _), (by decide : 0 + 0 ≤ _)⟩)
        dsimp only [Pt.U, Pt.locs, Pt.cells, Pt.slots] at X58 l58 y58 z58 st58 hQ58
        subst l58 y58 z58
        obtain ⟨r_61, rfl, N58q, f62, e58⟩ := hQ58
        have N58 := Fr.app N0 N58q
        refine Go.tr  st58 ?_
        show Go p e below s Q 0 0 (T58.setTop (mkF m 72 #[.val (.int p0), .val (.int c0), .val (.int v8), .val (.int (1 : Int32)), .val (.ref aPRESUMED_COMMIT), .val (.int (0 : Int32)), .unset] [(.int r_61)]))
        have f63 := rng32 r_61
        refine Go.st (fun _ k => XS.istore X58.here hx rfl (hb hby at_72) rfl (l' := #[.val (.int p0), .val (.int c0), .val (.int v8), .val (.int (1 : Int32)), .val (.ref aPRESUMED_COMMIT), .val (.int (0 : Int32)), .val (.int r_61)]) rfl k) ?_
        show Go p e below s Q 0 0 (T58.setTop (mkF m 74 #[.val (.int p0), .val (.int c0), .val (.int v8), .val (.int (1 : Int32)), .val (.ref aPRESUMED_COMMIT), .val (.int (0 : Int32)), .val (.int r_61)] []))
        refine Go.st (fun _ k => XS.iload X58.here hx rfl (hb hby at_74) rfl k) ?_
        show Go p e below s Q 0 0 (T58.setTop (mkF m 76 #[.val (.int p0), .val (.int c0), .val (.int v8), .val (.int (1 : Int32)), .val (.ref aPRESUMED_COMMIT), .val (.int (0 : Int32)), .val (.int r_61)] [(.int r_61)]))
        refine Go.st (fun _ k => XS.iload X58.here hx rfl (hb hby at_76) rfl k) ?_
        show Go p e below s Q 0 0 (T58.setTop (mkF m 78 #[.val (.int p0), .val (.int c0), .val (.int v8), .val (.int (1 : Int32)), .val (.ref aPRESUMED_COMMIT), .val (.int (0 : Int32)), .val (.int r_61)] [(.int (0 : Int32)), (.int r_61)]))
        by_cases c64 : r_61.toInt = 0
        ·
          refine Go.st (fun _ k => XS.icmpNo X58.here hx rfl (hb hby at_78) rfl (teq (eqI rfl liI_0 c64)).2 k) ?_
          show Go p e below s Q 0 0 (T58.setTop (mkF m 81 #[.val (.int p0), .val (.int c0), .val (.int v8), .val (.int (1 : Int32)), .val (.ref aPRESUMED_COMMIT), .val (.int (0 : Int32)), .val (.int r_61)] []))
          refine Go.st (fun _ k => XS.iconst X58.here hx rfl (hb hby at_81) k) ?_
          show Go p e below s Q 0 0 (T58.setTop (mkF m 82 #[.val (.int p0), .val (.int c0), .val (.int v8), .val (.int (1 : Int32)), .val (.ref aPRESUMED_COMMIT), .val (.int (0 : Int32)), .val (.int r_61)] [(.int (1 : Int32))]))
          refine Go.st (fun _ k => XS.goto X58.here hx rfl (pc0 := 82) (pc' := 86) rfl (hb hby at_82) (by decide) (by decide) k) ?_
          show Go p e below s Q 0 0 (T58.setTop (mkF m 86 #[.val (.int p0), .val (.int c0), .val (.int v8), .val (.int (1 : Int32)), .val (.ref aPRESUMED_COMMIT), .val (.int (0 : Int32)), .val (.int r_61)] [(.int (1 : Int32))]))
          exact Go.retN X58 hx hlk (by simp) Bd.returns (hb hby at_86) (z' := (1 : Int32)) (by decide) (by rw [← hQ, e58]; exact ⟨rfl, N58, rfl⟩) (by decide) (by decide)
        ·
          refine Go.st (fun _ k => XS.icmpYes X58.here hx rfl (pc0 := 78) (pc' := 85) rfl (hb hby at_78) rfl (feq (neI rfl liI_0 c64)).2 (by decide) (by decide) k) ?_
          show Go p e below s Q 0 0 (T58.setTop (mkF m 85 #[.val (.int p0), .val (.int c0), .val (.int v8), .val (.int (1 : Int32)), .val (.ref aPRESUMED_COMMIT), .val (.int (0 : Int32)), .val (.int r_61)] []))
          refine Go.st (fun _ k => XS.iconst X58.here hx rfl (hb hby at_85) k) ?_
          show Go p e below s Q 0 0 (T58.setTop (mkF m 86 #[.val (.int p0), .val (.int c0), .val (.int v8), .val (.int (1 : Int32)), .val (.ref aPRESUMED_COMMIT), .val (.int (0 : Int32)), .val (.int r_61)] [(.int (0 : Int32))]))
          exact Go.retN X58 hx hlk (by simp) Bd.returns (hb hby at_86) (z' := (0 : Int32)) (by decide) (by rw [← hQ, e58]; exact ⟨congrArg (fun z => some (Value.int z)) (Int32.toInt_inj.mp (by omega)), N58, rfl⟩) (by decide) (by decide)
set_option maxRecDepth 65536 in
set_option maxHeartbeats 40000000 in
theorem comes_1 {Post : Tables → Env → Array Value → State → Outcome → State → Prop} (hpost : ∀ tb e args s v u, (limb_1_1.after args s (.returned v) u = true ∧ limb_1_2.after args s (.returned v) u = true ∧ True) → FrameEnd s (.returned v) u (Jvm.fieldLocs frame_1_writes args s ++ Jvm.arrayLocs frame_1_arrays args s ++ Jvm.staticLocs frame_1_statics s) 0 0 → Post tb e args s (.returned v) u) :
    ArmFor flags0 classFile x code maxLocals ret World_1 tables_1 room_1 Calls_1 rest_1 Pre_1 Post := by
  intro l hfl _ _ p e ha hc hk s m args below hf hA hF happ hP
  obtain ⟨hcalls, hrest, hpre⟩ := hP
  obtain ⟨-, -, -, hnamed, -, -, -, hat⟩ := (Spec.applies_iff hf).mp happ
  obtain ⟨hg, hn⟩ := and_e (Cond.before_iff.mp (show (Jvm.Cond.and given_1 narrow_1).before args s = true from hpre))
  obtain ⟨hcount, g0⟩ := and_e hg
  obtain ⟨a0, g1⟩ := and_e g0
  obtain ⟨w0, w1, rfl⟩ : ∃ w0 w1 : Value, args = #[w0, w1] := by
    have hs : args.size = 2 := by simpa [Cond.value, given_1] using hcount
    obtain ⟨L⟩ := args
    match L, hs with
    | [w0, w1], _ => exact ⟨w0, w1, rfl⟩
  have hw := fun d (hd : d ∈ tables_1) => atoms_spec (ws := Jvm.Cond.code x code maxLocals ret :: tables_1) hat d (List.mem_cons_of_mem _ hd)
  have hfit : Fit s := fun {y c} hc i hi => by
    obtain ⟨ha, rfl⟩ := Array.getElem?_eq_some_iff.mp hc
    have q := List.all_eq_true.mp ((Array.all_eq_true_iff_forall_mem.mp hF) _ (Array.getElem_mem ha)) i (List.mem_range.mpr hi)
    simpa [Array.getElem?_eq_getElem hi] using q
  obtain ⟨i0, ei0⟩ := is_v a0
  obtain rfl : w0 = (.int i0) := Option.some.inj ei0
  obtain ⟨i1, ei1⟩ := is_v g1
  obtain rfl : w1 = (.int i1) := Option.some.inj ei1
  obtain ⟨u1, u2⟩ := and_e hn
  obtain ⟨u3, u4⟩ := and_e u2
  obtain ⟨u5, u6⟩ := and_e u4
  obtain ⟨u7, u8⟩ := and_e u6
  obtain ⟨u9, u10⟩ := and_e u8
  obtain ⟨u11, u12⟩ := and_e u10
  obtain ⟨u13, u14⟩ := and_e u12
  obtain ⟨u15, u16⟩ := and_e u14
  obtain ⟨u17, u18⟩ := and_e u16
  obtain ⟨u19, u20⟩ := and_e u18
  obtain ⟨u21, u22⟩ := and_e u20
  obtain ⟨u23, u24⟩ := and_e u22
  obtain ⟨u25, u26⟩ := and_e u24
  obtain ⟨u27, u28⟩ := and_e u26
  obtain ⟨u29, u30⟩ := and_e u28
  obtain ⟨aPRESUMED_NOTHING, ev_aPRESUMED_NOTHING⟩ := exa_v u1
  have S_aPRESUMED_NOTHING : Sta s s.heap "com/example/concordat/concordat/model/Protocol" "PRESUMED_NOTHING" "Lcom/example/concordat/concordat/model/Protocol;" (.ref aPRESUMED_NOTHING) := Sta.start ev_aPRESUMED_NOTHING (Or.inr ⟨(hw _ (List.mem_of_getElem? (i := 2) rfl)), (hw _ (List.mem_of_getElem? (i := 3) rfl))⟩)
  have E_aPRESUMED_NOTHING : Exa s s.heap aPRESUMED_NOTHING "com/example/concordat/concordat/model/Protocol" := Exa.start ev_aPRESUMED_NOTHING u1
  obtain ⟨aPRESUMED_ANY, ev_aPRESUMED_ANY⟩ := exa_v u3
  have S_aPRESUMED_ANY : Sta s s.heap "com/example/concordat/concordat/model/Protocol" "PRESUMED_ANY" "Lcom/example/concordat/concordat/model/Protocol;" (.ref aPRESUMED_ANY) := Sta.start ev_aPRESUMED_ANY (Or.inr ⟨(hw _ (List.mem_of_getElem? (i := 2) rfl)), (hw _ (List.mem_of_getElem? (i := 19) rfl))⟩)
  have E_aPRESUMED_ANY : Exa s s.heap aPRESUMED_ANY "com/example/concordat/concordat/model/Protocol" := Exa.start ev_aPRESUMED_ANY u3
  have F_aPRESUMED_NOTHING_ordinal : Fld s s.heap aPRESUMED_NOTHING "java/lang/Enum" "ordinal" "I" (.int (0 : Int32)) := fld_int ev_aPRESUMED_NOTHING u5
  have F_aPRESUMED_ANY_ordinal : Fld s s.heap aPRESUMED_ANY "java/lang/Enum" "ordinal" "I" (.int (3 : Int32)) := fld_int ev_aPRESUMED_ANY u7
  have F_aPRESUMED_NOTHING_commitAcknowledged : Fld s s.heap aPRESUMED_NOTHING "com/example/concordat/concordat/model/Protocol" "commitAcknowledged" "Z" (.int (1 : Int32)) := fld_int ev_aPRESUMED_NOTHING u9
  obtain ⟨aPRESUMED_COMMIT, ev_aPRESUMED_COMMIT⟩ := exa_v u11
  have S_aPRESUMED_COMMIT : Sta s s.heap "com/example/concordat/concordat/model/Protocol" "PRESUMED_COMMIT" "Lcom/example/concordat/concordat/model/Protocol;" (.ref aPRESUMED_COMMIT) := Sta.start ev_aPRESUMED_COMMIT (Or.inr ⟨(hw _ (List.mem_of_getElem? (i := 2) rfl)), (hw _ (List.mem_of_getElem? (i := 23) rfl))⟩)
  have E_aPRESUMED_COMMIT : Exa s s.heap aPRESUMED_COMMIT "com/example/concordat/concordat/model/Protocol" := Exa.start ev_aPRESUMED_COMMIT u11
  have F_aPRESUMED_COMMIT_ordinal : Fld s s.heap aPRESUMED_COMMIT "java/lang/Enum" "ordinal" "I" (.int (2 : Int32)) := fld_int ev_aPRESUMED_COMMIT u13
  have F_aPRESUMED_COMMIT_commitAcknowledged : Fld s s.heap aPRESUMED_COMMIT "com/example/concordat/concordat/model/Protocol" "commitAcknowledged" "Z" (.int (0 : Int32)) := fld_int ev_aPRESUMED_COMMIT u15
  have F_aPRESUMED_COMMIT_abortAcknowledged : Fld s s.heap aPRESUMED_COMMIT "com/example/concordat/concordat/model/Protocol" "abortAcknowledged" "Z" (.int (1 : Int32)) := fld_int ev_aPRESUMED_COMMIT u17
  obtain ⟨aPRESUMED_ABORT, ev_aPRESUMED_ABORT⟩ := exa_v u19
  have S_aPRESUMED_ABORT : Sta s s.heap "com/example/concordat/concordat/model/Protocol" "PRESUMED_ABORT" "Lcom/example/concordat/concordat/model/Protocol;" (.ref aPRESUMED_ABORT) := Sta.start ev_aPRESUMED_ABORT (Or.inr ⟨(hw _ (List.mem_of_getElem? (i := 2) rfl)), (hw _ (List.mem_of_getElem? (i := 27) rfl))⟩)
  have E_aPRESUMED_ABORT : Exa s s.heap aPRESUMED_ABORT "com/example/concordat/concordat/model/Protocol" := Exa.start ev_aPRESUMED_ABORT u19
  have F_aPRESUMED_ABORT_ordinal : Fld s s.heap aPRESUMED_ABORT "java/lang/Enum" "ordinal" "I" (.int (1 : Int32)) := fld_int ev_aPRESUMED_ABORT u21
  have F_aPRESUMED_ABORT_abortAcknowledged : Fld s s.heap aPRESUMED_ABORT "com/example/concordat/concordat/model/Protocol" "abortAcknowledged" "Z" (.int (0 : Int32)) := fld_int ev_aPRESUMED_ABORT u23
  have F_aPRESUMED_ABORT_commitAcknowledged : Fld s s.heap aPRESUMED_ABORT "com/example/concordat/concordat/model/Protocol" "commitAcknowledged" "Z" (.int (1 : Int32)) := fld_int ev_aPRESUMED_ABORT u25
  have F_aPRESUMED_NOTHING_abortAcknowledged : Fld s s.heap aPRESUMED_NOTHING "com/example/concordat/concordat/model/Protocol" "abortAcknowledged" "Z" (.int (1 : Int32)) := fld_int ev_aPRESUMED_NOTHING u27
  have F_aPRESUMED_ANY_commitAcknowledged : Fld s s.heap aPRESUMED_ANY "com/example/concordat/concordat/model/Protocol" "commitAcknowledged" "Z" (.int (0 : Int32)) := fld_int ev_aPRESUMED_ANY u29
  have F_aPRESUMED_ANY_abortAcknowledged : Fld s s.heap aPRESUMED_ANY "com/example/concordat/concordat/model/Protocol" "abortAcknowledged" "Z" (.int (0 : Int32)) := fld_int ev_aPRESUMED_ANY u30
  have ne_aPRESUMED_NOTHING_aPRESUMED_ANY : aPRESUMED_NOTHING ≠ aPRESUMED_ANY := Fld.ne F_aPRESUMED_NOTHING_ordinal F_aPRESUMED_ANY_ordinal (by first | decide | simp)
  have ne_aPRESUMED_NOTHING_aPRESUMED_COMMIT : aPRESUMED_NOTHING ≠ aPRESUMED_COMMIT := Fld.ne F_aPRESUMED_NOTHING_ordinal F_aPRESUMED_COMMIT_ordinal (by first | decide | simp)
  have ne_aPRESUMED_NOTHING_aPRESUMED_ABORT : aPRESUMED_NOTHING ≠ aPRESUMED_ABORT := Fld.ne F_aPRESUMED_NOTHING_ordinal F_aPRESUMED_ABORT_ordinal (by first | decide | simp)
  have ne_aPRESUMED_ANY_aPRESUMED_COMMIT : aPRESUMED_ANY ≠ aPRESUMED_COMMIT := Fld.ne F_aPRESUMED_ANY_ordinal F_aPRESUMED_COMMIT_ordinal (by first | decide | simp)
  have ne_aPRESUMED_ANY_aPRESUMED_ABORT : aPRESUMED_ANY ≠ aPRESUMED_ABORT := Fld.ne F_aPRESUMED_ANY_ordinal F_aPRESUMED_ABORT_ordinal (by first | decide | simp)
  have ne_aPRESUMED_COMMIT_aPRESUMED_ABORT : aPRESUMED_COMMIT ≠ aPRESUMED_ABORT := Fld.ne F_aPRESUMED_COMMIT_ordinal F_aPRESUMED_ABORT_ordinal (by first | decide | simp)
  obtain ⟨n, o, h1, h2, h3, _, L, rfl, ⟨rfl, N, _⟩, hq⟩ := rm0 l s _ hw tables_1 i0 i1 aPRESUMED_NOTHING aPRESUMED_ANY aPRESUMED_COMMIT aPRESUMED_ABORT s.heap s.heap.size (Nat.le_refl _) S_aPRESUMED_NOTHING E_aPRESUMED_NOTHING S_aPRESUMED_ANY E_aPRESUMED_ANY F_aPRESUMED_NOTHING_ordinal F_aPRESUMED_ANY_ordinal F_aPRESUMED_NOTHING_commitAcknowledged S_aPRESUMED_COMMIT E_aPRESUMED_COMMIT F_aPRESUMED_COMMIT_ordinal F_aPRESUMED_COMMIT_commitAcknowledged F_aPRESUMED_COMMIT_abortAcknowledged S_aPRESUMED_ABORT E_aPRESUMED_ABORT F_aPRESUMED_ABORT_ordinal F_aPRESUMED_ABORT_abortAcknowledged F_aPRESUMED_ABORT_commitAcknowledged F_aPRESUMED_NOTHING_abortAcknowledged F_aPRESUMED_ANY_commitAcknowledged F_aPRESUMED_ANY_abortAcknowledged ne_aPRESUMED_NOTHING_aPRESUMED_ANY ne_aPRESUMED_NOTHING_aPRESUMED_COMMIT ne_aPRESUMED_NOTHING_aPRESUMED_ABORT ne_aPRESUMED_ANY_aPRESUMED_COMMIT ne_aPRESUMED_ANY_aPRESUMED_ABORT ne_aPRESUMED_COMMIT_aPRESUMED_ABORT p e ha hc hk s m _ below hf ((Spec.applies_iff_loose hf).mp happ).1 ⟨rfl, State.Warmed39.refl s, rfl⟩ trivial
  refine ⟨n, _, h1, h2, h3, hpost _ _ _ _ _ _ ⟨Cond.after_iff.mpr rfl, Cond.after_iff.mpr (eq_i res_at (Term.int_eval (1)) rfl), trivial⟩ ⟨hq.1, hq.2.1, (hq.2.2.sift fun y hy => Or.inr (N y hy)).mono (by decide) (by decide)⟩⟩
theorem main_1_1 : Claimed_1_1 := comes_1 fun _ _ _ _ _ _ h hF => ⟨h.1, hF⟩
theorem main_1_2 : Claimed_1_2 := comes_1 fun _ _ _ _ _ _ h hF => ⟨h.2.1, hF⟩
end Jvm.Pilot.@@N@@
namespace Jvm.Pilot.@@N@@
open Jvm Jvm.ClassFile Sem Op Lib Jvm.Free Jvm.Stand Jvm.Pilot.@@N@@.Jvm.D
/-! MADE BY PROGRAM (witnessworld.py) out of the Statement's table words and the real class files: 12 classes; the members and pool entries that the words name. The judged class is class 1, her method 1. -/
namespace start1
open Jvm.ClassFile
def u (s : String) : CpInfo := .utf8 (stringToUtf16 s)
/-- a pool by its gaps: so many unusable entries, then the entry; so many at the end -/
def gap : Nat → List CpInfo → List CpInfo
  | 0, r => r
  | n + 1, r => .unusable :: gap n r
def poolList (es : List (Nat × CpInfo)) (last : Nat) : List CpInfo := es.foldr (fun e r => gap e.1 (e.2 :: r)) (gap last [])
def pool (es : List (Nat × CpInfo)) (last : Nat) : Array CpInfo := ⟨poolList es last⟩
def fileOf (pool : Array CpInfo) (this : Nat) (attrs : Array Attribute := #[]) (ms : Array MethodInfo := #[]) (fl : Nat := 33) (sup : Nat := 0) (ifs : Array Nat := #[]) (fds : Array FieldInfo := #[]) : ClassFile where
  minorVersion := 0
  majorVersion := 65
  constantPool := pool
  accessFlags := fl
  thisClass := this
  superClass := sup
  interfaces := ifs
  fields := fds
  methods := ms
  attributes := attrs
def plain (name : String) (sup : Option ClassId) : Class where
  name := name
  kind := .ordinary
  loader := none
  accessFlags := 33
  super := sup
  interfaces := #[]
  cf := none
  fields := #[]
  methods := #[]
  instanceTypes := #[]
  staticTypes := #[]
  resolved := #[]
  callSites := []
  init := .initialized
  statics := none
  mirror := none

def pool0 : Array CpInfo := pool [(5, u "<init>"), (0, u "()V"), (1, .class_ 10), (1, u "java/lang/Object")] 113

def k0m0 : Method := { name := "<init>", desc := "()V", sig := { parameters := [], returnType := none }, accessFlags := 1, code := none }
/-- java/lang/Object -/
def k0 : Class := { plain "java/lang/Object" none with
  accessFlags := 33
  interfaces := #[]
  cf := some (fileOf pool0 8 #[] #[{ accessFlags := 1, nameIndex := 5, descriptorIndex := 6, attributes := #[] }] 33 0 #[] #[])
  fields := #[]
  methods := #[k0m0]
  instanceTypes := #[]
  staticTypes := #[]
  resolved := Array.replicate 124 none
  statics := none }

def pool1 : Array CpInfo := pool [(2, .class_ 4), (1, u "java/lang/Object"), (0, u "<init>"), (0, u "()V"), (0, .integer 2147483647), (0, .fieldref 9 10), (0, .class_ 11), (0, .nameAndType 12 13), (0, u "com/example/concordat/concordat/model/Protocol"), (0, u "PRESUMED_NOTHING"), (0, u "Lcom/example/concordat/concordat/model/Protocol;"), (0, .fieldref 9 15), (0, .nameAndType 16 13), (0, u "PRESUMED_ABORT"), (0, .fieldref 9 18), (0, .nameAndType 19 13), (0, u "PRESUMED_COMMIT"), (0, .methodref 9 21), (0, .nameAndType 22 23), (0, u "acknowledges"), (0, u "(Z)Z"), (0, .class_ 25), (0, u "com/example/concordat/concordat/model/ProtocolAcknowledgesPinLaw"), (2, u "law"), (0, u "(II)Z")] 3

def k1m0 : Method := { name := "<init>", desc := "()V", sig := { parameters := [], returnType := none }, accessFlags := 2, code := none }
def k1c1 : Code := { maxStack := 2, maxLocals := 7, code := code, exceptionTable := #[], attributes := #[] }
def k1m1 : Method := { name := "law", desc := "(II)Z", sig := { parameters := [.int, .int], returnType := some .boolean }, accessFlags := 9, code := some k1c1 }
/-- com/example/concordat/concordat/model/ProtocolAcknowledgesPinLaw -/
def k1 : Class := { plain "com/example/concordat/concordat/model/ProtocolAcknowledgesPinLaw" (some 0) with
  accessFlags := 49
  interfaces := #[]
  cf := some (fileOf pool1 24 #[] #[{ accessFlags := 2, nameIndex := 5, descriptorIndex := 6, attributes := #[] }, { accessFlags := 9, nameIndex := 28, descriptorIndex := 29, attributes := #[] }] 49 2 #[] #[])
  fields := #[]
  methods := #[k1m0, k1m1]
  instanceTypes := #[]
  staticTypes := #[]
  resolved := Array.replicate 33 none
  statics := none }

def pool2 : Array CpInfo := pool [(1, .class_ 2), (0, u "java/lang/constant/Constable"), (0, .class_ 4), (0, u "java/lang/Object")] 6

/-- java/lang/constant/Constable -/
def k2 : Class := { plain "java/lang/constant/Constable" (some 0) with
  accessFlags := 1537
  interfaces := #[]
  cf := some (fileOf pool2 1 #[] #[] 1537 3 #[] #[])
  fields := #[]
  methods := #[]
  instanceTypes := #[]
  staticTypes := #[]
  resolved := Array.replicate 11 none
  statics := none }

def pool3 : Array CpInfo := pool [(1, .class_ 2), (0, u "java/lang/Comparable"), (0, .class_ 4), (0, u "java/lang/Object")] 7

/-- java/lang/Comparable -/
def k3 : Class := { plain "java/lang/Comparable" (some 0) with
  accessFlags := 1537
  interfaces := #[]
  cf := some (fileOf pool3 1 #[] #[] 1537 3 #[] #[])
  fields := #[]
  methods := #[]
  instanceTypes := #[]
  staticTypes := #[]
  resolved := Array.replicate 12 none
  statics := none }

def pool4 : Array CpInfo := pool [(1, .class_ 2), (0, u "java/io/Serializable"), (0, .class_ 4), (0, u "java/lang/Object")] 2

/-- java/io/Serializable -/
def k4 : Class := { plain "java/io/Serializable" (some 0) with
  accessFlags := 1537
  interfaces := #[]
  cf := some (fileOf pool4 1 #[] #[] 1537 3 #[] #[])
  fields := #[]
  methods := #[]
  instanceTypes := #[]
  staticTypes := #[]
  resolved := Array.replicate 7 none
  statics := none }

def pool5 : Array CpInfo := pool [(2, .class_ 4), (1, u "java/lang/Enum"), (0, u "name"), (0, u "Ljava/lang/String;"), (2, u "ordinal"), (0, u "I"), (1, .class_ 14), (1, u "java/lang/Object"), (4, u "hash"), (86, .class_ 108), (1, u "java/lang/Enum$EnumDesc"), (2, .class_ 112), (0, u "java/lang/constant/Constable"), (0, .class_ 114), (0, u "java/lang/Comparable"), (0, .class_ 116), (0, u "java/io/Serializable")] 87

/-- java/lang/Enum -/
def k5 : Class := { plain "java/lang/Enum" (some 0) with
  accessFlags := 1057
  interfaces := #[2, 3, 4]
  cf := some (fileOf pool5 2 #[.nestMembers #[106]] #[] 1057 12 #[111, 113, 115] #[{ accessFlags := 18, nameIndex := 5, descriptorIndex := 6, attributes := #[] }, { accessFlags := 18, nameIndex := 9, descriptorIndex := 10, attributes := #[] }, { accessFlags := 2, nameIndex := 19, descriptorIndex := 10, attributes := #[] }])
  fields := #[{ name := "name", type := (.object "java/lang/String"), accessFlags := 18, slot := 0, constantValue := 0 }, { name := "ordinal", type := .int, accessFlags := 18, slot := 1, constantValue := 0 }, { name := "hash", type := .int, accessFlags := 2, slot := 2, constantValue := 0 }]
  methods := #[]
  instanceTypes := #[(.object "java/lang/String"), .int, .int]
  staticTypes := #[]
  resolved := Array.replicate 204 none
  statics := none }

def pool6 : Array CpInfo := pool [(1, .class_ 2), (0, u "com/example/concordat/concordat/model/Protocol"), (2, u "PRESUMED_NOTHING"), (0, u "Lcom/example/concordat/concordat/model/Protocol;"), (2, u "PRESUMED_ABORT"), (2, u "PRESUMED_COMMIT"), (0, .fieldref 1 14), (0, .nameAndType 15 6), (0, u "PRESUMED_ANY"), (2, u "$VALUES"), (0, u "[Lcom/example/concordat/concordat/model/Protocol;"), (6, .class_ 28), (1, u "java/lang/Enum"), (8, u "word"), (0, u "Ljava/lang/String;"), (0, .fieldref 1 40), (0, .nameAndType 41 42), (0, u "commitAcknowledged"), (0, u "Z"), (0, .fieldref 1 44), (0, .nameAndType 45 42), (0, u "abortAcknowledged"), (2, u "readVote"), (2, u "initiation"), (3, .methodref 1 56), (0, .nameAndType 57 58), (0, u "requirePresumption"), (0, u "()V"), (0, .methodref 1 60), (0, .nameAndType 61 62), (0, u "isMixed"), (0, u "()Z"), (2, u "acknowledges"), (0, u "(Z)Z")] 129

def k6c0 : Code := { maxStack := 2, maxLocals := 1, code := prog_32_method_6_code, exceptionTable := #[], attributes := #[] }
def k6m0 : Method := { name := "isMixed", desc := "()Z", sig := { parameters := [], returnType := some .boolean }, accessFlags := 1, code := some k6c0 }
def k6c1 : Code := { maxStack := 1, maxLocals := 2, code := prog_32_method_7_code, exceptionTable := #[], attributes := #[] }
def k6m1 : Method := { name := "acknowledges", desc := "(Z)Z", sig := { parameters := [.boolean], returnType := some .boolean }, accessFlags := 1, code := some k6c1 }
def k6c2 : Code := { maxStack := 3, maxLocals := 1, code := prog_32_method_17_code, exceptionTable := #[], attributes := #[] }
def k6m2 : Method := { name := "requirePresumption", desc := "()V", sig := { parameters := [], returnType := none }, accessFlags := 2, code := some k6c2 }
/-- com/example/concordat/concordat/model/Protocol -/
def k6 : Class := { plain "com/example/concordat/concordat/model/Protocol" (some 5) with
  accessFlags := 16433
  interfaces := #[]
  cf := some (fileOf pool6 1 #[] #[{ accessFlags := 1, nameIndex := 61, descriptorIndex := 62, attributes := #[] }, { accessFlags := 1, nameIndex := 65, descriptorIndex := 66, attributes := #[] }, { accessFlags := 2, nameIndex := 57, descriptorIndex := 58, attributes := #[] }] 16433 26 #[] #[{ accessFlags := 16409, nameIndex := 5, descriptorIndex := 6, attributes := #[] }, { accessFlags := 16409, nameIndex := 9, descriptorIndex := 6, attributes := #[] }, { accessFlags := 16409, nameIndex := 12, descriptorIndex := 6, attributes := #[] }, { accessFlags := 16409, nameIndex := 15, descriptorIndex := 6, attributes := #[] }, { accessFlags := 18, nameIndex := 37, descriptorIndex := 38, attributes := #[] }, { accessFlags := 18, nameIndex := 41, descriptorIndex := 42, attributes := #[] }, { accessFlags := 18, nameIndex := 45, descriptorIndex := 42, attributes := #[] }, { accessFlags := 18, nameIndex := 48, descriptorIndex := 42, attributes := #[] }, { accessFlags := 18, nameIndex := 51, descriptorIndex := 42, attributes := #[] }, { accessFlags := 4122, nameIndex := 18, descriptorIndex := 19, attributes := #[] }])
  fields := #[{ name := "PRESUMED_NOTHING", type := (.object "com/example/concordat/concordat/model/Protocol"), accessFlags := 16409, slot := 0, constantValue := 0 }, { name := "PRESUMED_ABORT", type := (.object "com/example/concordat/concordat/model/Protocol"), accessFlags := 16409, slot := 1, constantValue := 0 }, { name := "PRESUMED_COMMIT", type := (.object "com/example/concordat/concordat/model/Protocol"), accessFlags := 16409, slot := 2, constantValue := 0 }, { name := "PRESUMED_ANY", type := (.object "com/example/concordat/concordat/model/Protocol"), accessFlags := 16409, slot := 3, constantValue := 0 }, { name := "word", type := (.object "java/lang/String"), accessFlags := 18, slot := 3, constantValue := 0 }, { name := "commitAcknowledged", type := .boolean, accessFlags := 18, slot := 4, constantValue := 0 }, { name := "abortAcknowledged", type := .boolean, accessFlags := 18, slot := 5, constantValue := 0 }, { name := "readVote", type := .boolean, accessFlags := 18, slot := 6, constantValue := 0 }, { name := "initiation", type := .boolean, accessFlags := 18, slot := 7, constantValue := 0 }, { name := "$VALUES", type := (.array (.object "com/example/concordat/concordat/model/Protocol")), accessFlags := 4122, slot := 4, constantValue := 0 }]
  methods := #[k6m0, k6m1, k6m2]
  instanceTypes := #[(.object "java/lang/String"), .int, .int, (.object "java/lang/String"), .boolean, .boolean, .boolean, .boolean]
  staticTypes := #[(.object "com/example/concordat/concordat/model/Protocol"), (.object "com/example/concordat/concordat/model/Protocol"), (.object "com/example/concordat/concordat/model/Protocol"), (.object "com/example/concordat/concordat/model/Protocol"), (.array (.object "com/example/concordat/concordat/model/Protocol"))]
  resolved := Array.replicate 196 none
  statics := some 0 }

def pool7 : Array CpInfo := pool [(1, u "java/lang/Cloneable"), (0, .class_ 1), (0, u "java/lang/Object"), (0, .class_ 3)] 3

/-- java/lang/Cloneable -/
def k7 : Class := { plain "java/lang/Cloneable" (some 0) with
  accessFlags := 1537
  interfaces := #[]
  cf := some (fileOf pool7 2 #[] #[] 1537 4 #[] #[])
  fields := #[]
  methods := #[]
  instanceTypes := #[]
  staticTypes := #[]
  resolved := Array.replicate 8 none
  statics := none }

/-- the primitive byte -/
def k8 : Class := { plain "byte" none with kind := .primitive 'B', accessFlags := 0x411 }
/-- [B -/
def k9 : Class := { plain "[B" (some 0) with kind := .array 8 .byte, interfaces := #[7, 4], accessFlags := 1041 }

/-- the primitive int -/
def k10 : Class := { plain "int" none with kind := .primitive 'I', accessFlags := 0x411 }
/-- [I -/
def k11 : Class := { plain "[I" (some 0) with kind := .array 10 .int, interfaces := #[7, 4], accessFlags := 1041 }

def heap : Heap := #[{ cls := 6, slots := #[.ref 1, .ref 2, .ref 3, .ref 4, .null], vm := .statics 6 },
  { cls := 6, slots := #[.null, .int 0, .int 0, .null, .int 1, .int 1, .int 0, .int 0], vm := .none },
  { cls := 6, slots := #[.null, .int 1, .int 0, .null, .int 1, .int 0, .int 0, .int 0], vm := .none },
  { cls := 6, slots := #[.null, .int 2, .int 0, .null, .int 0, .int 1, .int 0, .int 0], vm := .none },
  { cls := 6, slots := #[.null, .int 3, .int 0, .null, .int 0, .int 0, .int 0, .int 0], vm := .none }]
def classes : Array Class := #[k0, k1, k2, k3, k4, k5, k6, k7, k8, k9, k10, k11]
def interned : List (Array UInt16 × Addr) := []
def slotsUsed : Nat := 37
def theMethod : MethodId := ⟨1, 1⟩
def args0 : Array Value := #[.int 5, .int 1]
def aboutOver (below : List Frame) : State where
  vm := { classes := classes, interned := interned.toArray }
  heap := heap
  slotsUsed := slotsUsed
  threads := #[{ frames := .invoking theMethod args0 :: below }]
def below0 : List Frame := [.native { method := ⟨0, 0⟩, args := #[] }]
def about1 : State := aboutOver below0
def p0 : Program := .bare "" "" ""
def e0 : Env := launch0.env 0 0 0
theorem w_frames : about1.frames = Frame.invoking theMethod args0 :: below0 := rfl
set_option maxRecDepth 65536 in
theorem w_args : argsFit about1.vm theMethod args0 = true := by decide +kernel
set_option maxRecDepth 65536 in
theorem w_heap : heapFits about1 = true := by decide +kernel
set_option maxRecDepth 65536 in
theorem w_runnable : about1.curStatus? = some .runnable := by decide +kernel
set_option maxRecDepth 65536 in
theorem w_alone : about1.alone = true := by decide +kernel
set_option maxRecDepth 65536 in
theorem w_named : about1.methodNamed? x = some theMethod := by decide +kernel
set_option maxRecDepth 65536 in
theorem w_hears : about1.hears theMethod below0 = true := by decide +kernel
set_option maxRecDepth 65536 in
theorem w_ripe : about1.ripe theMethod args0 below0 = true := by decide +kernel
theorem w_running : about1.status = .running := rfl
set_option maxRecDepth 65536 in
theorem w_room : about1.hasRoom e0.platform room_1 = true :=
  launch0.hasRoom_least _ room_1 (by decide +kernel) (by decide +kernel) (by decide +kernel) (by decide +kernel) (by decide +kernel) (by decide +kernel)
theorem allAtoms_all (ts : List Jvm.Cond) (a : Array Jvm.Value) (st : Jvm.State) : (allAtoms ts).before a st = ts.all (fun c => c.before a st) := by
  induction ts with
  | nil => rfl
  | cons c t ih =>
    show (Jvm.Cond.and c (allAtoms t)).before a st = _
    rw [Jvm.Cond.before_and, ih, List.all_cons]
def words1 : List Jvm.Cond := Jvm.Cond.code x code maxLocals ret :: tables_1
/-- a 'code' word, met by the world's own term for the bytes: nothing is compared byte by byte -/
theorem code_word {y : MethodName} {bytes : ByteArray} {mx : Nat} {rt : Option FieldType} {a : Array Value} {s : State} {m : MethodId} {meth : Method} {c : Code} (h1 : s.methodNamed? y = some m) (h2 : s.vm.method? m = some meth) (h3 : meth.code = some c) (h4 : c.code = bytes)
    (h5 : (c.maxLocals == mx && c.exceptionTable.isEmpty && decide (c.maxStack ≤ mostOperands) && decide (meth.sig.returnType = rt) && !meth.locks && decide (parseMethodDescriptor y.desc = some meth.sig)) = true) : (Jvm.Cond.code y bytes mx rt).before a s = true := by
  simp only [Bool.and_eq_true, beq_iff_eq, Bool.not_eq_true', decide_eq_true_eq] at h5
  obtain ⟨⟨⟨⟨⟨g1, g2⟩, g3⟩, g4⟩, g5⟩, g6⟩ := h5
  simp [Cond.before, Cond.holds, Cond.value, h1, h2, h3, h4, g1, g2, g3, g4, g5, g6]
def isCode : Jvm.Cond → Bool
  | .code _ _ _ _ => true
  | _ => false
theorem all_split {L : List Jvm.Cond} {P : Jvm.Cond → Bool} (h1 : L.all (fun c => isCode c || P c) = true) (h2 : ∀ c ∈ L.filter isCode, P c = true) : L.all P = true := by
  refine List.all_eq_true.mpr fun c hc => ?_
  have h := List.all_eq_true.mp h1 c hc
  rcases Bool.eq_false_or_eq_true (isCode c) with hi | hi
  · exact h2 c (List.mem_filter.mpr ⟨hc, hi⟩)
  · simpa [hi] using h
set_option maxRecDepth 65536 in
theorem w_c0 : (Jvm.Cond.code x code maxLocals ret).before args0 about1 = true := code_word (m := ⟨1, 1⟩) (meth := k1m1) (c := k1c1) (by decide +kernel) rfl rfl rfl (by decide +kernel)
set_option maxRecDepth 65536 in
theorem w_c1 : (Jvm.Cond.code ({ cls := "com/example/concordat/concordat/model/Protocol", name := "acknowledges", desc := "(Z)Z" } : Jvm.MethodName) prog_32_method_7_code (2 : Nat) (Option.some Jvm.ClassFile.FieldType.boolean)).before args0 about1 = true := code_word (m := ⟨6, 1⟩) (meth := k6m1) (c := k6c1) (by decide +kernel) rfl rfl rfl (by decide +kernel)
set_option maxRecDepth 65536 in
theorem w_c2 : (Jvm.Cond.code ({ cls := "com/example/concordat/concordat/model/Protocol", name := "requirePresumption", desc := "()V" } : Jvm.MethodName) prog_32_method_17_code (1 : Nat) (Option.none : Option Jvm.ClassFile.FieldType)).before args0 about1 = true := code_word (m := ⟨6, 2⟩) (meth := k6m2) (c := k6c2) (by decide +kernel) rfl rfl rfl (by decide +kernel)
set_option maxRecDepth 65536 in
theorem w_c3 : (Jvm.Cond.code ({ cls := "com/example/concordat/concordat/model/Protocol", name := "isMixed", desc := "()Z" } : Jvm.MethodName) prog_32_method_6_code (1 : Nat) (Option.some Jvm.ClassFile.FieldType.boolean)).before args0 about1 = true := code_word (m := ⟨6, 0⟩) (meth := k6m0) (c := k6c0) (by decide +kernel) rfl rfl rfl (by decide +kernel)
def codes1 : List Jvm.Cond := [Jvm.Cond.code x code maxLocals ret, Jvm.Cond.code ({ cls := "com/example/concordat/concordat/model/Protocol", name := "acknowledges", desc := "(Z)Z" } : Jvm.MethodName) prog_32_method_7_code (2 : Nat) (Option.some Jvm.ClassFile.FieldType.boolean), Jvm.Cond.code ({ cls := "com/example/concordat/concordat/model/Protocol", name := "requirePresumption", desc := "()V" } : Jvm.MethodName) prog_32_method_17_code (1 : Nat) (Option.none : Option Jvm.ClassFile.FieldType), Jvm.Cond.code ({ cls := "com/example/concordat/concordat/model/Protocol", name := "isMixed", desc := "()Z" } : Jvm.MethodName) prog_32_method_6_code (1 : Nat) (Option.some Jvm.ClassFile.FieldType.boolean)]
set_option maxRecDepth 65536 in
theorem codes_eq : words1.filter isCode = codes1 := rfl
theorem w_codes : ∀ c ∈ words1.filter isCode, c.before args0 about1 = true := by
  rw [codes_eq]
  intro c hc
  simp only [codes1, List.mem_cons, List.not_mem_nil, or_false] at hc
  rcases hc with rfl | rfl | rfl | rfl
  · exact w_c0
  · exact w_c1
  · exact w_c2
  · exact w_c3
set_option maxRecDepth 65536 in
theorem w_t1 : (words1.take 24).all (fun c => isCode c || c.before args0 about1) = true := by decide +kernel
set_option maxRecDepth 65536 in
theorem w_t2 : (words1.drop 24).all (fun c => isCode c || c.before args0 about1) = true := by decide +kernel
theorem w_tables : (allAtoms (Jvm.Cond.code x code maxLocals ret :: tables_1)).before args0 about1 = true := by
  rw [allAtoms_all]
  show words1.all (fun c => c.before args0 about1) = true
  refine all_split ?_ w_codes
  rw [← List.take_append_drop 24 words1, List.all_append, w_t1, w_t2]
  rfl
set_option maxRecDepth 65536 in
theorem w_case : (Jvm.Cond.and given_1 narrow_1).before args0 about1 = true := by decide +kernel
theorem w_applies : (headSpec (Jvm.Cond.code x code maxLocals ret :: tables_1) room_1).applies x e0.platform about1 = true :=
  (Spec.applies_iff w_frames).mpr ⟨w_running, w_runnable, w_alone, w_named, w_hears, w_ripe, w_room, w_tables⟩
theorem atStart : AtStart classFile x code maxLocals ret World_1 tables_1 room_1 Calls_1 rest_1 Pre_1 launch0 p0 e0 about1 theMethod args0 below0 :=
  ⟨lists_1, trivial, launch0.admits_env _ _ _, launch0.least_env, fairChoices_fair.cas, fairChoices_fair.clock, w_frames, w_args, w_heap, w_applies, trivial, trivial, w_case⟩
end start1
theorem witness_1 : WitnessClaimed_1 := ⟨start1.p0, start1.e0, start1.about1, start1.theMethod, start1.args0, start1.below0, start1.atStart⟩
end Jvm.Pilot.@@N@@
