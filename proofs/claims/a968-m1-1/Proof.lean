import JvmDerived
import JvmDerived.Pilot.@@N@@Statement
import JvmDerived.Pilot.@@N@@Code
set_option linter.unusedVariables false
set_option linter.unusedSimpArgs false
namespace Jvm.OwnGo
open Jvm Jvm.ClassFile Sem Op Lib Jvm.Free Jvm.Stand Jvm.LawKit Jvm.RoadKit
section Own
variable {p : Program} {l : Launch} {e : Env} {R : Room} {s : State} {m : MethodId} {args : Array Value} {below : List Frame} {meth : Method} {c : Code} {T : State} {locs : List Loc} {cells slots : Nat} {Q : Option Value → Heap → List Loc → Prop} {C N : Nat}
/-- from A on the run comes to its return, and what it returns and leaves is as Q says -/
def Go (p : Program) (e : Env) (below : List Frame) (s : State) (Q : Option Value → Heap → List Loc → Prop) (C N : Nat) (A : State) : Prop :=
  ∃ s₂ o, Steps p.tables e below A s₂ ∧ s₂.status = .running ∧ Ended s₂ below o ∧ ∃ v L, o = .returned v ∧ Q v s₂.heap L ∧ FrameEnd s o s₂ L C N
theorem Go.st {A B : State} (h : ∀ t, Steps p.tables e below B t → Steps p.tables e below A t) (k : Go p e below s Q C N B) : Go p e below s Q C N A := by
  obtain ⟨s₂, o, h1, r⟩ := k
  exact ⟨s₂, o, h _ h1, r⟩
theorem Go.tr {A B : State} (h : Steps p.tables e below A B) (k : Go p e below s Q C N B) : Go p e below s Q C N A := k.st fun _ q => h.trans q
theorem Go.retI (X : Stand p l e R s m args below meth c T locs cells slots) (hx : p.tables.exec = Jvm.exec) (hlk : meth.locks = false) (hret : meth.sig.returnType = some .int) {pc : Nat} {Ls : Array Slot} {z : Int32} {rest : List Value} (hd : decode c.code pc = .ok (.ireturn, 1))
    (q : Q (some (.int z)) T.heap locs) (hc : cells ≤ C) (hn : slots ≤ N) : Go p e below s Q C N (T.setTop (mkF m pc Ls (.int z :: rest))) := by
  obtain ⟨fs, hr, hrun, hended, hW, hsame⟩ := X.leave (v := some (.int z)) (fun h => by rw [hret] at h; cases h) hlk
  exact ⟨_, _, retOut X hx hret rfl (Or.inl ⟨rfl, Or.inl rfl, _, rfl⟩) hd hr, hrun, hended, _, _, rfl, q, ⟨_, rfl⟩, hW, hsame.mono hc hn⟩
theorem Go.retN (X : Stand p l e R s m args below meth c T locs cells slots) (hx : p.tables.exec = Jvm.exec) (hlk : meth.locks = false) {t : FieldType} (ht : t = .boolean ∨ t = .byte ∨ t = .char ∨ t = .short) (hret : meth.sig.returnType = some t) {pc : Nat} {Ls : Array Slot} {z z' : Int32} {rest : List Value} (hd : decode c.code pc = .ok (.ireturn, 1))
    (hz : nar t z = z') (q : Q (some (.int z')) T.heap locs) (hc : cells ≤ C) (hn : slots ≤ N) : Go p e below s Q C N (T.setTop (mkF m pc Ls (.int z :: rest))) := by
  subst hz
  obtain ⟨fs, hr, hrun, hended, hW, hsame⟩ := X.leave (v := some (.int (nar t z))) (fun h => by rw [hret] at h; cases h) hlk
  exact ⟨_, _, Jvm.RoadKit.retN X hx hret ht hd hr, hrun, hended, _, _, rfl, q, ⟨_, rfl⟩, hW, hsame.mono hc hn⟩
theorem Go.retJ (X : Stand p l e R s m args below meth c T locs cells slots) (hx : p.tables.exec = Jvm.exec) (hlk : meth.locks = false) (hret : meth.sig.returnType = some .long) {pc : Nat} {Ls : Array Slot} {z : Int64} {rest : List Value} (hd : decode c.code pc = .ok (.lreturn, 1))
    (q : Q (some (.long z)) T.heap locs) (hc : cells ≤ C) (hn : slots ≤ N) : Go p e below s Q C N (T.setTop (mkF m pc Ls (.long z :: rest))) := by
  obtain ⟨fs, hr, hrun, hended, hW, hsame⟩ := X.leave (v := some (.long z)) (fun h => by rw [hret] at h; cases h) hlk
  exact ⟨_, _, retOut X hx hret rfl (Or.inr (Or.inl ⟨rfl, rfl, _, rfl⟩)) hd hr, hrun, hended, _, _, rfl, q, ⟨_, rfl⟩, hW, hsame.mono hc hn⟩
theorem nar_ref {t : FieldType} {w : Value} (hw : w.isRef = true) : narrow t w = w := by
  cases t <;> cases w <;> first | rfl | (simp [Value.isRef] at hw)
theorem Go.retA (X : Stand p l e R s m args below meth c T locs cells slots) (hx : p.tables.exec = Jvm.exec) (hlk : meth.locks = false) {t : FieldType} (ht : t.isReference = true) (hret : meth.sig.returnType = some t) {pc : Nat} {Ls : Array Slot} {w : Value} {rest : List Value} (hw : w.isRef = true) (hd : decode c.code pc = .ok (.areturn, 1))
    (q : Q (some w) T.heap locs) (hc : cells ≤ C) (hn : slots ≤ N) : Go p e below s Q C N (T.setTop (mkF m pc Ls (w :: rest))) := by
  obtain ⟨fs, hr, hrun, hended, hW, hsame⟩ := X.leave (v := some w) (fun h => by rw [hret] at h; cases h) hlk
  exact ⟨_, _, retOut X hx hret (nar_ref hw) (Or.inr (Or.inr (Or.inr (Or.inr ⟨rfl, ht, hw⟩)))) hd hr, hrun, hended, _, _, rfl, q, ⟨_, rfl⟩, hW, hsame.mono hc hn⟩
theorem Go.retV (X : Stand p l e R s m args below meth c T locs cells slots) (hx : p.tables.exec = Jvm.exec) (hlk : meth.locks = false) (hret : meth.sig.returnType = none) {pc : Nat} {Ls : Array Slot} (hd : decode c.code pc = .ok (.return_, 1))
    (q : Q none T.heap locs) (hc : cells ≤ C) (hn : slots ≤ N) : Go p e below s Q C N (T.setTop (mkF m pc Ls [])) := by
  obtain ⟨fs, hr, hrun, hended, hW, hsame⟩ := X.leave (v := none) (fun _ => rfl) hlk
  exact ⟨_, _, X.returnOut hx hret hd hr, hrun, hended, _, _, rfl, q, ⟨_, rfl⟩, hW, hsame.mono hc hn⟩
theorem up {k n : Nat} (X : Stand p l e R s m args below meth c T locs cells slots) (hc : cells ≤ k) (hn : slots ≤ n) : Stand p l e R s m args below meth c T locs k n := { X with same := X.same.mono hc hn }
end Own
section Num
variable {x y : Int32} {u v : Int64} {a b : Int}
theorem ltI (ha : x.toInt = a) (hb : y.toInt = b) (h : a < b) : x < y := by rw [Int32.lt_iff_toInt_lt, ha, hb]; exact h
theorem nltI (ha : x.toInt = a) (hb : y.toInt = b) (h : ¬ a < b) : ¬ x < y := by rw [Int32.lt_iff_toInt_lt, ha, hb]; exact h
theorem eqI (ha : x.toInt = a) (hb : y.toInt = b) (h : a = b) : x = y := Int32.toInt_inj.mp (by rw [ha, hb]; exact h)
theorem neI (ha : x.toInt = a) (hb : y.toInt = b) (h : ¬ a = b) : ¬ x = y := fun q => h (by rw [← ha, ← hb, q])
theorem ltJ (ha : u.toInt = a) (hb : v.toInt = b) (h : a < b) : u < v := by rw [Int64.lt_iff_toInt_lt, ha, hb]; exact h
theorem nltJ (ha : u.toInt = a) (hb : v.toInt = b) (h : ¬ a < b) : ¬ u < v := by rw [Int64.lt_iff_toInt_lt, ha, hb]; exact h
theorem eqJ (ha : u.toInt = a) (hb : v.toInt = b) (h : a = b) : u = v := Int64.toInt_inj.mp (by rw [ha, hb]; exact h)
theorem neJ (ha : u.toInt = a) (hb : v.toInt = b) (h : ¬ a = b) : ¬ u = v := fun q => h (by rw [← ha, ← hb, q])
theorem bool_nar (h : x.toInt = 0 ∨ x.toInt = 1) : nar .boolean x = x := by
  rcases h with h | h
  · rw [Int32.toInt_inj.mp (h.trans (by decide : (0 : Int) = (0 : Int32).toInt))]; decide
  · rw [Int32.toInt_inj.mp (h.trans (by decide : (1 : Int) = (1 : Int32).toInt))]; decide
end Num
section Words
variable {Z : State} {args : Array Value} {t : Term} {C n d : String} {a : Addr}
theorem fld_int {k : Int32} (ht : t.eval args Z none [] Z = some (.ref a)) (h : (Cond.eq (Term.field t C n d) (Term.int k)).value args Z none Z [] = some true) : Fld Z Z.heap a C n d (.int k) := by
  obtain ⟨u, v, e1, e2, k1, k2⟩ := cmp_v (Or.inl h)
  have e3 : v = .int k := Option.some.inj (e2.symm.trans (Term.int_eval k))
  subst e3
  obtain ⟨w, rfl⟩ : ∃ w, u = .int w := k2
  have q := gotT (Cond.eq_ints e1 (Term.int_eval k)) h
  subst q
  exact Fld.start (by rw [← fld_at (args := args) (first := Z) (o := none) (idx := []) ht]; exact e1)
theorem sta_long {k : Int64} (h : (Cond.eq (Term.static C n d) (Term.long k)).value args Z none Z [] = some true) : (Term.static C n d).eval args Z none [] Z = some (.long k) := by
  obtain ⟨u, v, e1, e2, k1, k2⟩ := cmp_v (Or.inl h)
  have e3 : v = .long k := Option.some.inj (e2.symm.trans rfl)
  subst e3
  obtain ⟨w, rfl⟩ : ∃ w, u = .long w := k2
  have q := gotT (eq_L (y := k) e1 rfl) h
  subst q
  exact e1
theorem sta_int {k : Int32} (h : (Cond.eq (Term.static C n d) (Term.int k)).value args Z none Z [] = some true) : (Term.static C n d).eval args Z none [] Z = some (.int k) := by
  obtain ⟨u, v, e1, e2, k1, k2⟩ := cmp_v (Or.inl h)
  have e3 : v = .int k := Option.some.inj (e2.symm.trans rfl)
  subst e3
  obtain ⟨w, rfl⟩ : ∃ w, u = .int w := k2
  have q := gotT (Cond.eq_ints e1 (Term.int_eval k)) h
  subst q
  exact e1
/-- a cell that is no class's statics -/
def Exi (h : Heap) (x : Addr) : Prop := ∃ c : Cell, h[x]? = some c ∧ c.vm.isStatics = false
theorem exi_exa {h : Heap} (F : Exa Z h a C) : Exi h a := by obtain ⟨c, k, h1, -, -, h4, -⟩ := F; exact ⟨c, h1, h4⟩
theorem sta_keep {h h' : Heap} {v : Value} {ws : List Addr} (F : Sta Z h C n d v) (K : Keep h h' ws) (q : ∀ x ∈ ws, Exi h x) : Sta Z h' C n d v := by
  obtain ⟨cf, i, k, f, st, cell, h1, h2, h3, h4, h5, h6, h7⟩ := F
  refine ⟨cf, i, k, f, st, cell, h1, h2, h3, h4, K.2.1 st cell h5 (fun hm => ?_), h6, h7⟩
  obtain ⟨c, e1, e2⟩ := q st hm
  cases h5.symm.trans e1
  rw [h6] at e2; cases e2
theorem self_sel {s : State} {as as' : Array Value} {y z : MethodName} (hs : (Cond.selects C z z).before as s = true) (hc : z.cls = y.cls) (hp : s.PrivateAt y) (hi : (Cond.instanceMethod y).before as' s = true) (hy : y.cls ≠ "java/lang/invoke/MethodHandle" ∧ y.cls ≠ "java/lang/invoke/VarHandle") : (Cond.selects y.cls y y).before as' s = true := by
  obtain ⟨c, r, m, h1, h2, h3, h4, mk, h5, h6⟩ := Cond.selects_spec hs
  exact selects_self_of_private (hc ▸ findClass_of_methodNamed h3) h5 h6 hp hi hy
end Words
end Jvm.OwnGo
namespace Jvm.Pilot.@@N@@
open Jvm Jvm.ClassFile Sem Op Lib Jvm.Free Jvm.Stand Jvm.LawKit Jvm.RoadKit Bundle Jvm.OwnGo Jvm.Pilot.@@N@@.Jvm.D
theorem pn_0 : plainName "com/example/concordat/concordat/model/LogRecord$Type" = true := by first | (simp [plainName, overriddenIn]; done) | decide +kernel
theorem d1_0 : decode prog_27_method_5_code 0 = .ok (.aload_n 0, 1) := by decide +kernel
theorem d1_1 : decode prog_27_method_5_code 1 = .ok (.getstatic 3, 3) := by decide +kernel
theorem d1_4 : decode prog_27_method_5_code 4 = .ok (.if_acmp .eq 14, 3) := by decide +kernel
theorem d1_18 : decode prog_27_method_5_code 18 = .ok (.iconst 0, 1) := by decide +kernel
theorem liI_0 : (0 : Int32).toInt = 0 := by decide
theorem d1_19 : decode prog_27_method_5_code 19 = .ok (.ireturn, 1) := by decide +kernel
theorem ef_rm1a (m : MethodId) (u : Addr) : entryFrame m #[(.ref u)] 1 = mkF m 0 #[.val (.ref u)] [] := by first | (simp [entryFrame, mkF, argsToLocals, Value.category]; done) | rfl
def Q1a (Z : State) (u : Addr) (w : Addr) (h0 : Heap) (n0 : Nat) (vv : Option Value) (h : Heap) (LL : List Loc) : Prop := vv = some (.int (0 : Int32)) ∧ Fr n0 LL ∧ h = h0
set_option maxRecDepth 65536 in
set_option maxHeartbeats 40000000 in
theorem rm1a (l : Launch) (Z : State) (a0 : Array Value) (hw : ∀ d ∈ tables_1, d.before a0 Z = true) (ws : List Jvm.Cond) (u : Addr) (w : Addr) (h0 : Heap) (n0 : Nat) (Z0 : n0 ≤ h0.size) (hS : Sta Z h0 "com/example/concordat/concordat/model/LogRecord$Type" "START" "Lcom/example/concordat/concordat/model/LogRecord$Type;" (.ref u)) (hC : Sta Z h0 "com/example/concordat/concordat/model/LogRecord$Type" "CHECKPOINT" "Lcom/example/concordat/concordat/model/LogRecord$Type;" (.ref w)) :
    MetFree l (⟨"com/example/concordat/concordat/model/LogRecord$Type", "belongsToTransaction", "()Z"⟩ : MethodName) (head1 (Jvm.Cond.code (⟨"com/example/concordat/concordat/model/LogRecord$Type", "belongsToTransaction", "()Z"⟩ : MethodName) prog_27_method_5_code 1 (some .boolean) :: ws) ({ frames := 0, cells := 0, slots := 0, locals := 0 } : Room)) (fun aa UU => aa = #[(.ref u)] ∧ Z.Warmed39 UU.vm ∧ UU.heap = h0) (fun _ _ _ _ _ => True) (fun _ UU oo UU' => ∃ vv LL, oo = .returned vv ∧ Q1a Z u w h0 n0 vv UU'.heap LL ∧ FrameEnd UU oo UU' LL 0 0) := by
  refine MetFree.of_bodySF (plainFor_of_name pn_0) hisR ?_
  intro p e s m args below meth c s₁ Bd hml0 hP hK
  obtain ⟨rfl, hZ, hh⟩ := hP
  have hx := Bd.exec
  have hby := Bd.bytes
  have hlk : meth.locks = false := BodyLoose.notSynchronized Bd
  have hml : c.maxLocals = 1 := hml0
  have hown : s.vm.findClass "com/example/concordat/concordat/model/LogRecord$Type" = some m.cls := findClass_of_methodNamed Bd.named
  have hnm := (name_of_methodNamed Bd.named Bd.method).1
  have X0 : Stand p l e ({ frames := 0, cells := 0, slots := 0, locals := 0 } : Room) s m #[(.ref u)] below meth c s₁ [] 0 0 := Stand.of_body Bd
  have e0 : s₁.heap = h0 := by rw [← hh, Bd.state]; rfl
  have N0 := Fr.nil n0
  have K0 : Keep h0 h0 [] := Keep.refl h0 _
  refine (?_ : Go p e below s (Q1a Z u w h0 n0) 0 0 (s₁.setTop (entryFrame m #[(.ref u)] 1)))
  rw [ef_rm1a]
  generalize hQ : Q1a Z u w h0 n0 = Q
  show Go p e below s Q 0 0 (s₁.setTop (mkF m 0 #[.val (.ref u)] []))
  refine Go.st (fun _ k => XS.aloadN X0.here hx rfl (hb hby d1_0) rfl rfl k) ?_
  show Go p e below s Q 0 0 (s₁.setTop (mkF m 1 #[.val (.ref u)] [(.ref u)]))
  obtain ⟨T1, X1, e1, st1⟩ := getS2 X0 hx hZ hown (host := "") (Or.inl (hw _ (List.mem_of_getElem? (i := 9) rfl))) Via.refl e0 hS (g := (mkF m 1 #[.val (.ref u)] [(.ref u)])) rfl (hb hby d1_1)
  refine Go.st st1 ?_
  show Go p e below s Q 0 0 (T1.setTop (mkF m 4 #[.val (.ref u)] [(.ref u), (.ref u)]))
  refine Go.st (fun _ k => Jvm.RoadKit.acmp (g := (mkF m 4 #[.val (.ref u)] [(.ref u), (.ref u)])) X1 hx rfl rfl rfl (pc0 := 4) (pc' := 18) (same := true) rfl (hb hby d1_4) rfl (decide_eq_true rfl) (by decide) (by decide) k) ?_
  show Go p e below s Q 0 0 (T1.setTop (mkF m 18 #[.val (.ref u)] []))
  refine Go.st (fun _ k => XS.iconst X1.here hx rfl (hb hby d1_18) k) ?_
  show Go p e below s Q 0 0 (T1.setTop (mkF m 19 #[.val (.ref u)] [(.int (0 : Int32))]))
  have f2 := liI_0
  exact Go.retN X1 hx hlk (by simp) Bd.returns (hb hby d1_19) (z' := (0 : Int32)) (by decide) (by rw [← hQ, e1]; exact ⟨rfl, N0, rfl⟩) (by decide) (by decide)
theorem d1_7 : decode prog_27_method_5_code 7 = .ok (.aload_n 0, 1) := by decide +kernel
theorem d1_8 : decode prog_27_method_5_code 8 = .ok (.getstatic 7, 3) := by decide +kernel
theorem d1_11 : decode prog_27_method_5_code 11 = .ok (.if_acmp .eq 7, 3) := by decide +kernel
theorem ef_rm1b (m : MethodId) (w : Addr) : entryFrame m #[(.ref w)] 1 = mkF m 0 #[.val (.ref w)] [] := by first | (simp [entryFrame, mkF, argsToLocals, Value.category]; done) | rfl
def Q1b (Z : State) (w : Addr) (u : Addr) (h0 : Heap) (n0 : Nat) (vv : Option Value) (h : Heap) (LL : List Loc) : Prop := vv = some (.int (0 : Int32)) ∧ Fr n0 LL ∧ h = h0
set_option maxRecDepth 65536 in
set_option maxHeartbeats 40000000 in
theorem rm1b (l : Launch) (Z : State) (a0 : Array Value) (hw : ∀ d ∈ tables_1, d.before a0 Z = true) (ws : List Jvm.Cond) (w : Addr) (u : Addr) (h0 : Heap) (n0 : Nat) (Z0 : n0 ≤ h0.size) (hS : Sta Z h0 "com/example/concordat/concordat/model/LogRecord$Type" "START" "Lcom/example/concordat/concordat/model/LogRecord$Type;" (.ref u)) (hC : Sta Z h0 "com/example/concordat/concordat/model/LogRecord$Type" "CHECKPOINT" "Lcom/example/concordat/concordat/model/LogRecord$Type;" (.ref w)) (hn : w ≠ u) :
    MetFree l (⟨"com/example/concordat/concordat/model/LogRecord$Type", "belongsToTransaction", "()Z"⟩ : MethodName) (head1 (Jvm.Cond.code (⟨"com/example/concordat/concordat/model/LogRecord$Type", "belongsToTransaction", "()Z"⟩ : MethodName) prog_27_method_5_code 1 (some .boolean) :: ws) ({ frames := 0, cells := 0, slots := 0, locals := 0 } : Room)) (fun aa UU => aa = #[(.ref w)] ∧ Z.Warmed39 UU.vm ∧ UU.heap = h0) (fun _ _ _ _ _ => True) (fun _ UU oo UU' => ∃ vv LL, oo = .returned vv ∧ Q1b Z w u h0 n0 vv UU'.heap LL ∧ FrameEnd UU oo UU' LL 0 0) := by
  refine MetFree.of_bodySF (plainFor_of_name pn_0) hisR ?_
  intro p e s m args below meth c s₁ Bd hml0 hP hK
  obtain ⟨rfl, hZ, hh⟩ := hP
  have hx := Bd.exec
  have hby := Bd.bytes
  have hlk : meth.locks = false := BodyLoose.notSynchronized Bd
  have hml : c.maxLocals = 1 := hml0
  have hown : s.vm.findClass "com/example/concordat/concordat/model/LogRecord$Type" = some m.cls := findClass_of_methodNamed Bd.named
  have hnm := (name_of_methodNamed Bd.named Bd.method).1
  have X0 : Stand p l e ({ frames := 0, cells := 0, slots := 0, locals := 0 } : Room) s m #[(.ref w)] below meth c s₁ [] 0 0 := Stand.of_body Bd
  have e0 : s₁.heap = h0 := by rw [← hh, Bd.state]; rfl
  have N0 := Fr.nil n0
  have K0 : Keep h0 h0 [] := Keep.refl h0 _
  refine (?_ : Go p e below s (Q1b Z w u h0 n0) 0 0 (s₁.setTop (entryFrame m #[(.ref w)] 1)))
  rw [ef_rm1b]
  generalize hQ : Q1b Z w u h0 n0 = Q
  show Go p e below s Q 0 0 (s₁.setTop (mkF m 0 #[.val (.ref w)] []))
  refine Go.st (fun _ k => XS.aloadN X0.here hx rfl (hb hby d1_0) rfl rfl k) ?_
  show Go p e below s Q 0 0 (s₁.setTop (mkF m 1 #[.val (.ref w)] [(.ref w)]))
  obtain ⟨T1, X1, e1, st1⟩ := getS2 X0 hx hZ hown (host := "") (Or.inl (hw _ (List.mem_of_getElem? (i := 9) rfl))) Via.refl e0 hS (g := (mkF m 1 #[.val (.ref w)] [(.ref w)])) rfl (hb hby d1_1)
  refine Go.st st1 ?_
  show Go p e below s Q 0 0 (T1.setTop (mkF m 4 #[.val (.ref w)] [(.ref u), (.ref w)]))
  refine Go.st (fun _ k => Jvm.RoadKit.acmp (g := (mkF m 4 #[.val (.ref w)] [(.ref u), (.ref w)])) X1 hx rfl rfl rfl (pc0 := 4) (pc' := 7) (same := false) rfl (hb hby d1_4) rfl (decide_eq_false fun q => hn (Value.ref.inj q)) (by decide) (by decide) k) ?_
  show Go p e below s Q 0 0 (T1.setTop (mkF m 7 #[.val (.ref w)] []))
  refine Go.st (fun _ k => XS.aloadN X1.here hx rfl (hb hby d1_7) rfl rfl k) ?_
  show Go p e below s Q 0 0 (T1.setTop (mkF m 8 #[.val (.ref w)] [(.ref w)]))
  obtain ⟨T2, X2, e2, st2⟩ := getS2 X1 hx hZ hown (host := "") (Or.inl (hw _ (List.mem_of_getElem? (i := 12) rfl))) Via.refl e1 hC (g := (mkF m 8 #[.val (.ref w)] [(.ref w)])) rfl (hb hby d1_8)
  refine Go.st st2 ?_
  show Go p e below s Q 0 0 (T2.setTop (mkF m 11 #[.val (.ref w)] [(.ref w), (.ref w)]))
  refine Go.st (fun _ k => Jvm.RoadKit.acmp (g := (mkF m 11 #[.val (.ref w)] [(.ref w), (.ref w)])) X2 hx rfl rfl rfl (pc0 := 11) (pc' := 18) (same := true) rfl (hb hby d1_11) rfl (decide_eq_true rfl) (by decide) (by decide) k) ?_
  show Go p e below s Q 0 0 (T2.setTop (mkF m 18 #[.val (.ref w)] []))
  refine Go.st (fun _ k => XS.iconst X2.here hx rfl (hb hby d1_18) k) ?_
  show Go p e below s Q 0 0 (T2.setTop (mkF m 19 #[.val (.ref w)] [(.int (0 : Int32))]))
  have f3 := liI_0
  exact Go.retN X2 hx hlk (by simp) Bd.returns (hb hby d1_19) (z' := (0 : Int32)) (by decide) (by rw [← hQ, e2]; exact ⟨rfl, N0, rfl⟩) (by decide) (by decide)
theorem d1_14 : decode prog_27_method_5_code 14 = .ok (.iconst 1, 1) := by decide +kernel
theorem d1_15 : decode prog_27_method_5_code 15 = .ok (.goto 4, 3) := by decide +kernel
theorem liI_1 : (1 : Int32).toInt = 1 := by decide
theorem ef_rm1c (m : MethodId) (o : Addr) : entryFrame m #[(.ref o)] 1 = mkF m 0 #[.val (.ref o)] [] := by first | (simp [entryFrame, mkF, argsToLocals, Value.category]; done) | rfl
def Q1c (Z : State) (o : Addr) (u : Addr) (w : Addr) (h0 : Heap) (n0 : Nat) (vv : Option Value) (h : Heap) (LL : List Loc) : Prop := vv = some (.int (1 : Int32)) ∧ Fr n0 LL ∧ h = h0
set_option maxRecDepth 65536 in
set_option maxHeartbeats 40000000 in
theorem rm1c (l : Launch) (Z : State) (a0 : Array Value) (hw : ∀ d ∈ tables_1, d.before a0 Z = true) (ws : List Jvm.Cond) (o : Addr) (u : Addr) (w : Addr) (h0 : Heap) (n0 : Nat) (Z0 : n0 ≤ h0.size) (hS : Sta Z h0 "com/example/concordat/concordat/model/LogRecord$Type" "START" "Lcom/example/concordat/concordat/model/LogRecord$Type;" (.ref u)) (hC : Sta Z h0 "com/example/concordat/concordat/model/LogRecord$Type" "CHECKPOINT" "Lcom/example/concordat/concordat/model/LogRecord$Type;" (.ref w)) (hn : o ≠ u) (hn2 : o ≠ w) :
    MetFree l (⟨"com/example/concordat/concordat/model/LogRecord$Type", "belongsToTransaction", "()Z"⟩ : MethodName) (head1 (Jvm.Cond.code (⟨"com/example/concordat/concordat/model/LogRecord$Type", "belongsToTransaction", "()Z"⟩ : MethodName) prog_27_method_5_code 1 (some .boolean) :: ws) ({ frames := 0, cells := 0, slots := 0, locals := 0 } : Room)) (fun aa UU => aa = #[(.ref o)] ∧ Z.Warmed39 UU.vm ∧ UU.heap = h0) (fun _ _ _ _ _ => True) (fun _ UU oo UU' => ∃ vv LL, oo = .returned vv ∧ Q1c Z o u w h0 n0 vv UU'.heap LL ∧ FrameEnd UU oo UU' LL 0 0) := by
  refine MetFree.of_bodySF (plainFor_of_name pn_0) hisR ?_
  intro p e s m args below meth c s₁ Bd hml0 hP hK
  obtain ⟨rfl, hZ, hh⟩ := hP
  have hx := Bd.exec
  have hby := Bd.bytes
  have hlk : meth.locks = false := BodyLoose.notSynchronized Bd
  have hml : c.maxLocals = 1 := hml0
  have hown : s.vm.findClass "com/example/concordat/concordat/model/LogRecord$Type" = some m.cls := findClass_of_methodNamed Bd.named
  have hnm := (name_of_methodNamed Bd.named Bd.method).1
  have X0 : Stand p l e ({ frames := 0, cells := 0, slots := 0, locals := 0 } : Room) s m #[(.ref o)] below meth c s₁ [] 0 0 := Stand.of_body Bd
  have e0 : s₁.heap = h0 := by rw [← hh, Bd.state]; rfl
  have N0 := Fr.nil n0
  have K0 : Keep h0 h0 [] := Keep.refl h0 _
  refine (?_ : Go p e below s (Q1c Z o u w h0 n0) 0 0 (s₁.setTop (entryFrame m #[(.ref o)] 1)))
  rw [ef_rm1c]
  generalize hQ : Q1c Z o u w h0 n0 = Q
  show Go p e below s Q 0 0 (s₁.setTop (mkF m 0 #[.val (.ref o)] []))
  refine Go.st (fun _ k => XS.aloadN X0.here hx rfl (hb hby d1_0) rfl rfl k) ?_
  show Go p e below s Q 0 0 (s₁.setTop (mkF m 1 #[.val (.ref o)] [(.ref o)]))
  obtain ⟨T1, X1, e1, st1⟩ := getS2 X0 hx hZ hown (host := "") (Or.inl (hw _ (List.mem_of_getElem? (i := 9) rfl))) Via.refl e0 hS (g := (mkF m 1 #[.val (.ref o)] [(.ref o)])) rfl (hb hby d1_1)
  refine Go.st st1 ?_
  show Go p e below s Q 0 0 (T1.setTop (mkF m 4 #[.val (.ref o)] [(.ref u), (.ref o)]))
  refine Go.st (fun _ k => Jvm.RoadKit.acmp (g := (mkF m 4 #[.val (.ref o)] [(.ref u), (.ref o)])) X1 hx rfl rfl rfl (pc0 := 4) (pc' := 7) (same := false) rfl (hb hby d1_4) rfl (decide_eq_false fun q => hn (Value.ref.inj q)) (by decide) (by decide) k) ?_
  show Go p e below s Q 0 0 (T1.setTop (mkF m 7 #[.val (.ref o)] []))
  refine Go.st (fun _ k => XS.aloadN X1.here hx rfl (hb hby d1_7) rfl rfl k) ?_
  show Go p e below s Q 0 0 (T1.setTop (mkF m 8 #[.val (.ref o)] [(.ref o)]))
  obtain ⟨T2, X2, e2, st2⟩ := getS2 X1 hx hZ hown (host := "") (Or.inl (hw _ (List.mem_of_getElem? (i := 12) rfl))) Via.refl e1 hC (g := (mkF m 8 #[.val (.ref o)] [(.ref o)])) rfl (hb hby d1_8)
  refine Go.st st2 ?_
  show Go p e below s Q 0 0 (T2.setTop (mkF m 11 #[.val (.ref o)] [(.ref w), (.ref o)]))
  refine Go.st (fun _ k => Jvm.RoadKit.acmp (g := (mkF m 11 #[.val (.ref o)] [(.ref w), (.ref o)])) X2 hx rfl rfl rfl (pc0 := 11) (pc' := 14) (same := false) rfl (hb hby d1_11) rfl (decide_eq_false fun q => hn2 (Value.ref.inj q)) (by decide) (by decide) k) ?_
  show Go p e below s Q 0 0 (T2.setTop (mkF m 14 #[.val (.ref o)] []))
  refine Go.st (fun _ k => XS.iconst X2.here hx rfl (hb hby d1_14) k) ?_
  show Go p e below s Q 0 0 (T2.setTop (mkF m 15 #[.val (.ref o)] [(.int (1 : Int32))]))
  refine Go.st (fun _ k => XS.goto X2.here hx rfl (pc0 := 15) (pc' := 19) rfl (hb hby d1_15) (by decide) (by decide) k) ?_
  show Go p e below s Q 0 0 (T2.setTop (mkF m 19 #[.val (.ref o)] [(.int (1 : Int32))]))
  have f3 := liI_1
  exact Go.retN X2 hx hlk (by simp) Bd.returns (hb hby d1_19) (z' := (1 : Int32)) (by decide) (by rw [← hQ, e2]; exact ⟨rfl, N0, rfl⟩) (by decide) (by decide)
theorem pn_1 : plainName "com/example/concordat/concordat/model/TypeBelongsToTransactionPinLaw" = true := by first | (simp [plainName, overriddenIn]; done) | decide +kernel
theorem liI_2147483647 : (2147483647 : Int32).toInt = 2147483647 := by decide
theorem liI_7 : (7 : Int32).toInt = 7 := by decide
theorem pd_0 : parseMethodDescriptor "()Z" = some ⟨[], some .boolean⟩ := by decide +kernel
theorem liI_2 : (2 : Int32).toInt = 2 := by decide
theorem liI_3 : (3 : Int32).toInt = 3 := by decide
theorem liI_4 : (4 : Int32).toInt = 4 := by decide
theorem liI_5 : (5 : Int32).toInt = 5 := by decide
theorem ef_rm0 (m : MethodId) (k0 : Int32) : entryFrame m #[(.int k0)] maxLocals = mkF m 0 #[.val (.int k0), .unset, .unset, .unset] [] := by first | (simp [entryFrame, mkF, argsToLocals, Value.category, maxLocals]; done) | rfl
def Q0 (Z : State) (k0 : Int32) (aSTART : Addr) (aPREPARED : Addr) (aCHECKPOINT : Addr) (aABORT : Addr) (aEND : Addr) (aCOMMIT : Addr) (aINITIATION : Addr) (h0 : Heap) (n0 : Nat) (vv : Option Value) (h : Heap) (LL : List Loc) : Prop := vv = some (.int (1 : Int32)) ∧ Fr n0 LL ∧ h = h0
set_option maxRecDepth 65536 in
set_option maxHeartbeats 40000000 in
theorem rm0 (l : Launch) (Z : State) (a0 : Array Value) (hw : ∀ d ∈ tables_1, d.before a0 Z = true) (ws : List Jvm.Cond) (k0 : Int32) (aSTART : Addr) (aPREPARED : Addr) (aCHECKPOINT : Addr) (aABORT : Addr) (aEND : Addr) (aCOMMIT : Addr) (aINITIATION : Addr) (h0 : Heap) (n0 : Nat) (Z0 : n0 ≤ h0.size) (S_aSTART : Sta Z h0 "com/example/concordat/concordat/model/LogRecord$Type" "START" "Lcom/example/concordat/concordat/model/LogRecord$Type;" (.ref aSTART)) (E_aSTART : Exa Z h0 aSTART "com/example/concordat/concordat/model/LogRecord$Type") (S_aPREPARED : Sta Z h0 "com/example/concordat/concordat/model/LogRecord$Type" "PREPARED" "Lcom/example/concordat/concordat/model/LogRecord$Type;" (.ref aPREPARED)) (E_aPREPARED : Exa Z h0 aPREPARED "com/example/concordat/concordat/model/LogRecord$Type") (F_aPREPARED_ordinal : Fld Z h0 aPREPARED "java/lang/Enum" "ordinal" "I" (.int (3 : Int32))) (F_aSTART_ordinal : Fld Z h0 aSTART "java/lang/Enum" "ordinal" "I" (.int (0 : Int32))) (S_aCHECKPOINT : Sta Z h0 "com/example/concordat/concordat/model/LogRecord$Type" "CHECKPOINT" "Lcom/example/concordat/concordat/model/LogRecord$Type;" (.ref aCHECKPOINT)) (E_aCHECKPOINT : Exa Z h0 aCHECKPOINT "com/example/concordat/concordat/model/LogRecord$Type") (F_aCHECKPOINT_ordinal : Fld Z h0 aCHECKPOINT "java/lang/Enum" "ordinal" "I" (.int (1 : Int32))) (S_aABORT : Sta Z h0 "com/example/concordat/concordat/model/LogRecord$Type" "ABORT" "Lcom/example/concordat/concordat/model/LogRecord$Type;" (.ref aABORT)) (E_aABORT : Exa Z h0 aABORT "com/example/concordat/concordat/model/LogRecord$Type") (F_aABORT_ordinal : Fld Z h0 aABORT "java/lang/Enum" "ordinal" "I" (.int (5 : Int32))) (S_aEND : Sta Z h0 "com/example/concordat/concordat/model/LogRecord$Type" "END" "Lcom/example/concordat/concordat/model/LogRecord$Type;" (.ref aEND)) (E_aEND : Exa Z h0 aEND "com/example/concordat/concordat/model/LogRecord$Type") (F_aEND_ordinal : Fld Z h0 aEND "java/lang/Enum" "ordinal" "I" (.int (6 : Int32))) (S_aCOMMIT : Sta Z h0 "com/example/concordat/concordat/model/LogRecord$Type" "COMMIT" "Lcom/example/concordat/concordat/model/LogRecord$Type;" (.ref aCOMMIT)) (E_aCOMMIT : Exa Z h0 aCOMMIT "com/example/concordat/concordat/model/LogRecord$Type") (F_aCOMMIT_ordinal : Fld Z h0 aCOMMIT "java/lang/Enum" "ordinal" "I" (.int (4 : Int32))) (S_aINITIATION : Sta Z h0 "com/example/concordat/concordat/model/LogRecord$Type" "INITIATION" "Lcom/example/concordat/concordat/model/LogRecord$Type;" (.ref aINITIATION)) (E_aINITIATION : Exa Z h0 aINITIATION "com/example/concordat/concordat/model/LogRecord$Type") (F_aINITIATION_ordinal : Fld Z h0 aINITIATION "java/lang/Enum" "ordinal" "I" (.int (2 : Int32))) (ne_aPREPARED_aSTART : aPREPARED ≠ aSTART) (ne_aPREPARED_aCHECKPOINT : aPREPARED ≠ aCHECKPOINT) (ne_aPREPARED_aABORT : aPREPARED ≠ aABORT) (ne_aPREPARED_aEND : aPREPARED ≠ aEND) (ne_aPREPARED_aCOMMIT : aPREPARED ≠ aCOMMIT) (ne_aPREPARED_aINITIATION : aPREPARED ≠ aINITIATION) (ne_aSTART_aCHECKPOINT : aSTART ≠ aCHECKPOINT) (ne_aSTART_aABORT : aSTART ≠ aABORT) (ne_aSTART_aEND : aSTART ≠ aEND) (ne_aSTART_aCOMMIT : aSTART ≠ aCOMMIT) (ne_aSTART_aINITIATION : aSTART ≠ aINITIATION) (ne_aCHECKPOINT_aABORT : aCHECKPOINT ≠ aABORT) (ne_aCHECKPOINT_aEND : aCHECKPOINT ≠ aEND) (ne_aCHECKPOINT_aCOMMIT : aCHECKPOINT ≠ aCOMMIT) (ne_aCHECKPOINT_aINITIATION : aCHECKPOINT ≠ aINITIATION) (ne_aABORT_aEND : aABORT ≠ aEND) (ne_aABORT_aCOMMIT : aABORT ≠ aCOMMIT) (ne_aABORT_aINITIATION : aABORT ≠ aINITIATION) (ne_aEND_aCOMMIT : aEND ≠ aCOMMIT) (ne_aEND_aINITIATION : aEND ≠ aINITIATION) (ne_aCOMMIT_aINITIATION : aCOMMIT ≠ aINITIATION) :
    MetFree l x (head1 (Jvm.Cond.code x code maxLocals ret :: ws) room_1) (fun aa UU => aa = #[(.int k0)] ∧ Z.Warmed39 UU.vm ∧ UU.heap = h0) (fun _ _ _ _ _ => True) (fun _ UU oo UU' => ∃ vv LL, oo = .returned vv ∧ Q0 Z k0 aSTART aPREPARED aCHECKPOINT aABORT aEND aCOMMIT aINITIATION h0 n0 vv UU'.heap LL ∧ FrameEnd UU oo UU' LL 0 0) := by
  refine MetFree.of_bodySF (plainFor_of_name pn_1) hisR ?_
  intro p e s m args below meth c s₁ Bd hml0 hP hK
  obtain ⟨rfl, hZ, hh⟩ := hP
  have hx := Bd.exec
  have hby := Bd.bytes
  have hlk : meth.locks = false := BodyLoose.notSynchronized Bd
  have hml : c.maxLocals = 4 := hml0
  have hown : s.vm.findClass "com/example/concordat/concordat/model/TypeBelongsToTransactionPinLaw" = some m.cls := findClass_of_methodNamed Bd.named
  have hnm := (name_of_methodNamed Bd.named Bd.method).1
  have X0 : Stand p l e room_1 s m #[(.int k0)] below meth c s₁ [] 0 0 := Stand.of_body Bd
  have e0 : s₁.heap = h0 := by rw [← hh, Bd.state]; rfl
  have N0 := Fr.nil n0
  have K0 : Keep h0 h0 [] := Keep.refl h0 _
  refine (?_ : Go p e below s (Q0 Z k0 aSTART aPREPARED aCHECKPOINT aABORT aEND aCOMMIT aINITIATION h0 n0) 0 0 (s₁.setTop (entryFrame m #[(.int k0)] maxLocals)))
  rw [ef_rm0]
  generalize hQ : Q0 Z k0 aSTART aPREPARED aCHECKPOINT aABORT aEND aCOMMIT aINITIATION h0 n0 = Q
  show Go p e below s Q 0 0 (s₁.setTop (mkF m 0 #[.val (.int k0), .unset, .unset, .unset] []))
  have f1 := rng32 k0
  refine Go.st (fun _ k => XS.iloadN X0.here hx rfl (hb hby at_0) rfl k) ?_
  show Go p e below s Q 0 0 (s₁.setTop (mkF m 1 #[.val (.int k0), .unset, .unset, .unset] [(.int k0)]))
  refine Go.st (X0.ldcInt hx hown (mvT hZ (hw _ (List.mem_of_getElem? (i := 0) rfl))) (g := (mkF m 1 #[.val (.int k0), .unset, .unset, .unset] [(.int k0)])) rfl (hb hby at_1)) ?_
  show Go p e below s Q 0 0 (s₁.setTop (mkF m 3 #[.val (.int k0), .unset, .unset, .unset] [(.int (2147483647 : Int32)), (.int k0)]))
  refine Go.st (fun _ k => XS.iand X0.here hx rfl (hb hby at_3) rfl k) ?_
  show Go p e below s Q 0 0 (s₁.setTop (mkF m 4 #[.val (.int k0), .unset, .unset, .unset] [(.int (k0 &&& (2147483647 : Int32)))]))
  refine Go.st (fun _ k => XS.bipush X0.here hx rfl (hb hby at_4) k) ?_
  show Go p e below s Q 0 0 (s₁.setTop (mkF m 6 #[.val (.int k0), .unset, .unset, .unset] [(.int (7 : Int32)), (.int (k0 &&& (2147483647 : Int32)))]))
  refine Go.st (fun _ k => iremM X0 hx rfl (hb hby at_6) rfl (by decide) k) ?_
  show Go p e below s Q 0 0 (s₁.setTop (mkF m 7 #[.val (.int k0), .unset, .unset, .unset] [(.int ((k0 &&& (2147483647 : Int32)) % (7 : Int32)))]))
  refine Go.st (fun _ k => XS.istoreN X0.here hx rfl (hb hby at_7) rfl (l' := #[.val (.int k0), .val (.int ((k0 &&& (2147483647 : Int32)) % (7 : Int32))), .unset, .unset]) rfl k) ?_
  show Go p e below s Q 0 0 (s₁.setTop (mkF m 8 #[.val (.int k0), .val (.int ((k0 &&& (2147483647 : Int32)) % (7 : Int32))), .unset, .unset] []))
  have f2 := liI_2147483647
  have f3 : (k0 &&& (2147483647 : Int32)).toInt = k0.toInt % 2147483648 := c_mask k0 (2147483647 : Int32) 31 (by decide) (by decide)
  have f4 := liI_7
  have f5 := c_irem (k0 &&& (2147483647 : Int32)) (7 : Int32) 7 (by decide)
  have f6 := rng32 ((k0 &&& (2147483647 : Int32)) % (7 : Int32))
  generalize hv_v7 : ((k0 &&& (2147483647 : Int32)) % (7 : Int32)) = v7 at f5 f6 ⊢
  refine Go.st (fun _ k => XS.iloadN X0.here hx rfl (hb hby at_8) rfl k) ?_
  show Go p e below s Q 0 0 (s₁.setTop (mkF m 9 #[.val (.int k0), .val (.int v7), .unset, .unset] [(.int v7)]))
  have f8 := liI_0
  by_cases c9 : v7.toInt = 0
  ·
    refine Go.st (fun _ k => XS.ifNo X0.here hx rfl (hb hby at_9) rfl ((if0 _ _).trans (teq (eqI rfl liI_0 c9)).2) k) ?_
    show Go p e below s Q 0 0 (s₁.setTop (mkF m 12 #[.val (.int k0), .val (.int v7), .unset, .unset] []))
    obtain ⟨T10, X10, e10, st10⟩ := getS2 X0 hx hZ hown (host := "") (Or.inl (hw _ (List.mem_of_getElem? (i := 1) rfl))) Via.refl e0 S_aSTART (g := (mkF m 12 #[.val (.int k0), .val (.int v7), .unset, .unset] [])) rfl (hb hby at_12)
    refine Go.st st10 ?_
    show Go p e below s Q 0 0 (T10.setTop (mkF m 15 #[.val (.int k0), .val (.int v7), .unset, .unset] [(.ref aSTART)]))
    refine Go.st (fun _ k => XS.astoreN X10.here hx rfl (hb hby at_15) rfl rfl (l' := #[.val (.int k0), .val (.int v7), .val (.ref aSTART), .unset]) rfl k) ?_
    show Go p e below s Q 0 0 (T10.setTop (mkF m 16 #[.val (.int k0), .val (.int v7), .val (.ref aSTART), .unset] []))
    refine Go.st (fun _ k => XS.iconst X10.here hx rfl (hb hby at_16) k) ?_
    show Go p e below s Q 0 0 (T10.setTop (mkF m 17 #[.val (.int k0), .val (.int v7), .val (.ref aSTART), .unset] [(.int (0 : Int32))]))
    refine Go.st (fun _ k => XS.istoreN X10.here hx rfl (hb hby at_17) rfl (l' := #[.val (.int k0), .val (.int v7), .val (.ref aSTART), .val (.int (0 : Int32))]) rfl k) ?_
    show Go p e below s Q 0 0 (T10.setTop (mkF m 18 #[.val (.int k0), .val (.int v7), .val (.ref aSTART), .val (.int (0 : Int32))] []))
    refine Go.st (fun _ k => XS.goto X10.here hx rfl (pc0 := 18) (pc' := 97) rfl (hb hby at_18) (by decide) (by decide) k) ?_
    show Go p e below s Q 0 0 (T10.setTop (mkF m 97 #[.val (.int k0), .val (.int v7), .val (.ref aSTART), .val (.int (0 : Int32))] []))
    refine Go.st (fun _ k => XS.aloadN X10.here hx rfl (hb hby at_97) rfl rfl k) ?_
    show Go p e below s Q 0 0 (T10.setTop (mkF m 98 #[.val (.int k0), .val (.int v7), .val (.ref aSTART), .val (.int (0 : Int32))] [(.ref aSTART)]))
    obtain ⟨cq11, kq11, q11a, q11b, q11c⟩ := isOf hZ e10 E_aSTART
    obtain ⟨_, _, ⟨T11, L11, k11, n11⟩, -, X11, ⟨Lc11, hQ11, l11, y11, z11⟩, st11⟩ := X10.virtualBack hx (y := (⟨"com/example/concordat/concordat/model/LogRecord$Type", "belongsToTransaction", "()Z"⟩ : MethodName)) (z := (⟨"com/example/concordat/concordat/model/LogRecord$Type", "belongsToTransaction", "()Z"⟩ : MethodName)) hown (mvT hZ (hw _ (List.mem_of_getElem? (i := 4) rfl))) (mvT hZ (hw _ (List.mem_of_getElem? (i := 5) rfl))) (notFace_of_selects (args := #[]) (mvT hZ (hw _ (List.mem_of_getElem? (i := 7) rfl)))) (mvT hZ (hw _ (List.mem_of_getElem? (i := 7) rfl))) (mvT hZ (hw _ (List.mem_of_getElem? (i := 6) rfl))) (by decide) (backOf (W := 0) (rm1a l Z a0 hw [] aSTART aCHECKPOINT h0 n0 (Nat.le_trans Z0 K0.1) S_aSTART S_aCHECKPOINT) hZ (hw _ (List.mem_of_getElem? (i := 8) rfl)) (hw _ (List.mem_of_getElem? (i := 2) rfl)) (by decide) (by decide)) q11a q11c (g := (mkF m 98 #[.val (.int k0), .val (.int v7), .val (.ref aSTART), .val (.int (0 : Int32))] [(.ref aSTART)])) rfl (by rw [hml]; rfl) (Steps.refl _) (argsL := []) (rest := []) (lenOf pd_0 rfl) rfl (by show 2 * 0 + _ ≤ _; exact Nat.le_of_eq rfl) (hb hby at_98) (fun _ _ => ⟨rfl, e10, (by decide : 0 + 0 ≤ _), (by decide : 0 + 0 ≤ _)⟩)
    dsimp only [Pt.U, Pt.locs, Pt.cells, Pt.slots] at X11 l11 y11 z11 st11 hQ11
    subst l11 y11 z11
    obtain ⟨rfl, N11q, e11⟩ := hQ11
    have N11 := Fr.app N0 N11q
    refine Go.tr  st11 ?_
    show Go p e below s Q 0 0 (T11.setTop (mkF m 101 #[.val (.int k0), .val (.int v7), .val (.ref aSTART), .val (.int (0 : Int32))] [(.int (0 : Int32))]))
    refine Go.st (fun _ k => XS.iloadN X11.here hx rfl (hb hby at_101) rfl k) ?_
    show Go p e below s Q 0 0 (T11.setTop (mkF m 102 #[.val (.int k0), .val (.int v7), .val (.ref aSTART), .val (.int (0 : Int32))] [(.int (0 : Int32)), (.int (0 : Int32))]))
    refine Go.st (fun _ k => XS.icmpNo X11.here hx rfl (hb hby at_102) rfl (teq (eqI liI_0 liI_0 (by decide))).2 k) ?_
    show Go p e below s Q 0 0 (T11.setTop (mkF m 105 #[.val (.int k0), .val (.int v7), .val (.ref aSTART), .val (.int (0 : Int32))] []))
    refine Go.st (fun _ k => XS.iconst X11.here hx rfl (hb hby at_105) k) ?_
    show Go p e below s Q 0 0 (T11.setTop (mkF m 106 #[.val (.int k0), .val (.int v7), .val (.ref aSTART), .val (.int (0 : Int32))] [(.int (1 : Int32))]))
    refine Go.st (fun _ k => XS.goto X11.here hx rfl (pc0 := 106) (pc' := 110) rfl (hb hby at_106) (by decide) (by decide) k) ?_
    show Go p e below s Q 0 0 (T11.setTop (mkF m 110 #[.val (.int k0), .val (.int v7), .val (.ref aSTART), .val (.int (0 : Int32))] [(.int (1 : Int32))]))
    have f12 := liI_1
    exact Go.retN X11 hx hlk (by simp) Bd.returns (hb hby at_110) (z' := (1 : Int32)) (by decide) (by rw [← hQ, e11]; exact ⟨rfl, N11, rfl⟩) (by decide) (by decide)
  ·
    refine Go.st (fun _ k => XS.ifYes X0.here hx rfl (pc0 := 9) (pc' := 21) rfl (hb hby at_9) rfl ((if0 _ _).trans (feq (neI rfl liI_0 c9)).2) (by decide) (by decide) k) ?_
    show Go p e below s Q 0 0 (s₁.setTop (mkF m 21 #[.val (.int k0), .val (.int v7), .unset, .unset] []))
    refine Go.st (fun _ k => XS.iloadN X0.here hx rfl (hb hby at_21) rfl k) ?_
    show Go p e below s Q 0 0 (s₁.setTop (mkF m 22 #[.val (.int k0), .val (.int v7), .unset, .unset] [(.int v7)]))
    refine Go.st (fun _ k => XS.iconst X0.here hx rfl (hb hby at_22) k) ?_
    show Go p e below s Q 0 0 (s₁.setTop (mkF m 23 #[.val (.int k0), .val (.int v7), .unset, .unset] [(.int (1 : Int32)), (.int v7)]))
    have f13 := liI_1
    by_cases c14 : v7.toInt = 1
    ·
      refine Go.st (fun _ k => XS.icmpNo X0.here hx rfl (hb hby at_23) rfl (teq (eqI rfl liI_1 c14)).2 k) ?_
      show Go p e below s Q 0 0 (s₁.setTop (mkF m 26 #[.val (.int k0), .val (.int v7), .unset, .unset] []))
      obtain ⟨T15, X15, e15, st15⟩ := getS2 X0 hx hZ hown (host := "") (Or.inl (hw _ (List.mem_of_getElem? (i := 22) rfl))) Via.refl e0 S_aCHECKPOINT (g := (mkF m 26 #[.val (.int k0), .val (.int v7), .unset, .unset] [])) rfl (hb hby at_26)
      refine Go.st st15 ?_
      show Go p e below s Q 0 0 (T15.setTop (mkF m 29 #[.val (.int k0), .val (.int v7), .unset, .unset] [(.ref aCHECKPOINT)]))
      refine Go.st (fun _ k => XS.astoreN X15.here hx rfl (hb hby at_29) rfl rfl (l' := #[.val (.int k0), .val (.int v7), .val (.ref aCHECKPOINT), .unset]) rfl k) ?_
      show Go p e below s Q 0 0 (T15.setTop (mkF m 30 #[.val (.int k0), .val (.int v7), .val (.ref aCHECKPOINT), .unset] []))
      refine Go.st (fun _ k => XS.iconst X15.here hx rfl (hb hby at_30) k) ?_
      show Go p e below s Q 0 0 (T15.setTop (mkF m 31 #[.val (.int k0), .val (.int v7), .val (.ref aCHECKPOINT), .unset] [(.int (0 : Int32))]))
      refine Go.st (fun _ k => XS.istoreN X15.here hx rfl (hb hby at_31) rfl (l' := #[.val (.int k0), .val (.int v7), .val (.ref aCHECKPOINT), .val (.int (0 : Int32))]) rfl k) ?_
      show Go p e below s Q 0 0 (T15.setTop (mkF m 32 #[.val (.int k0), .val (.int v7), .val (.ref aCHECKPOINT), .val (.int (0 : Int32))] []))
      refine Go.st (fun _ k => XS.goto X15.here hx rfl (pc0 := 32) (pc' := 97) rfl (hb hby at_32) (by decide) (by decide) k) ?_
      show Go p e below s Q 0 0 (T15.setTop (mkF m 97 #[.val (.int k0), .val (.int v7), .val (.ref aCHECKPOINT), .val (.int (0 : Int32))] []))
      refine Go.st (fun _ k => XS.aloadN X15.here hx rfl (hb hby at_97) rfl rfl k) ?_
      show Go p e below s Q 0 0 (T15.setTop (mkF m 98 #[.val (.int k0), .val (.int v7), .val (.ref aCHECKPOINT), .val (.int (0 : Int32))] [(.ref aCHECKPOINT)]))
      obtain ⟨cq16, kq16, q16a, q16b, q16c⟩ := isOf hZ e15 E_aCHECKPOINT
      obtain ⟨_, _, ⟨T16, L16, k16, n16⟩, -, X16, ⟨Lc16, hQ16, l16, y16, z16⟩, st16⟩ := X15.virtualBack hx (y := (⟨"com/example/concordat/concordat/model/LogRecord$Type", "belongsToTransaction", "()Z"⟩ : MethodName)) (z := (⟨"com/example/concordat/concordat/model/LogRecord$Type", "belongsToTransaction", "()Z"⟩ : MethodName)) hown (mvT hZ (hw _ (List.mem_of_getElem? (i := 4) rfl))) (mvT hZ (hw _ (List.mem_of_getElem? (i := 5) rfl))) (notFace_of_selects (args := #[]) (mvT hZ (hw _ (List.mem_of_getElem? (i := 7) rfl)))) (mvT hZ (hw _ (List.mem_of_getElem? (i := 7) rfl))) (mvT hZ (hw _ (List.mem_of_getElem? (i := 6) rfl))) (by decide) (backOf (W := 0) (rm1b l Z a0 hw [] aCHECKPOINT aSTART h0 n0 (Nat.le_trans Z0 K0.1) S_aSTART S_aCHECKPOINT (Ne.symm ne_aSTART_aCHECKPOINT)) hZ (hw _ (List.mem_of_getElem? (i := 8) rfl)) (hw _ (List.mem_of_getElem? (i := 2) rfl)) (by decide) (by decide)) q16a q16c (g := (mkF m 98 #[.val (.int k0), .val (.int v7), .val (.ref aCHECKPOINT), .val (.int (0 : Int32))] [(.ref aCHECKPOINT)])) rfl (by rw [hml]; rfl) (Steps.refl _) (argsL := []) (rest := []) (lenOf pd_0 rfl) rfl (by show 2 * 0 + _ ≤ _; exact Nat.le_of_eq rfl) (hb hby at_98) (fun _ _ => ⟨rfl, e15, (by decide : 0 + 0 ≤ _), (by decide : 0 + 0 ≤ _)⟩)
      dsimp only [Pt.U, Pt.locs, Pt.cells, Pt.slots] at X16 l16 y16 z16 st16 hQ16
      subst l16 y16 z16
      obtain ⟨rfl, N16q, e16⟩ := hQ16
      have N16 := Fr.app N0 N16q
      refine Go.tr  st16 ?_
      show Go p e below s Q 0 0 (T16.setTop (mkF m 101 #[.val (.int k0), .val (.int v7), .val (.ref aCHECKPOINT), .val (.int (0 : Int32))] [(.int (0 : Int32))]))
      refine Go.st (fun _ k => XS.iloadN X16.here hx rfl (hb hby at_101) rfl k) ?_
      show Go p e below s Q 0 0 (T16.setTop (mkF m 102 #[.val (.int k0), .val (.int v7), .val (.ref aCHECKPOINT), .val (.int (0 : Int32))] [(.int (0 : Int32)), (.int (0 : Int32))]))
      refine Go.st (fun _ k => XS.icmpNo X16.here hx rfl (hb hby at_102) rfl (teq (eqI liI_0 liI_0 (by decide))).2 k) ?_
      show Go p e below s Q 0 0 (T16.setTop (mkF m 105 #[.val (.int k0), .val (.int v7), .val (.ref aCHECKPOINT), .val (.int (0 : Int32))] []))
      refine Go.st (fun _ k => XS.iconst X16.here hx rfl (hb hby at_105) k) ?_
      show Go p e below s Q 0 0 (T16.setTop (mkF m 106 #[.val (.int k0), .val (.int v7), .val (.ref aCHECKPOINT), .val (.int (0 : Int32))] [(.int (1 : Int32))]))
      refine Go.st (fun _ k => XS.goto X16.here hx rfl (pc0 := 106) (pc' := 110) rfl (hb hby at_106) (by decide) (by decide) k) ?_
      show Go p e below s Q 0 0 (T16.setTop (mkF m 110 #[.val (.int k0), .val (.int v7), .val (.ref aCHECKPOINT), .val (.int (0 : Int32))] [(.int (1 : Int32))]))
      exact Go.retN X16 hx hlk (by simp) Bd.returns (hb hby at_110) (z' := (1 : Int32)) (by decide) (by rw [← hQ, e16]; exact ⟨rfl, N16, rfl⟩) (by decide) (by decide)
    ·
      refine Go.st (fun _ k => XS.icmpYes X0.here hx rfl (pc0 := 23) (pc' := 35) rfl (hb hby at_23) rfl (feq (neI rfl liI_1 c14)).2 (by decide) (by decide) k) ?_
      show Go p e below s Q 0 0 (s₁.setTop (mkF m 35 #[.val (.int k0), .val (.int v7), .unset, .unset] []))
      refine Go.st (fun _ k => XS.iloadN X0.here hx rfl (hb hby at_35) rfl k) ?_
      show Go p e below s Q 0 0 (s₁.setTop (mkF m 36 #[.val (.int k0), .val (.int v7), .unset, .unset] [(.int v7)]))
      refine Go.st (fun _ k => XS.iconst X0.here hx rfl (hb hby at_36) k) ?_
      show Go p e below s Q 0 0 (s₁.setTop (mkF m 37 #[.val (.int k0), .val (.int v7), .unset, .unset] [(.int (2 : Int32)), (.int v7)]))
      have f17 := liI_2
      by_cases c18 : v7.toInt = 2
      ·
        refine Go.st (fun _ k => XS.icmpNo X0.here hx rfl (hb hby at_37) rfl (teq (eqI rfl liI_2 c18)).2 k) ?_
        show Go p e below s Q 0 0 (s₁.setTop (mkF m 40 #[.val (.int k0), .val (.int v7), .unset, .unset] []))
        obtain ⟨T19, X19, e19, st19⟩ := getS2 X0 hx hZ hown (host := "") (Or.inl (hw _ (List.mem_of_getElem? (i := 20) rfl))) Via.refl e0 S_aINITIATION (g := (mkF m 40 #[.val (.int k0), .val (.int v7), .unset, .unset] [])) rfl (hb hby at_40)
        refine Go.st st19 ?_
        show Go p e below s Q 0 0 (T19.setTop (mkF m 43 #[.val (.int k0), .val (.int v7), .unset, .unset] [(.ref aINITIATION)]))
        refine Go.st (fun _ k => XS.astoreN X19.here hx rfl (hb hby at_43) rfl rfl (l' := #[.val (.int k0), .val (.int v7), .val (.ref aINITIATION), .unset]) rfl k) ?_
        show Go p e below s Q 0 0 (T19.setTop (mkF m 44 #[.val (.int k0), .val (.int v7), .val (.ref aINITIATION), .unset] []))
        refine Go.st (fun _ k => XS.iconst X19.here hx rfl (hb hby at_44) k) ?_
        show Go p e below s Q 0 0 (T19.setTop (mkF m 45 #[.val (.int k0), .val (.int v7), .val (.ref aINITIATION), .unset] [(.int (1 : Int32))]))
        refine Go.st (fun _ k => XS.istoreN X19.here hx rfl (hb hby at_45) rfl (l' := #[.val (.int k0), .val (.int v7), .val (.ref aINITIATION), .val (.int (1 : Int32))]) rfl k) ?_
        show Go p e below s Q 0 0 (T19.setTop (mkF m 46 #[.val (.int k0), .val (.int v7), .val (.ref aINITIATION), .val (.int (1 : Int32))] []))
        refine Go.st (fun _ k => XS.goto X19.here hx rfl (pc0 := 46) (pc' := 97) rfl (hb hby at_46) (by decide) (by decide) k) ?_
        show Go p e below s Q 0 0 (T19.setTop (mkF m 97 #[.val (.int k0), .val (.int v7), .val (.ref aINITIATION), .val (.int (1 : Int32))] []))
        refine Go.st (fun _ k => XS.aloadN X19.here hx rfl (hb hby at_97) rfl rfl k) ?_
        show Go p e below s Q 0 0 (T19.setTop (mkF m 98 #[.val (.int k0), .val (.int v7), .val (.ref aINITIATION), .val (.int (1 : Int32))] [(.ref aINITIATION)]))
        obtain ⟨cq20, kq20, q20a, q20b, q20c⟩ := isOf hZ e19 E_aINITIATION
        obtain ⟨_, _, ⟨T20, L20, k20, n20⟩, -, X20, ⟨Lc20, hQ20, l20, y20, z20⟩, st20⟩ := X19.virtualBack hx (y := (⟨"com/example/concordat/concordat/model/LogRecord$Type", "belongsToTransaction", "()Z"⟩ : MethodName)) (z := (⟨"com/example/concordat/concordat/model/LogRecord$Type", "belongsToTransaction", "()Z"⟩ : MethodName)) hown (mvT hZ (hw _ (List.mem_of_getElem? (i := 4) rfl))) (mvT hZ (hw _ (List.mem_of_getElem? (i := 5) rfl))) (notFace_of_selects (args := #[]) (mvT hZ (hw _ (List.mem_of_getElem? (i := 7) rfl)))) (mvT hZ (hw _ (List.mem_of_getElem? (i := 7) rfl))) (mvT hZ (hw _ (List.mem_of_getElem? (i := 6) rfl))) (by decide) (backOf (W := 0) (rm1c l Z a0 hw [] aINITIATION aSTART aCHECKPOINT h0 n0 (Nat.le_trans Z0 K0.1) S_aSTART S_aCHECKPOINT (Ne.symm ne_aSTART_aINITIATION) (Ne.symm ne_aCHECKPOINT_aINITIATION)) hZ (hw _ (List.mem_of_getElem? (i := 8) rfl)) (hw _ (List.mem_of_getElem? (i := 2) rfl)) (by decide) (by decide)) q20a q20c (g := (mkF m 98 #[.val (.int k0), .val (.int v7), .val (.ref aINITIATION), .val (.int (1 : Int32))] [(.ref aINITIATION)])) rfl (by rw [hml]; rfl) (Steps.refl _) (argsL := []) (rest := []) (lenOf pd_0 rfl) rfl (by show 2 * 0 + _ ≤ _; exact Nat.le_of_eq rfl) (hb hby at_98) (fun _ _ => ⟨rfl, e19, (by decide : 0 + 0 ≤ _), (by decide : 0 + 0 ≤ _)⟩)
        dsimp only [Pt.U, Pt.locs, Pt.cells, Pt.slots] at X20 l20 y20 z20 st20 hQ20
        subst l20 y20 z20
        obtain ⟨rfl, N20q, e20⟩ := hQ20
        have N20 := Fr.app N0 N20q
        refine Go.tr  st20 ?_
        show Go p e below s Q 0 0 (T20.setTop (mkF m 101 #[.val (.int k0), .val (.int v7), .val (.ref aINITIATION), .val (.int (1 : Int32))] [(.int (1 : Int32))]))
        refine Go.st (fun _ k => XS.iloadN X20.here hx rfl (hb hby at_101) rfl k) ?_
        show Go p e below s Q 0 0 (T20.setTop (mkF m 102 #[.val (.int k0), .val (.int v7), .val (.ref aINITIATION), .val (.int (1 : Int32))] [(.int (1 : Int32)), (.int (1 : Int32))]))
        refine Go.st (fun _ k => XS.icmpNo X20.here hx rfl (hb hby at_102) rfl (teq (eqI liI_1 liI_1 (by decide))).2 k) ?_
        show Go p e below s Q 0 0 (T20.setTop (mkF m 105 #[.val (.int k0), .val (.int v7), .val (.ref aINITIATION), .val (.int (1 : Int32))] []))
        refine Go.st (fun _ k => XS.iconst X20.here hx rfl (hb hby at_105) k) ?_
        show Go p e below s Q 0 0 (T20.setTop (mkF m 106 #[.val (.int k0), .val (.int v7), .val (.ref aINITIATION), .val (.int (1 : Int32))] [(.int (1 : Int32))]))
        refine Go.st (fun _ k => XS.goto X20.here hx rfl (pc0 := 106) (pc' := 110) rfl (hb hby at_106) (by decide) (by decide) k) ?_
        show Go p e below s Q 0 0 (T20.setTop (mkF m 110 #[.val (.int k0), .val (.int v7), .val (.ref aINITIATION), .val (.int (1 : Int32))] [(.int (1 : Int32))]))
        exact Go.retN X20 hx hlk (by simp) Bd.returns (hb hby at_110) (z' := (1 : Int32)) (by decide) (by rw [← hQ, e20]; exact ⟨rfl, N20, rfl⟩) (by decide) (by decide)
      ·
        refine Go.st (fun _ k => XS.icmpYes X0.here hx rfl (pc0 := 37) (pc' := 49) rfl (hb hby at_37) rfl (feq (neI rfl liI_2 c18)).2 (by decide) (by decide) k) ?_
        show Go p e below s Q 0 0 (s₁.setTop (mkF m 49 #[.val (.int k0), .val (.int v7), .unset, .unset] []))
        refine Go.st (fun _ k => XS.iloadN X0.here hx rfl (hb hby at_49) rfl k) ?_
        show Go p e below s Q 0 0 (s₁.setTop (mkF m 50 #[.val (.int k0), .val (.int v7), .unset, .unset] [(.int v7)]))
        refine Go.st (fun _ k => XS.iconst X0.here hx rfl (hb hby at_50) k) ?_
        show Go p e below s Q 0 0 (s₁.setTop (mkF m 51 #[.val (.int k0), .val (.int v7), .unset, .unset] [(.int (3 : Int32)), (.int v7)]))
        have f21 := liI_3
        by_cases c22 : v7.toInt = 3
        ·
          refine Go.st (fun _ k => XS.icmpNo X0.here hx rfl (hb hby at_51) rfl (teq (eqI rfl liI_3 c22)).2 k) ?_
          show Go p e below s Q 0 0 (s₁.setTop (mkF m 54 #[.val (.int k0), .val (.int v7), .unset, .unset] []))
          obtain ⟨T23, X23, e23, st23⟩ := getS2 X0 hx hZ hown (host := "") (Or.inl (hw _ (List.mem_of_getElem? (i := 10) rfl))) Via.refl e0 S_aPREPARED (g := (mkF m 54 #[.val (.int k0), .val (.int v7), .unset, .unset] [])) rfl (hb hby at_54)
          refine Go.st st23 ?_
          show Go p e below s Q 0 0 (T23.setTop (mkF m 57 #[.val (.int k0), .val (.int v7), .unset, .unset] [(.ref aPREPARED)]))
          refine Go.st (fun _ k => XS.astoreN X23.here hx rfl (hb hby at_57) rfl rfl (l' := #[.val (.int k0), .val (.int v7), .val (.ref aPREPARED), .unset]) rfl k) ?_
          show Go p e below s Q 0 0 (T23.setTop (mkF m 58 #[.val (.int k0), .val (.int v7), .val (.ref aPREPARED), .unset] []))
          refine Go.st (fun _ k => XS.iconst X23.here hx rfl (hb hby at_58) k) ?_
          show Go p e below s Q 0 0 (T23.setTop (mkF m 59 #[.val (.int k0), .val (.int v7), .val (.ref aPREPARED), .unset] [(.int (1 : Int32))]))
          refine Go.st (fun _ k => XS.istoreN X23.here hx rfl (hb hby at_59) rfl (l' := #[.val (.int k0), .val (.int v7), .val (.ref aPREPARED), .val (.int (1 : Int32))]) rfl k) ?_
          show Go p e below s Q 0 0 (T23.setTop (mkF m 60 #[.val (.int k0), .val (.int v7), .val (.ref aPREPARED), .val (.int (1 : Int32))] []))
          refine Go.st (fun _ k => XS.goto X23.here hx rfl (pc0 := 60) (pc' := 97) rfl (hb hby at_60) (by decide) (by decide) k) ?_
          show Go p e below s Q 0 0 (T23.setTop (mkF m 97 #[.val (.int k0), .val (.int v7), .val (.ref aPREPARED), .val (.int (1 : Int32))] []))
          refine Go.st (fun _ k => XS.aloadN X23.here hx rfl (hb hby at_97) rfl rfl k) ?_
          show Go p e below s Q 0 0 (T23.setTop (mkF m 98 #[.val (.int k0), .val (.int v7), .val (.ref aPREPARED), .val (.int (1 : Int32))] [(.ref aPREPARED)]))
          obtain ⟨cq24, kq24, q24a, q24b, q24c⟩ := isOf hZ e23 E_aPREPARED
          obtain ⟨_, _, ⟨T24, L24, k24, n24⟩, -, X24, ⟨Lc24, hQ24, l24, y24, z24⟩, st24⟩ := X23.virtualBack hx (y := (⟨"com/example/concordat/concordat/model/LogRecord$Type", "belongsToTransaction", "()Z"⟩ : MethodName)) (z := (⟨"com/example/concordat/concordat/model/LogRecord$Type", "belongsToTransaction", "()Z"⟩ : MethodName)) hown (mvT hZ (hw _ (List.mem_of_getElem? (i := 4) rfl))) (mvT hZ (hw _ (List.mem_of_getElem? (i := 5) rfl))) (notFace_of_selects (args := #[]) (mvT hZ (hw _ (List.mem_of_getElem? (i := 7) rfl)))) (mvT hZ (hw _ (List.mem_of_getElem? (i := 7) rfl))) (mvT hZ (hw _ (List.mem_of_getElem? (i := 6) rfl))) (by decide) (backOf (W := 0) (rm1c l Z a0 hw [] aPREPARED aSTART aCHECKPOINT h0 n0 (Nat.le_trans Z0 K0.1) S_aSTART S_aCHECKPOINT ne_aPREPARED_aSTART ne_aPREPARED_aCHECKPOINT) hZ (hw _ (List.mem_of_getElem? (i := 8) rfl)) (hw _ (List.mem_of_getElem? (i := 2) rfl)) (by decide) (by decide)) q24a q24c (g := (mkF m 98 #[.val (.int k0), .val (.int v7), .val (.ref aPREPARED), .val (.int (1 : Int32))] [(.ref aPREPARED)])) rfl (by rw [hml]; rfl) (Steps.refl _) (argsL := []) (rest := []) (lenOf pd_0 rfl) rfl (by show 2 * 0 + _ ≤ _; exact Nat.le_of_eq rfl) (hb hby at_98) (fun _ _ => ⟨rfl, e23, (by decide : 0 + 0 ≤ _), (by decide : 0 + 0 ≤ _)⟩)
          dsimp only [Pt.U, Pt.locs, Pt.cells, Pt.slots] at X24 l24 y24 z24 st24 hQ24
          subst l24 y24 z24
          obtain ⟨rfl, N24q, e24⟩ := hQ24
          have N24 := Fr.app N0 N24q
          refine Go.tr  st24 ?_
          show Go p e below s Q 0 0 (T24.setTop (mkF m 101 #[.val (.int k0), .val (.int v7), .val (.ref aPREPARED), .val (.int (1 : Int32))] [(.int (1 : Int32))]))
          refine Go.st (fun _ k => XS.iloadN X24.here hx rfl (hb hby at_101) rfl k) ?_
          show Go p e below s Q 0 0 (T24.setTop (mkF m 102 #[.val (.int k0), .val (.int v7), .val (.ref aPREPARED), .val (.int (1 : Int32))] [(.int (1 : Int32)), (.int (1 : Int32))]))
          refine Go.st (fun _ k => XS.icmpNo X24.here hx rfl (hb hby at_102) rfl (teq (eqI liI_1 liI_1 (by decide))).2 k) ?_
          show Go p e below s Q 0 0 (T24.setTop (mkF m 105 #[.val (.int k0), .val (.int v7), .val (.ref aPREPARED), .val (.int (1 : Int32))] []))
          refine Go.st (fun _ k => XS.iconst X24.here hx rfl (hb hby at_105) k) ?_
          show Go p e below s Q 0 0 (T24.setTop (mkF m 106 #[.val (.int k0), .val (.int v7), .val (.ref aPREPARED), .val (.int (1 : Int32))] [(.int (1 : Int32))]))
          refine Go.st (fun _ k => XS.goto X24.here hx rfl (pc0 := 106) (pc' := 110) rfl (hb hby at_106) (by decide) (by decide) k) ?_
          show Go p e below s Q 0 0 (T24.setTop (mkF m 110 #[.val (.int k0), .val (.int v7), .val (.ref aPREPARED), .val (.int (1 : Int32))] [(.int (1 : Int32))]))
          exact Go.retN X24 hx hlk (by simp) Bd.returns (hb hby at_110) (z' := (1 : Int32)) (by decide) (by rw [← hQ, e24]; exact ⟨rfl, N24, rfl⟩) (by decide) (by decide)
        ·
          refine Go.st (fun _ k => XS.icmpYes X0.here hx rfl (pc0 := 51) (pc' := 63) rfl (hb hby at_51) rfl (feq (neI rfl liI_3 c22)).2 (by decide) (by decide) k) ?_
          show Go p e below s Q 0 0 (s₁.setTop (mkF m 63 #[.val (.int k0), .val (.int v7), .unset, .unset] []))
          refine Go.st (fun _ k => XS.iloadN X0.here hx rfl (hb hby at_63) rfl k) ?_
          show Go p e below s Q 0 0 (s₁.setTop (mkF m 64 #[.val (.int k0), .val (.int v7), .unset, .unset] [(.int v7)]))
          refine Go.st (fun _ k => XS.iconst X0.here hx rfl (hb hby at_64) k) ?_
          show Go p e below s Q 0 0 (s₁.setTop (mkF m 65 #[.val (.int k0), .val (.int v7), .unset, .unset] [(.int (4 : Int32)), (.int v7)]))
          have f25 := liI_4
          by_cases c26 : v7.toInt = 4
          ·
            refine Go.st (fun _ k => XS.icmpNo X0.here hx rfl (hb hby at_65) rfl (teq (eqI rfl liI_4 c26)).2 k) ?_
            show Go p e below s Q 0 0 (s₁.setTop (mkF m 68 #[.val (.int k0), .val (.int v7), .unset, .unset] []))
            obtain ⟨T27, X27, e27, st27⟩ := getS2 X0 hx hZ hown (host := "") (Or.inl (hw _ (List.mem_of_getElem? (i := 18) rfl))) Via.refl e0 S_aCOMMIT (g := (mkF m 68 #[.val (.int k0), .val (.int v7), .unset, .unset] [])) rfl (hb hby at_68)
            refine Go.st st27 ?_
            show Go p e below s Q 0 0 (T27.setTop (mkF m 71 #[.val (.int k0), .val (.int v7), .unset, .unset] [(.ref aCOMMIT)]))
            refine Go.st (fun _ k => XS.astoreN X27.here hx rfl (hb hby at_71) rfl rfl (l' := #[.val (.int k0), .val (.int v7), .val (.ref aCOMMIT), .unset]) rfl k) ?_
            show Go p e below s Q 0 0 (T27.setTop (mkF m 72 #[.val (.int k0), .val (.int v7), .val (.ref aCOMMIT), .unset] []))
            refine Go.st (fun _ k => XS.iconst X27.here hx rfl (hb hby at_72) k) ?_
            show Go p e below s Q 0 0 (T27.setTop (mkF m 73 #[.val (.int k0), .val (.int v7), .val (.ref aCOMMIT), .unset] [(.int (1 : Int32))]))
            refine Go.st (fun _ k => XS.istoreN X27.here hx rfl (hb hby at_73) rfl (l' := #[.val (.int k0), .val (.int v7), .val (.ref aCOMMIT), .val (.int (1 : Int32))]) rfl k) ?_
            show Go p e below s Q 0 0 (T27.setTop (mkF m 74 #[.val (.int k0), .val (.int v7), .val (.ref aCOMMIT), .val (.int (1 : Int32))] []))
            refine Go.st (fun _ k => XS.goto X27.here hx rfl (pc0 := 74) (pc' := 97) rfl (hb hby at_74) (by decide) (by decide) k) ?_
            show Go p e below s Q 0 0 (T27.setTop (mkF m 97 #[.val (.int k0), .val (.int v7), .val (.ref aCOMMIT), .val (.int (1 : Int32))] []))
            refine Go.st (fun _ k => XS.aloadN X27.here hx rfl (hb hby at_97) rfl rfl k) ?_
            show Go p e below s Q 0 0 (T27.setTop (mkF m 98 #[.val (.int k0), .val (.int v7), .val (.ref aCOMMIT), .val (.int (1 : Int32))] [(.ref aCOMMIT)]))
            obtain ⟨cq28, kq28, q28a, q28b, q28c⟩ := isOf hZ e27 E_aCOMMIT
            obtain ⟨_, _, ⟨T28, L28, k28, n28⟩, -, X28, ⟨Lc28, hQ28, l28, y28, z28⟩, st28⟩ := X27.virtualBack hx (y := (⟨"com/example/concordat/concordat/model/LogRecord$Type", "belongsToTransaction", "()Z"⟩ : MethodName)) (z := (⟨"com/example/concordat/concordat/model/LogRecord$Type", "belongsToTransaction", "()Z"⟩ : MethodName)) hown (mvT hZ (hw _ (List.mem_of_getElem? (i := 4) rfl))) (mvT hZ (hw _ (List.mem_of_getElem? (i := 5) rfl))) (notFace_of_selects (args := #[]) (mvT hZ (hw _ (List.mem_of_getElem? (i := 7) rfl)))) (mvT hZ (hw _ (List.mem_of_getElem? (i := 7) rfl))) (mvT hZ (hw _ (List.mem_of_getElem? (i := 6) rfl))) (by decide) (backOf (W := 0) (rm1c l Z a0 hw [] aCOMMIT aSTART aCHECKPOINT h0 n0 (Nat.le_trans Z0 K0.1) S_aSTART S_aCHECKPOINT (Ne.symm ne_aSTART_aCOMMIT) (Ne.symm ne_aCHECKPOINT_aCOMMIT)) hZ (hw _ (List.mem_of_getElem? (i := 8) rfl)) (hw _ (List.mem_of_getElem? (i := 2) rfl)) (by decide) (by decide)) q28a q28c (g := (mkF m 98 #[.val (.int k0), .val (.int v7), .val (.ref aCOMMIT), .val (.int (1 : Int32))] [(.ref aCOMMIT)])) rfl (by rw [hml]; rfl) (Steps.refl _) (argsL := []) (rest := []) (lenOf pd_0 rfl) rfl (by show 2 * 0 + _ ≤ _; exact Nat.le_of_eq rfl) (hb hby at_98) (fun _ _ => ⟨rfl, e27, (by decide : 0 + 0 ≤ _), (by decide : 0 + 0 ≤ _)⟩)
            dsimp only [Pt.U, Pt.locs, Pt.cells, Pt.slots] at X28 l28 y28 z28 st28 hQ28
            subst l28 y28 z28
            obtain ⟨rfl, N28q, e28⟩ := hQ28
            have N28 := Fr.app N0 N28q
            refine Go.tr  st28 ?_
            show Go p e below s Q 0 0 (T28.setTop (mkF m 101 #[.val (.int k0), .val (.int v7), .val (.ref aCOMMIT), .val (.int (1 : Int32))] [(.int (1 : Int32))]))
            refine Go.st (fun _ k => XS.iloadN X28.here hx rfl (hb hby at_101) rfl k) ?_
            show Go p e below s Q 0 0 (T28.setTop (mkF m 102 #[.val (.int k0), .val (.int v7), .val (.ref aCOMMIT), .val (.int (1 : Int32))] [(.int (1 : Int32)), (.int (1 : Int32))]))
            refine Go.st (fun _ k => XS.icmpNo X28.here hx rfl (hb hby at_102) rfl (teq (eqI liI_1 liI_1 (by decide))).2 k) ?_
            show Go p e below s Q 0 0 (T28.setTop (mkF m 105 #[.val (.int k0), .val (.int v7), .val (.ref aCOMMIT), .val (.int (1 : Int32))] []))
            refine Go.st (fun _ k => XS.iconst X28.here hx rfl (hb hby at_105) k) ?_
            show Go p e below s Q 0 0 (T28.setTop (mkF m 106 #[.val (.int k0), .val (.int v7), .val (.ref aCOMMIT), .val (.int (1 : Int32))] [(.int (1 : Int32))]))
            refine Go.st (fun _ k => XS.goto X28.here hx rfl (pc0 := 106) (pc' := 110) rfl (hb hby at_106) (by decide) (by decide) k) ?_
            show Go p e below s Q 0 0 (T28.setTop (mkF m 110 #[.val (.int k0), .val (.int v7), .val (.ref aCOMMIT), .val (.int (1 : Int32))] [(.int (1 : Int32))]))
            exact Go.retN X28 hx hlk (by simp) Bd.returns (hb hby at_110) (z' := (1 : Int32)) (by decide) (by rw [← hQ, e28]; exact ⟨rfl, N28, rfl⟩) (by decide) (by decide)
          ·
            refine Go.st (fun _ k => XS.icmpYes X0.here hx rfl (pc0 := 65) (pc' := 77) rfl (hb hby at_65) rfl (feq (neI rfl liI_4 c26)).2 (by decide) (by decide) k) ?_
            show Go p e below s Q 0 0 (s₁.setTop (mkF m 77 #[.val (.int k0), .val (.int v7), .unset, .unset] []))
            refine Go.st (fun _ k => XS.iloadN X0.here hx rfl (hb hby at_77) rfl k) ?_
            show Go p e below s Q 0 0 (s₁.setTop (mkF m 78 #[.val (.int k0), .val (.int v7), .unset, .unset] [(.int v7)]))
            refine Go.st (fun _ k => XS.iconst X0.here hx rfl (hb hby at_78) k) ?_
            show Go p e below s Q 0 0 (s₁.setTop (mkF m 79 #[.val (.int k0), .val (.int v7), .unset, .unset] [(.int (5 : Int32)), (.int v7)]))
            have f29 := liI_5
            by_cases c30 : v7.toInt = 5
            ·
              refine Go.st (fun _ k => XS.icmpNo X0.here hx rfl (hb hby at_79) rfl (teq (eqI rfl liI_5 c30)).2 k) ?_
              show Go p e below s Q 0 0 (s₁.setTop (mkF m 82 #[.val (.int k0), .val (.int v7), .unset, .unset] []))
              obtain ⟨T31, X31, e31, st31⟩ := getS2 X0 hx hZ hown (host := "") (Or.inl (hw _ (List.mem_of_getElem? (i := 14) rfl))) Via.refl e0 S_aABORT (g := (mkF m 82 #[.val (.int k0), .val (.int v7), .unset, .unset] [])) rfl (hb hby at_82)
              refine Go.st st31 ?_
              show Go p e below s Q 0 0 (T31.setTop (mkF m 85 #[.val (.int k0), .val (.int v7), .unset, .unset] [(.ref aABORT)]))
              refine Go.st (fun _ k => XS.astoreN X31.here hx rfl (hb hby at_85) rfl rfl (l' := #[.val (.int k0), .val (.int v7), .val (.ref aABORT), .unset]) rfl k) ?_
              show Go p e below s Q 0 0 (T31.setTop (mkF m 86 #[.val (.int k0), .val (.int v7), .val (.ref aABORT), .unset] []))
              refine Go.st (fun _ k => XS.iconst X31.here hx rfl (hb hby at_86) k) ?_
              show Go p e below s Q 0 0 (T31.setTop (mkF m 87 #[.val (.int k0), .val (.int v7), .val (.ref aABORT), .unset] [(.int (1 : Int32))]))
              refine Go.st (fun _ k => XS.istoreN X31.here hx rfl (hb hby at_87) rfl (l' := #[.val (.int k0), .val (.int v7), .val (.ref aABORT), .val (.int (1 : Int32))]) rfl k) ?_
              show Go p e below s Q 0 0 (T31.setTop (mkF m 88 #[.val (.int k0), .val (.int v7), .val (.ref aABORT), .val (.int (1 : Int32))] []))
              refine Go.st (fun _ k => XS.goto X31.here hx rfl (pc0 := 88) (pc' := 97) rfl (hb hby at_88) (by decide) (by decide) k) ?_
              show Go p e below s Q 0 0 (T31.setTop (mkF m 97 #[.val (.int k0), .val (.int v7), .val (.ref aABORT), .val (.int (1 : Int32))] []))
              refine Go.st (fun _ k => XS.aloadN X31.here hx rfl (hb hby at_97) rfl rfl k) ?_
              show Go p e below s Q 0 0 (T31.setTop (mkF m 98 #[.val (.int k0), .val (.int v7), .val (.ref aABORT), .val (.int (1 : Int32))] [(.ref aABORT)]))
              obtain ⟨cq32, kq32, q32a, q32b, q32c⟩ := isOf hZ e31 E_aABORT
              obtain ⟨_, _, ⟨T32, L32, k32, n32⟩, -, X32, ⟨Lc32, hQ32, l32, y32, z32⟩, st32⟩ := X31.virtualBack hx (y := (⟨"com/example/concordat/concordat/model/LogRecord$Type", "belongsToTransaction", "()Z"⟩ : MethodName)) (z := (⟨"com/example/concordat/concordat/model/LogRecord$Type", "belongsToTransaction", "()Z"⟩ : MethodName)) hown (mvT hZ (hw _ (List.mem_of_getElem? (i := 4) rfl))) (mvT hZ (hw _ (List.mem_of_getElem? (i := 5) rfl))) (notFace_of_selects (args := #[]) (mvT hZ (hw _ (List.mem_of_getElem? (i := 7) rfl)))) (mvT hZ (hw _ (List.mem_of_getElem? (i := 7) rfl))) (mvT hZ (hw _ (List.mem_of_getElem? (i := 6) rfl))) (by decide) (backOf (W := 0) (rm1c l Z a0 hw [] aABORT aSTART aCHECKPOINT h0 n0 (Nat.le_trans Z0 K0.1) S_aSTART S_aCHECKPOINT (Ne.symm ne_aSTART_aABORT) (Ne.symm ne_aCHECKPOINT_aABORT)) hZ (hw _ (List.mem_of_getElem? (i := 8) rfl)) (hw _ (List.mem_of_getElem? (i := 2) rfl)) (by decide) (by decide)) q32a q32c (g := (mkF m 98 #[.val (.int k0), .val (.int v7), .val (.ref aABORT), .val (.int (1 : Int32))] [(.ref aABORT)])) rfl (by rw [hml]; rfl) (Steps.refl _) (argsL := []) (rest := []) (lenOf pd_0 rfl) rfl (by show 2 * 0 + _ ≤ _; exact Nat.le_of_eq rfl) (hb hby at_98) (fun _ _ => ⟨rfl, e31, (by decide : 0 + 0 ≤ _), (by decide : 0 + 0 ≤ _)⟩)
              dsimp only [Pt.U, Pt.locs, Pt.cells, Pt.slots] at X32 l32 y32 z32 st32 hQ32
              subst l32 y32 z32
              obtain ⟨rfl, N32q, e32⟩ := hQ32
              have N32 := Fr.app N0 N32q
              refine Go.tr  st32 ?_
              show Go p e below s Q 0 0 (T32.setTop (mkF m 101 #[.val (.int k0), .val (.int v7), .val (.ref aABORT), .val (.int (1 : Int32))] [(.int (1 : Int32))]))
              refine Go.st (fun _ k => XS.iloadN X32.here hx rfl (hb hby at_101) rfl k) ?_
              show Go p e below s Q 0 0 (T32.setTop (mkF m 102 #[.val (.int k0), .val (.int v7), .val (.ref aABORT), .val (.int (1 : Int32))] [(.int (1 : Int32)), (.int (1 : Int32))]))
              refine Go.st (fun _ k => XS.icmpNo X32.here hx rfl (hb hby at_102) rfl (teq (eqI liI_1 liI_1 (by decide))).2 k) ?_
              show Go p e below s Q 0 0 (T32.setTop (mkF m 105 #[.val (.int k0), .val (.int v7), .val (.ref aABORT), .val (.int (1 : Int32))] []))
              refine Go.st (fun _ k => XS.iconst X32.here hx rfl (hb hby at_105) k) ?_
              show Go p e below s Q 0 0 (T32.setTop (mkF m 106 #[.val (.int k0), .val (.int v7), .val (.ref aABORT), .val (.int (1 : Int32))] [(.int (1 : Int32))]))
              refine Go.st (fun _ k => XS.goto X32.here hx rfl (pc0 := 106) (pc' := 110) rfl (hb hby at_106) (by decide) (by decide) k) ?_
              show Go p e below s Q 0 0 (T32.setTop (mkF m 110 #[.val (.int k0), .val (.int v7), .val (.ref aABORT), .val (.int (1 : Int32))] [(.int (1 : Int32))]))
              exact Go.retN X32 hx hlk (by simp) Bd.returns (hb hby at_110) (z' := (1 : Int32)) (by decide) (by rw [← hQ, e32]; exact ⟨rfl, N32, rfl⟩) (by decide) (by decide)
            ·
              refine Go.st (fun _ k => XS.icmpYes X0.here hx rfl (pc0 := 79) (pc' := 91) rfl (hb hby at_79) rfl (feq (neI rfl liI_5 c30)).2 (by decide) (by decide) k) ?_
              show Go p e below s Q 0 0 (s₁.setTop (mkF m 91 #[.val (.int k0), .val (.int v7), .unset, .unset] []))
              obtain ⟨T33, X33, e33, st33⟩ := getS2 X0 hx hZ hown (host := "") (Or.inl (hw _ (List.mem_of_getElem? (i := 16) rfl))) Via.refl e0 S_aEND (g := (mkF m 91 #[.val (.int k0), .val (.int v7), .unset, .unset] [])) rfl (hb hby at_91)
              refine Go.st st33 ?_
              show Go p e below s Q 0 0 (T33.setTop (mkF m 94 #[.val (.int k0), .val (.int v7), .unset, .unset] [(.ref aEND)]))
              refine Go.st (fun _ k => XS.astoreN X33.here hx rfl (hb hby at_94) rfl rfl (l' := #[.val (.int k0), .val (.int v7), .val (.ref aEND), .unset]) rfl k) ?_
              show Go p e below s Q 0 0 (T33.setTop (mkF m 95 #[.val (.int k0), .val (.int v7), .val (.ref aEND), .unset] []))
              refine Go.st (fun _ k => XS.iconst X33.here hx rfl (hb hby at_95) k) ?_
              show Go p e below s Q 0 0 (T33.setTop (mkF m 96 #[.val (.int k0), .val (.int v7), .val (.ref aEND), .unset] [(.int (1 : Int32))]))
              refine Go.st (fun _ k => XS.istoreN X33.here hx rfl (hb hby at_96) rfl (l' := #[.val (.int k0), .val (.int v7), .val (.ref aEND), .val (.int (1 : Int32))]) rfl k) ?_
              show Go p e below s Q 0 0 (T33.setTop (mkF m 97 #[.val (.int k0), .val (.int v7), .val (.ref aEND), .val (.int (1 : Int32))] []))
              refine Go.st (fun _ k => XS.aloadN X33.here hx rfl (hb hby at_97) rfl rfl k) ?_
              show Go p e below s Q 0 0 (T33.setTop (mkF m 98 #[.val (.int k0), .val (.int v7), .val (.ref aEND), .val (.int (1 : Int32))] [(.ref aEND)]))
              obtain ⟨cq34, kq34, q34a, q34b, q34c⟩ := isOf hZ e33 E_aEND
              obtain ⟨_, _, ⟨T34, L34, k34, n34⟩, -, X34, ⟨Lc34, hQ34, l34, y34, z34⟩, st34⟩ := X33.virtualBack hx (y := (⟨"com/example/concordat/concordat/model/LogRecord$Type", "belongsToTransaction", "()Z"⟩ : MethodName)) (z := (⟨"com/example/concordat/concordat/model/LogRecord$Type", "belongsToTransaction", "()Z"⟩ : MethodName)) hown (mvT hZ (hw _ (List.mem_of_getElem? (i := 4) rfl))) (mvT hZ (hw _ (List.mem_of_getElem? (i := 5) rfl))) (notFace_of_selects (args := #[]) (mvT hZ (hw _ (List.mem_of_getElem? (i := 7) rfl)))) (mvT hZ (hw _ (List.mem_of_getElem? (i := 7) rfl))) (mvT hZ (hw _ (List.mem_of_getElem? (i := 6) rfl))) (by decide) (backOf (W := 0) (rm1c l Z a0 hw [] aEND aSTART aCHECKPOINT h0 n0 (Nat.le_trans Z0 K0.1) S_aSTART S_aCHECKPOINT (Ne.symm ne_aSTART_aEND) (Ne.symm ne_aCHECKPOINT_aEND)) hZ (hw _ (List.mem_of_getElem? (i := 8) rfl)) (hw _ (List.mem_of_getElem? (i := 2) rfl)) (by decide) (by decide)) q34a q34c (g := (mkF m 98 #[.val (.int k0), .val (.int v7), .val (.ref aEND), .val (.int (1 : Int32))] [(.ref aEND)])) rfl (by rw [hml]; rfl) (Steps.refl _) (argsL := []) (rest := []) (lenOf pd_0 rfl) rfl (by show 2 * 0 + _ ≤ _; exact Nat.le_of_eq rfl) (hb hby at_98) (fun _ _ => ⟨rfl, e33, (by decide : 0 + 0 ≤ _), (by decide : 0 + 0 ≤ _)⟩)
              dsimp only [Pt.U, Pt.locs, Pt.cells, Pt.slots] at X34 l34 y34 z34 st34 hQ34
              subst l34 y34 z34
              obtain ⟨rfl, N34q, e34⟩ := hQ34
              have N34 := Fr.app N0 N34q
              refine Go.tr  st34 ?_
              show Go p e below s Q 0 0 (T34.setTop (mkF m 101 #[.val (.int k0), .val (.int v7), .val (.ref aEND), .val (.int (1 : Int32))] [(.int (1 : Int32))]))
              refine Go.st (fun _ k => XS.iloadN X34.here hx rfl (hb hby at_101) rfl k) ?_
              show Go p e below s Q 0 0 (T34.setTop (mkF m 102 #[.val (.int k0), .val (.int v7), .val (.ref aEND), .val (.int (1 : Int32))] [(.int (1 : Int32)), (.int (1 : Int32))]))
              refine Go.st (fun _ k => XS.icmpNo X34.here hx rfl (hb hby at_102) rfl (teq (eqI liI_1 liI_1 (by decide))).2 k) ?_
              show Go p e below s Q 0 0 (T34.setTop (mkF m 105 #[.val (.int k0), .val (.int v7), .val (.ref aEND), .val (.int (1 : Int32))] []))
              refine Go.st (fun _ k => XS.iconst X34.here hx rfl (hb hby at_105) k) ?_
              show Go p e below s Q 0 0 (T34.setTop (mkF m 106 #[.val (.int k0), .val (.int v7), .val (.ref aEND), .val (.int (1 : Int32))] [(.int (1 : Int32))]))
              refine Go.st (fun _ k => XS.goto X34.here hx rfl (pc0 := 106) (pc' := 110) rfl (hb hby at_106) (by decide) (by decide) k) ?_
              show Go p e below s Q 0 0 (T34.setTop (mkF m 110 #[.val (.int k0), .val (.int v7), .val (.ref aEND), .val (.int (1 : Int32))] [(.int (1 : Int32))]))
              exact Go.retN X34 hx hlk (by simp) Bd.returns (hb hby at_110) (z' := (1 : Int32)) (by decide) (by rw [← hQ, e34]; exact ⟨rfl, N34, rfl⟩) (by decide) (by decide)
set_option maxRecDepth 65536 in
set_option maxHeartbeats 40000000 in
theorem comes_1 {Post : Tables → Env → Array Value → State → Outcome → State → Prop} (hpost : ∀ tb e args s v u, (limb_1_1.after args s (.returned v) u = true ∧ limb_1_2.after args s (.returned v) u = true ∧ True) → FrameEnd s (.returned v) u (Jvm.fieldLocs frame_1_writes args s ++ Jvm.arrayLocs frame_1_arrays args s ++ Jvm.staticLocs frame_1_statics s) 0 0 → Post tb e args s (.returned v) u) :
    ArmFor flags0 classFile x code maxLocals ret World_1 tables_1 room_1 Calls_1 rest_1 Pre_1 Post := by
  intro l hfl _ _ p e ha hc hk s m args below hf hA hF happ hP
  obtain ⟨hcalls, hrest, hpre⟩ := hP
  obtain ⟨-, -, -, hnamed, -, -, -, hat⟩ := (Spec.applies_iff hf).mp happ
  obtain ⟨hg, hn⟩ := and_e (Cond.before_iff.mp (show (Jvm.Cond.and given_1 narrow_1).before args s = true from hpre))
  obtain ⟨hcount, g0⟩ := and_e hg
  obtain ⟨w0, rfl⟩ : ∃ w0 : Value, args = #[w0] := by
    have hs : args.size = 1 := by simpa [Cond.value, given_1] using hcount
    obtain ⟨L⟩ := args
    match L, hs with
    | [w0], _ => exact ⟨w0, rfl⟩
  have hw := fun d (hd : d ∈ tables_1) => atoms_spec (ws := Jvm.Cond.code x code maxLocals ret :: tables_1) hat d (List.mem_cons_of_mem _ hd)
  have hfit : Fit s := fun {y c} hc i hi => by
    obtain ⟨ha, rfl⟩ := Array.getElem?_eq_some_iff.mp hc
    have q := List.all_eq_true.mp ((Array.all_eq_true_iff_forall_mem.mp hF) _ (Array.getElem_mem ha)) i (List.mem_range.mpr hi)
    simpa [Array.getElem?_eq_getElem hi] using q
  obtain ⟨i0, ei0⟩ := is_v g0
  obtain rfl : w0 = (.int i0) := Option.some.inj ei0
  obtain ⟨u1, u2⟩ := and_e hn
  obtain ⟨u3, u4⟩ := and_e u2
  obtain ⟨u5, u6⟩ := and_e u4
  obtain ⟨u7, u8⟩ := and_e u6
  obtain ⟨u9, u10⟩ := and_e u8
  obtain ⟨u11, u12⟩ := and_e u10
  obtain ⟨u13, u14⟩ := and_e u12
  obtain ⟨u15, u16⟩ := and_e u14
  obtain ⟨u17, u18⟩ := and_e u16
  obtain ⟨u19, u20⟩ := and_e u18
  obtain ⟨u21, u22⟩ := and_e u20
  obtain ⟨u23, u24⟩ := and_e u22
  obtain ⟨u25, u26⟩ := and_e u24
  obtain ⟨aSTART, ev_aSTART⟩ := exa_v u1
  have S_aSTART : Sta s s.heap "com/example/concordat/concordat/model/LogRecord$Type" "START" "Lcom/example/concordat/concordat/model/LogRecord$Type;" (.ref aSTART) := Sta.start ev_aSTART (Or.inr ⟨(hw _ (List.mem_of_getElem? (i := 2) rfl)), (hw _ (List.mem_of_getElem? (i := 3) rfl))⟩)
  have E_aSTART : Exa s s.heap aSTART "com/example/concordat/concordat/model/LogRecord$Type" := Exa.start ev_aSTART u1
  obtain ⟨aPREPARED, ev_aPREPARED⟩ := exa_v u3
  have S_aPREPARED : Sta s s.heap "com/example/concordat/concordat/model/LogRecord$Type" "PREPARED" "Lcom/example/concordat/concordat/model/LogRecord$Type;" (.ref aPREPARED) := Sta.start ev_aPREPARED (Or.inr ⟨(hw _ (List.mem_of_getElem? (i := 2) rfl)), (hw _ (List.mem_of_getElem? (i := 11) rfl))⟩)
  have E_aPREPARED : Exa s s.heap aPREPARED "com/example/concordat/concordat/model/LogRecord$Type" := Exa.start ev_aPREPARED u3
  have F_aPREPARED_ordinal : Fld s s.heap aPREPARED "java/lang/Enum" "ordinal" "I" (.int (3 : Int32)) := fld_int ev_aPREPARED u5
  have F_aSTART_ordinal : Fld s s.heap aSTART "java/lang/Enum" "ordinal" "I" (.int (0 : Int32)) := fld_int ev_aSTART u7
  obtain ⟨aCHECKPOINT, ev_aCHECKPOINT⟩ := exa_v u9
  have S_aCHECKPOINT : Sta s s.heap "com/example/concordat/concordat/model/LogRecord$Type" "CHECKPOINT" "Lcom/example/concordat/concordat/model/LogRecord$Type;" (.ref aCHECKPOINT) := Sta.start ev_aCHECKPOINT (Or.inr ⟨(hw _ (List.mem_of_getElem? (i := 2) rfl)), (hw _ (List.mem_of_getElem? (i := 13) rfl))⟩)
  have E_aCHECKPOINT : Exa s s.heap aCHECKPOINT "com/example/concordat/concordat/model/LogRecord$Type" := Exa.start ev_aCHECKPOINT u9
  have F_aCHECKPOINT_ordinal : Fld s s.heap aCHECKPOINT "java/lang/Enum" "ordinal" "I" (.int (1 : Int32)) := fld_int ev_aCHECKPOINT u11
  obtain ⟨aABORT, ev_aABORT⟩ := exa_v u13
  have S_aABORT : Sta s s.heap "com/example/concordat/concordat/model/LogRecord$Type" "ABORT" "Lcom/example/concordat/concordat/model/LogRecord$Type;" (.ref aABORT) := Sta.start ev_aABORT (Or.inr ⟨(hw _ (List.mem_of_getElem? (i := 2) rfl)), (hw _ (List.mem_of_getElem? (i := 15) rfl))⟩)
  have E_aABORT : Exa s s.heap aABORT "com/example/concordat/concordat/model/LogRecord$Type" := Exa.start ev_aABORT u13
  have F_aABORT_ordinal : Fld s s.heap aABORT "java/lang/Enum" "ordinal" "I" (.int (5 : Int32)) := fld_int ev_aABORT u15
  obtain ⟨aEND, ev_aEND⟩ := exa_v u17
  have S_aEND : Sta s s.heap "com/example/concordat/concordat/model/LogRecord$Type" "END" "Lcom/example/concordat/concordat/model/LogRecord$Type;" (.ref aEND) := Sta.start ev_aEND (Or.inr ⟨(hw _ (List.mem_of_getElem? (i := 2) rfl)), (hw _ (List.mem_of_getElem? (i := 17) rfl))⟩)
  have E_aEND : Exa s s.heap aEND "com/example/concordat/concordat/model/LogRecord$Type" := Exa.start ev_aEND u17
  have F_aEND_ordinal : Fld s s.heap aEND "java/lang/Enum" "ordinal" "I" (.int (6 : Int32)) := fld_int ev_aEND u19
  obtain ⟨aCOMMIT, ev_aCOMMIT⟩ := exa_v u21
  have S_aCOMMIT : Sta s s.heap "com/example/concordat/concordat/model/LogRecord$Type" "COMMIT" "Lcom/example/concordat/concordat/model/LogRecord$Type;" (.ref aCOMMIT) := Sta.start ev_aCOMMIT (Or.inr ⟨(hw _ (List.mem_of_getElem? (i := 2) rfl)), (hw _ (List.mem_of_getElem? (i := 19) rfl))⟩)
  have E_aCOMMIT : Exa s s.heap aCOMMIT "com/example/concordat/concordat/model/LogRecord$Type" := Exa.start ev_aCOMMIT u21
  have F_aCOMMIT_ordinal : Fld s s.heap aCOMMIT "java/lang/Enum" "ordinal" "I" (.int (4 : Int32)) := fld_int ev_aCOMMIT u23
  obtain ⟨aINITIATION, ev_aINITIATION⟩ := exa_v u25
  have S_aINITIATION : Sta s s.heap "com/example/concordat/concordat/model/LogRecord$Type" "INITIATION" "Lcom/example/concordat/concordat/model/LogRecord$Type;" (.ref aINITIATION) := Sta.start ev_aINITIATION (Or.inr ⟨(hw _ (List.mem_of_getElem? (i := 2) rfl)), (hw _ (List.mem_of_getElem? (i := 21) rfl))⟩)
  have E_aINITIATION : Exa s s.heap aINITIATION "com/example/concordat/concordat/model/LogRecord$Type" := Exa.start ev_aINITIATION u25
  have F_aINITIATION_ordinal : Fld s s.heap aINITIATION "java/lang/Enum" "ordinal" "I" (.int (2 : Int32)) := fld_int ev_aINITIATION u26
  have ne_aPREPARED_aSTART : aPREPARED ≠ aSTART := Fld.ne F_aPREPARED_ordinal F_aSTART_ordinal (by first | decide | simp)
  have ne_aPREPARED_aCHECKPOINT : aPREPARED ≠ aCHECKPOINT := Fld.ne F_aPREPARED_ordinal F_aCHECKPOINT_ordinal (by first | decide | simp)
  have ne_aPREPARED_aABORT : aPREPARED ≠ aABORT := Fld.ne F_aPREPARED_ordinal F_aABORT_ordinal (by first | decide | simp)
  have ne_aPREPARED_aEND : aPREPARED ≠ aEND := Fld.ne F_aPREPARED_ordinal F_aEND_ordinal (by first | decide | simp)
  have ne_aPREPARED_aCOMMIT : aPREPARED ≠ aCOMMIT := Fld.ne F_aPREPARED_ordinal F_aCOMMIT_ordinal (by first | decide | simp)
  have ne_aPREPARED_aINITIATION : aPREPARED ≠ aINITIATION := Fld.ne F_aPREPARED_ordinal F_aINITIATION_ordinal (by first | decide | simp)
  have ne_aSTART_aCHECKPOINT : aSTART ≠ aCHECKPOINT := Fld.ne F_aSTART_ordinal F_aCHECKPOINT_ordinal (by first | decide | simp)
  have ne_aSTART_aABORT : aSTART ≠ aABORT := Fld.ne F_aSTART_ordinal F_aABORT_ordinal (by first | decide | simp)
  have ne_aSTART_aEND : aSTART ≠ aEND := Fld.ne F_aSTART_ordinal F_aEND_ordinal (by first | decide | simp)
  have ne_aSTART_aCOMMIT : aSTART ≠ aCOMMIT := Fld.ne F_aSTART_ordinal F_aCOMMIT_ordinal (by first | decide | simp)
  have ne_aSTART_aINITIATION : aSTART ≠ aINITIATION := Fld.ne F_aSTART_ordinal F_aINITIATION_ordinal (by first | decide | simp)
  have ne_aCHECKPOINT_aABORT : aCHECKPOINT ≠ aABORT := Fld.ne F_aCHECKPOINT_ordinal F_aABORT_ordinal (by first | decide | simp)
  have ne_aCHECKPOINT_aEND : aCHECKPOINT ≠ aEND := Fld.ne F_aCHECKPOINT_ordinal F_aEND_ordinal (by first | decide | simp)
  have ne_aCHECKPOINT_aCOMMIT : aCHECKPOINT ≠ aCOMMIT := Fld.ne F_aCHECKPOINT_ordinal F_aCOMMIT_ordinal (by first | decide | simp)
  have ne_aCHECKPOINT_aINITIATION : aCHECKPOINT ≠ aINITIATION := Fld.ne F_aCHECKPOINT_ordinal F_aINITIATION_ordinal (by first | decide | simp)
  have ne_aABORT_aEND : aABORT ≠ aEND := Fld.ne F_aABORT_ordinal F_aEND_ordinal (by first | decide | simp)
  have ne_aABORT_aCOMMIT : aABORT ≠ aCOMMIT := Fld.ne F_aABORT_ordinal F_aCOMMIT_ordinal (by first | decide | simp)
  have ne_aABORT_aINITIATION : aABORT ≠ aINITIATION := Fld.ne F_aABORT_ordinal F_aINITIATION_ordinal (by first | decide | simp)
  have ne_aEND_aCOMMIT : aEND ≠ aCOMMIT := Fld.ne F_aEND_ordinal F_aCOMMIT_ordinal (by first | decide | simp)
  have ne_aEND_aINITIATION : aEND ≠ aINITIATION := Fld.ne F_aEND_ordinal F_aINITIATION_ordinal (by first | decide | simp)
  have ne_aCOMMIT_aINITIATION : aCOMMIT ≠ aINITIATION := Fld.ne F_aCOMMIT_ordinal F_aINITIATION_ordinal (by first | decide | simp)
  obtain ⟨n, o, h1, h2, h3, _, L, rfl, ⟨rfl, N, _⟩, hq⟩ := rm0 l s _ hw tables_1 i0 aSTART aPREPARED aCHECKPOINT aABORT aEND aCOMMIT aINITIATION s.heap s.heap.size (Nat.le_refl _) S_aSTART E_aSTART S_aPREPARED E_aPREPARED F_aPREPARED_ordinal F_aSTART_ordinal S_aCHECKPOINT E_aCHECKPOINT F_aCHECKPOINT_ordinal S_aABORT E_aABORT F_aABORT_ordinal S_aEND E_aEND F_aEND_ordinal S_aCOMMIT E_aCOMMIT F_aCOMMIT_ordinal S_aINITIATION E_aINITIATION F_aINITIATION_ordinal ne_aPREPARED_aSTART ne_aPREPARED_aCHECKPOINT ne_aPREPARED_aABORT ne_aPREPARED_aEND ne_aPREPARED_aCOMMIT ne_aPREPARED_aINITIATION ne_aSTART_aCHECKPOINT ne_aSTART_aABORT ne_aSTART_aEND ne_aSTART_aCOMMIT ne_aSTART_aINITIATION ne_aCHECKPOINT_aABORT ne_aCHECKPOINT_aEND ne_aCHECKPOINT_aCOMMIT ne_aCHECKPOINT_aINITIATION ne_aABORT_aEND ne_aABORT_aCOMMIT ne_aABORT_aINITIATION ne_aEND_aCOMMIT ne_aEND_aINITIATION ne_aCOMMIT_aINITIATION p e ha hc hk s m _ below hf ((Spec.applies_iff_loose hf).mp happ).1 ⟨rfl, State.Warmed39.refl s, rfl⟩ trivial
  refine ⟨n, _, h1, h2, h3, hpost _ _ _ _ _ _ ⟨Cond.after_iff.mpr rfl, Cond.after_iff.mpr (eq_i res_at (Term.int_eval (1)) rfl), trivial⟩ ⟨hq.1, hq.2.1, (hq.2.2.sift fun y hy => Or.inr (N y hy)).mono (by decide) (by decide)⟩⟩
theorem main_1_1 : Claimed_1_1 := comes_1 fun _ _ _ _ _ _ h hF => ⟨h.1, hF⟩
theorem main_1_2 : Claimed_1_2 := comes_1 fun _ _ _ _ _ _ h hF => ⟨h.2.1, hF⟩
end Jvm.Pilot.@@N@@
namespace Jvm.Pilot.@@N@@
open Jvm Jvm.ClassFile Sem Op Lib Jvm.Free Jvm.Stand Jvm.Pilot.@@N@@.Jvm.D
/-! MADE BY PROGRAM (witnessworld.py) out of the Statement's table words and the real class files: 12 classes; the members and pool entries that the words name. The judged class is class 1, her method 1. -/
namespace start1
open Jvm.ClassFile
def u (s : String) : CpInfo := .utf8 (stringToUtf16 s)
/-- a pool by its gaps: so many unusable entries, then the entry; so many at the end -/
def gap : Nat → List CpInfo → List CpInfo
  | 0, r => r
  | n + 1, r => .unusable :: gap n r
def poolList (es : List (Nat × CpInfo)) (last : Nat) : List CpInfo := es.foldr (fun e r => gap e.1 (e.2 :: r)) (gap last [])
def pool (es : List (Nat × CpInfo)) (last : Nat) : Array CpInfo := ⟨poolList es last⟩
def fileOf (pool : Array CpInfo) (this : Nat) (attrs : Array Attribute := #[]) (ms : Array MethodInfo := #[]) (fl : Nat := 33) (sup : Nat := 0) (ifs : Array Nat := #[]) (fds : Array FieldInfo := #[]) : ClassFile where
  minorVersion := 0
  majorVersion := 65
  constantPool := pool
  accessFlags := fl
  thisClass := this
  superClass := sup
  interfaces := ifs
  fields := fds
  methods := ms
  attributes := attrs
def plain (name : String) (sup : Option ClassId) : Class where
  name := name
  kind := .ordinary
  loader := none
  accessFlags := 33
  super := sup
  interfaces := #[]
  cf := none
  fields := #[]
  methods := #[]
  instanceTypes := #[]
  staticTypes := #[]
  resolved := #[]
  callSites := []
  init := .initialized
  statics := none
  mirror := none

def pool0 : Array CpInfo := pool [(5, u "<init>"), (0, u "()V"), (1, .class_ 10), (1, u "java/lang/Object")] 113

def k0m0 : Method := { name := "<init>", desc := "()V", sig := { parameters := [], returnType := none }, accessFlags := 1, code := none }
/-- java/lang/Object -/
def k0 : Class := { plain "java/lang/Object" none with
  accessFlags := 33
  interfaces := #[]
  cf := some (fileOf pool0 8 #[] #[{ accessFlags := 1, nameIndex := 5, descriptorIndex := 6, attributes := #[] }] 33 0 #[] #[])
  fields := #[]
  methods := #[k0m0]
  instanceTypes := #[]
  staticTypes := #[]
  resolved := Array.replicate 124 none
  statics := none }

def pool1 : Array CpInfo := pool [(2, .class_ 4), (1, u "java/lang/Object"), (0, u "<init>"), (0, u "()V"), (0, .integer 2147483647), (0, .fieldref 9 10), (0, .class_ 11), (0, .nameAndType 12 13), (0, u "com/example/concordat/concordat/model/LogRecord$Type"), (0, u "START"), (0, u "Lcom/example/concordat/concordat/model/LogRecord$Type;"), (0, .fieldref 9 15), (0, .nameAndType 16 13), (0, u "CHECKPOINT"), (0, .fieldref 9 18), (0, .nameAndType 19 13), (0, u "INITIATION"), (0, .fieldref 9 21), (0, .nameAndType 22 13), (0, u "PREPARED"), (0, .fieldref 9 24), (0, .nameAndType 25 13), (0, u "COMMIT"), (0, .fieldref 9 27), (0, .nameAndType 28 13), (0, u "ABORT"), (0, .fieldref 9 30), (0, .nameAndType 31 13), (0, u "END"), (0, .methodref 9 33), (0, .nameAndType 34 35), (0, u "belongsToTransaction"), (0, u "()Z"), (0, .class_ 37), (0, u "com/example/concordat/concordat/model/TypeBelongsToTransactionPinLaw"), (2, u "law"), (0, u "(I)Z")] 7

def k1m0 : Method := { name := "<init>", desc := "()V", sig := { parameters := [], returnType := none }, accessFlags := 1, code := none }
def k1c1 : Code := { maxStack := 2, maxLocals := 4, code := code, exceptionTable := #[], attributes := #[] }
def k1m1 : Method := { name := "law", desc := "(I)Z", sig := { parameters := [.int], returnType := some .boolean }, accessFlags := 9, code := some k1c1 }
/-- com/example/concordat/concordat/model/TypeBelongsToTransactionPinLaw -/
def k1 : Class := { plain "com/example/concordat/concordat/model/TypeBelongsToTransactionPinLaw" (some 0) with
  accessFlags := 49
  interfaces := #[]
  cf := some (fileOf pool1 36 #[] #[{ accessFlags := 1, nameIndex := 5, descriptorIndex := 6, attributes := #[] }, { accessFlags := 9, nameIndex := 40, descriptorIndex := 41, attributes := #[] }] 49 2 #[] #[])
  fields := #[]
  methods := #[k1m0, k1m1]
  instanceTypes := #[]
  staticTypes := #[]
  resolved := Array.replicate 49 none
  statics := none }

def pool2 : Array CpInfo := pool [(1, .class_ 2), (0, u "java/lang/constant/Constable"), (0, .class_ 4), (0, u "java/lang/Object")] 6

/-- java/lang/constant/Constable -/
def k2 : Class := { plain "java/lang/constant/Constable" (some 0) with
  accessFlags := 1537
  interfaces := #[]
  cf := some (fileOf pool2 1 #[] #[] 1537 3 #[] #[])
  fields := #[]
  methods := #[]
  instanceTypes := #[]
  staticTypes := #[]
  resolved := Array.replicate 11 none
  statics := none }

def pool3 : Array CpInfo := pool [(1, .class_ 2), (0, u "java/lang/Comparable"), (0, .class_ 4), (0, u "java/lang/Object")] 7

/-- java/lang/Comparable -/
def k3 : Class := { plain "java/lang/Comparable" (some 0) with
  accessFlags := 1537
  interfaces := #[]
  cf := some (fileOf pool3 1 #[] #[] 1537 3 #[] #[])
  fields := #[]
  methods := #[]
  instanceTypes := #[]
  staticTypes := #[]
  resolved := Array.replicate 12 none
  statics := none }

def pool4 : Array CpInfo := pool [(1, .class_ 2), (0, u "java/io/Serializable"), (0, .class_ 4), (0, u "java/lang/Object")] 2

/-- java/io/Serializable -/
def k4 : Class := { plain "java/io/Serializable" (some 0) with
  accessFlags := 1537
  interfaces := #[]
  cf := some (fileOf pool4 1 #[] #[] 1537 3 #[] #[])
  fields := #[]
  methods := #[]
  instanceTypes := #[]
  staticTypes := #[]
  resolved := Array.replicate 7 none
  statics := none }

def pool5 : Array CpInfo := pool [(2, .class_ 4), (1, u "java/lang/Enum"), (0, u "name"), (0, u "Ljava/lang/String;"), (2, u "ordinal"), (0, u "I"), (1, .class_ 14), (1, u "java/lang/Object"), (4, u "hash"), (86, .class_ 108), (1, u "java/lang/Enum$EnumDesc"), (2, .class_ 112), (0, u "java/lang/constant/Constable"), (0, .class_ 114), (0, u "java/lang/Comparable"), (0, .class_ 116), (0, u "java/io/Serializable")] 87

/-- java/lang/Enum -/
def k5 : Class := { plain "java/lang/Enum" (some 0) with
  accessFlags := 1057
  interfaces := #[2, 3, 4]
  cf := some (fileOf pool5 2 #[.nestMembers #[106]] #[] 1057 12 #[111, 113, 115] #[{ accessFlags := 18, nameIndex := 5, descriptorIndex := 6, attributes := #[] }, { accessFlags := 18, nameIndex := 9, descriptorIndex := 10, attributes := #[] }, { accessFlags := 2, nameIndex := 19, descriptorIndex := 10, attributes := #[] }])
  fields := #[{ name := "name", type := (.object "java/lang/String"), accessFlags := 18, slot := 0, constantValue := 0 }, { name := "ordinal", type := .int, accessFlags := 18, slot := 1, constantValue := 0 }, { name := "hash", type := .int, accessFlags := 2, slot := 2, constantValue := 0 }]
  methods := #[]
  instanceTypes := #[(.object "java/lang/String"), .int, .int]
  staticTypes := #[]
  resolved := Array.replicate 204 none
  statics := none }

def pool6 : Array CpInfo := pool [(1, .class_ 2), (0, u "com/example/concordat/concordat/model/LogRecord$Type"), (0, .fieldref 1 4), (0, .nameAndType 5 6), (0, u "START"), (0, u "Lcom/example/concordat/concordat/model/LogRecord$Type;"), (0, .fieldref 1 8), (0, .nameAndType 9 6), (0, u "CHECKPOINT"), (2, u "INITIATION"), (2, u "PREPARED"), (2, u "COMMIT"), (2, u "ABORT"), (2, u "END"), (2, u "$VALUES"), (0, u "[Lcom/example/concordat/concordat/model/LogRecord$Type;"), (6, .class_ 37), (1, u "java/lang/Enum"), (8, u "word"), (0, u "Ljava/lang/String;"), (36, u "belongsToTransaction"), (0, u "()Z"), (7, .class_ 94), (0, u "com/example/concordat/concordat/model/LogRecord")] 2

def k6c0 : Code := { maxStack := 2, maxLocals := 1, code := prog_27_method_5_code, exceptionTable := #[], attributes := #[] }
def k6m0 : Method := { name := "belongsToTransaction", desc := "()Z", sig := { parameters := [], returnType := some .boolean }, accessFlags := 1, code := some k6c0 }
/-- com/example/concordat/concordat/model/LogRecord$Type -/
def k6 : Class := { plain "com/example/concordat/concordat/model/LogRecord$Type" (some 5) with
  accessFlags := 16433
  interfaces := #[]
  cf := some (fileOf pool6 1 #[.nestHost 93] #[{ accessFlags := 1, nameIndex := 84, descriptorIndex := 85, attributes := #[] }] 16433 35 #[] #[{ accessFlags := 16409, nameIndex := 5, descriptorIndex := 6, attributes := #[] }, { accessFlags := 16409, nameIndex := 9, descriptorIndex := 6, attributes := #[] }, { accessFlags := 16409, nameIndex := 12, descriptorIndex := 6, attributes := #[] }, { accessFlags := 16409, nameIndex := 15, descriptorIndex := 6, attributes := #[] }, { accessFlags := 16409, nameIndex := 18, descriptorIndex := 6, attributes := #[] }, { accessFlags := 16409, nameIndex := 21, descriptorIndex := 6, attributes := #[] }, { accessFlags := 16409, nameIndex := 24, descriptorIndex := 6, attributes := #[] }, { accessFlags := 18, nameIndex := 46, descriptorIndex := 47, attributes := #[] }, { accessFlags := 4122, nameIndex := 27, descriptorIndex := 28, attributes := #[] }])
  fields := #[{ name := "START", type := (.object "com/example/concordat/concordat/model/LogRecord$Type"), accessFlags := 16409, slot := 0, constantValue := 0 }, { name := "CHECKPOINT", type := (.object "com/example/concordat/concordat/model/LogRecord$Type"), accessFlags := 16409, slot := 1, constantValue := 0 }, { name := "INITIATION", type := (.object "com/example/concordat/concordat/model/LogRecord$Type"), accessFlags := 16409, slot := 2, constantValue := 0 }, { name := "PREPARED", type := (.object "com/example/concordat/concordat/model/LogRecord$Type"), accessFlags := 16409, slot := 3, constantValue := 0 }, { name := "COMMIT", type := (.object "com/example/concordat/concordat/model/LogRecord$Type"), accessFlags := 16409, slot := 4, constantValue := 0 }, { name := "ABORT", type := (.object "com/example/concordat/concordat/model/LogRecord$Type"), accessFlags := 16409, slot := 5, constantValue := 0 }, { name := "END", type := (.object "com/example/concordat/concordat/model/LogRecord$Type"), accessFlags := 16409, slot := 6, constantValue := 0 }, { name := "word", type := (.object "java/lang/String"), accessFlags := 18, slot := 3, constantValue := 0 }, { name := "$VALUES", type := (.array (.object "com/example/concordat/concordat/model/LogRecord$Type")), accessFlags := 4122, slot := 7, constantValue := 0 }]
  methods := #[k6m0]
  instanceTypes := #[(.object "java/lang/String"), .int, .int, (.object "java/lang/String")]
  staticTypes := #[(.object "com/example/concordat/concordat/model/LogRecord$Type"), (.object "com/example/concordat/concordat/model/LogRecord$Type"), (.object "com/example/concordat/concordat/model/LogRecord$Type"), (.object "com/example/concordat/concordat/model/LogRecord$Type"), (.object "com/example/concordat/concordat/model/LogRecord$Type"), (.object "com/example/concordat/concordat/model/LogRecord$Type"), (.object "com/example/concordat/concordat/model/LogRecord$Type"), (.array (.object "com/example/concordat/concordat/model/LogRecord$Type"))]
  resolved := Array.replicate 97 none
  statics := some 0 }

def pool7 : Array CpInfo := pool [(1, u "java/lang/Cloneable"), (0, .class_ 1), (0, u "java/lang/Object"), (0, .class_ 3)] 3

/-- java/lang/Cloneable -/
def k7 : Class := { plain "java/lang/Cloneable" (some 0) with
  accessFlags := 1537
  interfaces := #[]
  cf := some (fileOf pool7 2 #[] #[] 1537 4 #[] #[])
  fields := #[]
  methods := #[]
  instanceTypes := #[]
  staticTypes := #[]
  resolved := Array.replicate 8 none
  statics := none }

/-- the primitive byte -/
def k8 : Class := { plain "byte" none with kind := .primitive 'B', accessFlags := 0x411 }
/-- [B -/
def k9 : Class := { plain "[B" (some 0) with kind := .array 8 .byte, interfaces := #[7, 4], accessFlags := 1041 }

/-- the primitive int -/
def k10 : Class := { plain "int" none with kind := .primitive 'I', accessFlags := 0x411 }
/-- [I -/
def k11 : Class := { plain "[I" (some 0) with kind := .array 10 .int, interfaces := #[7, 4], accessFlags := 1041 }

def heap : Heap := #[{ cls := 6, slots := #[.ref 1, .ref 2, .ref 3, .ref 4, .ref 5, .ref 6, .ref 7, .null], vm := .statics 6 },
  { cls := 6, slots := #[.null, .int 0, .int 0, .null], vm := .none },
  { cls := 6, slots := #[.null, .int 1, .int 0, .null], vm := .none },
  { cls := 6, slots := #[.null, .int 2, .int 0, .null], vm := .none },
  { cls := 6, slots := #[.null, .int 3, .int 0, .null], vm := .none },
  { cls := 6, slots := #[.null, .int 4, .int 0, .null], vm := .none },
  { cls := 6, slots := #[.null, .int 5, .int 0, .null], vm := .none },
  { cls := 6, slots := #[.null, .int 6, .int 0, .null], vm := .none }]
def classes : Array Class := #[k0, k1, k2, k3, k4, k5, k6, k7, k8, k9, k10, k11]
def interned : List (Array UInt16 × Addr) := []
def slotsUsed : Nat := 36
def theMethod : MethodId := ⟨1, 1⟩
def args0 : Array Value := #[.int 5]
def aboutOver (below : List Frame) : State where
  vm := { classes := classes, interned := interned.toArray }
  heap := heap
  slotsUsed := slotsUsed
  threads := #[{ frames := .invoking theMethod args0 :: below }]
def below0 : List Frame := [.native { method := ⟨0, 0⟩, args := #[] }]
def about1 : State := aboutOver below0
def p0 : Program := .bare "" "" ""
def e0 : Env := launch0.env 0 0 0
theorem w_frames : about1.frames = Frame.invoking theMethod args0 :: below0 := rfl
set_option maxRecDepth 65536 in
theorem w_args : argsFit about1.vm theMethod args0 = true := by decide +kernel
set_option maxRecDepth 65536 in
theorem w_heap : heapFits about1 = true := by decide +kernel
set_option maxRecDepth 65536 in
theorem w_runnable : about1.curStatus? = some .runnable := by decide +kernel
set_option maxRecDepth 65536 in
theorem w_alone : about1.alone = true := by decide +kernel
set_option maxRecDepth 65536 in
theorem w_named : about1.methodNamed? x = some theMethod := by decide +kernel
set_option maxRecDepth 65536 in
theorem w_hears : about1.hears theMethod below0 = true := by decide +kernel
set_option maxRecDepth 65536 in
theorem w_ripe : about1.ripe theMethod args0 below0 = true := by decide +kernel
theorem w_running : about1.status = .running := rfl
set_option maxRecDepth 65536 in
theorem w_room : about1.hasRoom e0.platform room_1 = true :=
  launch0.hasRoom_least _ room_1 (by decide +kernel) (by decide +kernel) (by decide +kernel) (by decide +kernel) (by decide +kernel) (by decide +kernel)
theorem allAtoms_all (ts : List Jvm.Cond) (a : Array Jvm.Value) (st : Jvm.State) : (allAtoms ts).before a st = ts.all (fun c => c.before a st) := by
  induction ts with
  | nil => rfl
  | cons c t ih =>
    show (Jvm.Cond.and c (allAtoms t)).before a st = _
    rw [Jvm.Cond.before_and, ih, List.all_cons]
def words1 : List Jvm.Cond := Jvm.Cond.code x code maxLocals ret :: tables_1
/-- a 'code' word, met by the world's own term for the bytes: nothing is compared byte by byte -/
theorem code_word {y : MethodName} {bytes : ByteArray} {mx : Nat} {rt : Option FieldType} {a : Array Value} {s : State} {m : MethodId} {meth : Method} {c : Code} (h1 : s.methodNamed? y = some m) (h2 : s.vm.method? m = some meth) (h3 : meth.code = some c) (h4 : c.code = bytes)
    (h5 : (c.maxLocals == mx && c.exceptionTable.isEmpty && decide (c.maxStack ≤ mostOperands) && decide (meth.sig.returnType = rt) && !meth.locks && decide (parseMethodDescriptor y.desc = some meth.sig)) = true) : (Jvm.Cond.code y bytes mx rt).before a s = true := by
  simp only [Bool.and_eq_true, beq_iff_eq, Bool.not_eq_true', decide_eq_true_eq] at h5
  obtain ⟨⟨⟨⟨⟨g1, g2⟩, g3⟩, g4⟩, g5⟩, g6⟩ := h5
  simp [Cond.before, Cond.holds, Cond.value, h1, h2, h3, h4, g1, g2, g3, g4, g5, g6]
def isCode : Jvm.Cond → Bool
  | .code _ _ _ _ => true
  | _ => false
theorem all_split {L : List Jvm.Cond} {P : Jvm.Cond → Bool} (h1 : L.all (fun c => isCode c || P c) = true) (h2 : ∀ c ∈ L.filter isCode, P c = true) : L.all P = true := by
  refine List.all_eq_true.mpr fun c hc => ?_
  have h := List.all_eq_true.mp h1 c hc
  rcases Bool.eq_false_or_eq_true (isCode c) with hi | hi
  · exact h2 c (List.mem_filter.mpr ⟨hc, hi⟩)
  · simpa [hi] using h
set_option maxRecDepth 65536 in
theorem w_c0 : (Jvm.Cond.code x code maxLocals ret).before args0 about1 = true := code_word (m := ⟨1, 1⟩) (meth := k1m1) (c := k1c1) (by decide +kernel) rfl rfl rfl (by decide +kernel)
set_option maxRecDepth 65536 in
theorem w_c1 : (Jvm.Cond.code ({ cls := "com/example/concordat/concordat/model/LogRecord$Type", name := "belongsToTransaction", desc := "()Z" } : Jvm.MethodName) prog_27_method_5_code (1 : Nat) (Option.some Jvm.ClassFile.FieldType.boolean)).before args0 about1 = true := code_word (m := ⟨6, 0⟩) (meth := k6m0) (c := k6c0) (by decide +kernel) rfl rfl rfl (by decide +kernel)
def codes1 : List Jvm.Cond := [Jvm.Cond.code x code maxLocals ret, Jvm.Cond.code ({ cls := "com/example/concordat/concordat/model/LogRecord$Type", name := "belongsToTransaction", desc := "()Z" } : Jvm.MethodName) prog_27_method_5_code (1 : Nat) (Option.some Jvm.ClassFile.FieldType.boolean)]
set_option maxRecDepth 65536 in
theorem codes_eq : words1.filter isCode = codes1 := rfl
theorem w_codes : ∀ c ∈ words1.filter isCode, c.before args0 about1 = true := by
  rw [codes_eq]
  intro c hc
  simp only [codes1, List.mem_cons, List.not_mem_nil, or_false] at hc
  rcases hc with rfl | rfl
  · exact w_c0
  · exact w_c1
set_option maxRecDepth 65536 in
theorem w_t1 : words1.all (fun c => isCode c || c.before args0 about1) = true := by decide +kernel
theorem w_tables : (allAtoms (Jvm.Cond.code x code maxLocals ret :: tables_1)).before args0 about1 = true := by
  rw [allAtoms_all]
  show words1.all (fun c => c.before args0 about1) = true
  refine all_split ?_ w_codes
  rw [w_t1]
set_option maxRecDepth 65536 in
theorem w_case : (Jvm.Cond.and given_1 narrow_1).before args0 about1 = true := by decide +kernel
theorem w_applies : (headSpec (Jvm.Cond.code x code maxLocals ret :: tables_1) room_1).applies x e0.platform about1 = true :=
  (Spec.applies_iff w_frames).mpr ⟨w_running, w_runnable, w_alone, w_named, w_hears, w_ripe, w_room, w_tables⟩
theorem atStart : AtStart classFile x code maxLocals ret World_1 tables_1 room_1 Calls_1 rest_1 Pre_1 launch0 p0 e0 about1 theMethod args0 below0 :=
  ⟨lists_1, trivial, launch0.admits_env _ _ _, launch0.least_env, fairChoices_fair.cas, fairChoices_fair.clock, w_frames, w_args, w_heap, w_applies, trivial, trivial, w_case⟩
end start1
theorem witness_1 : WitnessClaimed_1 := ⟨start1.p0, start1.e0, start1.about1, start1.theMethod, start1.args0, start1.below0, start1.atStart⟩
end Jvm.Pilot.@@N@@
