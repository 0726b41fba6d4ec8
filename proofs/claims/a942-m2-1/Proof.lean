import JvmDerived
import JvmDerived.Pilot.@@N@@Statement
import JvmDerived.Pilot.@@N@@Code
set_option linter.unusedVariables false
set_option linter.unusedSimpArgs false
namespace Jvm.OwnGo
open Jvm Jvm.ClassFile Sem Op Lib Jvm.Free Jvm.Stand Jvm.LawKit Jvm.RoadKit
section Own
variable {p : Program} {l : Launch} {e : Env} {R : Room} {s : State} {m : MethodId} {args : Array Value} {below : List Frame} {meth : Method} {c : Code} {T : State} {locs : List Loc} {cells slots : Nat} {Q : Option Value → Heap → List Loc → Prop} {C N : Nat}
/-- from A on the run comes to its return, and what it returns and leaves is as Q says -/
def Go (p : Program) (e : Env) (below : List Frame) (s : State) (Q : Option Value → Heap → List Loc → Prop) (C N : Nat) (A : State) : Prop :=
  ∃ s₂ o, Steps p.tables e below A s₂ ∧ s₂.status = .running ∧ Ended s₂ below o ∧ ∃ v L, o = .returned v ∧ Q v s₂.heap L ∧ FrameEnd s o s₂ L C N
theorem Go.st {A B : State} (h : ∀ t, Steps p.tables e below B t → Steps p.tables e below A t) (k : Go p e below s Q C N B) : Go p e below s Q C N A := by
  obtain ⟨s₂, o, h1, r⟩ := k
  exact ⟨s₂, o, h _ h1, r⟩
theorem Go.tr {A B : State} (h : Steps p.tables e below A B) (k : Go p e below s Q C N B) : Go p e below s Q C N A := k.st fun _ q => h.trans q
theorem Go.retI (X : Stand p l e R s m args below meth c T locs cells slots) (hx : p.tables.exec = Jvm.exec) (hlk : meth.locks = false) (hret : meth.sig.returnType = some .int) {pc : Nat} {Ls : Array Slot} {z : Int32} {rest : List Value} (hd : decode c.code pc = .ok (.ireturn, 1))
    (q : Q (some (.int z)) T.heap locs) (hc : cells ≤ C) (hn : slots ≤ N) : Go p e below s Q C N (T.setTop (mkF m pc Ls (.int z :: rest))) := by
  obtain ⟨fs, hr, hrun, hended, hW, hsame⟩ := X.leave (v := some (.int z)) (fun h => by rw [hret] at h; cases h) hlk
  exact ⟨_, _, retOut X hx hret rfl (Or.inl ⟨rfl, Or.inl rfl, _, rfl⟩) hd hr, hrun, hended, _, _, rfl, q, ⟨_, rfl⟩, hW, hsame.mono hc hn⟩
theorem Go.retN (X : Stand p l e R s m args below meth c T locs cells slots) (hx : p.tables.exec = Jvm.exec) (hlk : meth.locks = false) {t : FieldType} (ht : t = .boolean ∨ t = .byte ∨ t = .char ∨ t = .short) (hret : meth.sig.returnType = some t) {pc : Nat} {Ls : Array Slot} {z z' : Int32} {rest : List Value} (hd : decode c.code pc = .ok (.ireturn, 1))
    (hz : nar t z = z') (q : Q (some (.int z')) T.heap locs) (hc : cells ≤ C) (hn : slots ≤ N) : Go p e below s Q C N (T.setTop (mkF m pc Ls (.int z :: rest))) := by
  subst hz
  obtain ⟨fs, hr, hrun, hended, hW, hsame⟩ := X.leave (v := some (.int (nar t z))) (fun h => by rw [hret] at h; cases h) hlk
  exact ⟨_, _, Jvm.RoadKit.retN X hx hret ht hd hr, hrun, hended, _, _, rfl, q, ⟨_, rfl⟩, hW, hsame.mono hc hn⟩
theorem Go.retJ (X : Stand p l e R s m args below meth c T locs cells slots) (hx : p.tables.exec = Jvm.exec) (hlk : meth.locks = false) (hret : meth.sig.returnType = some .long) {pc : Nat} {Ls : Array Slot} {z : Int64} {rest : List Value} (hd : decode c.code pc = .ok (.lreturn, 1))
    (q : Q (some (.long z)) T.heap locs) (hc : cells ≤ C) (hn : slots ≤ N) : Go p e below s Q C N (T.setTop (mkF m pc Ls (.long z :: rest))) := by
  obtain ⟨fs, hr, hrun, hended, hW, hsame⟩ := X.leave (v := some (.long z)) (fun h => by rw [hret] at h; cases h) hlk
  exact ⟨_, _, retOut X hx hret rfl (Or.inr (Or.inl ⟨rfl, rfl, _, rfl⟩)) hd hr, hrun, hended, _, _, rfl, q, ⟨_, rfl⟩, hW, hsame.mono hc hn⟩
theorem nar_ref {t : FieldType} {w : Value} (hw : w.isRef = true) : narrow t w = w := by
  cases t <;> cases w <;> first | rfl | (simp [Value.isRef] at hw)
theorem Go.retA (X : Stand p l e R s m args below meth c T locs cells slots) (hx : p.tables.exec = Jvm.exec) (hlk : meth.locks = false) {t : FieldType} (ht : t.isReference = true) (hret : meth.sig.returnType = some t) {pc : Nat} {Ls : Array Slot} {w : Value} {rest : List Value} (hw : w.isRef = true) (hd : decode c.code pc = .ok (.areturn, 1))
    (q : Q (some w) T.heap locs) (hc : cells ≤ C) (hn : slots ≤ N) : Go p e below s Q C N (T.setTop (mkF m pc Ls (w :: rest))) := by
  obtain ⟨fs, hr, hrun, hended, hW, hsame⟩ := X.leave (v := some w) (fun h => by rw [hret] at h; cases h) hlk
  exact ⟨_, _, retOut X hx hret (nar_ref hw) (Or.inr (Or.inr (Or.inr (Or.inr ⟨rfl, ht, hw⟩)))) hd hr, hrun, hended, _, _, rfl, q, ⟨_, rfl⟩, hW, hsame.mono hc hn⟩
theorem Go.retV (X : Stand p l e R s m args below meth c T locs cells slots) (hx : p.tables.exec = Jvm.exec) (hlk : meth.locks = false) (hret : meth.sig.returnType = none) {pc : Nat} {Ls : Array Slot} (hd : decode c.code pc = .ok (.return_, 1))
    (q : Q none T.heap locs) (hc : cells ≤ C) (hn : slots ≤ N) : Go p e below s Q C N (T.setTop (mkF m pc Ls [])) := by
  obtain ⟨fs, hr, hrun, hended, hW, hsame⟩ := X.leave (v := none) (fun _ => rfl) hlk
  exact ⟨_, _, X.returnOut hx hret hd hr, hrun, hended, _, _, rfl, q, ⟨_, rfl⟩, hW, hsame.mono hc hn⟩
theorem up {k n : Nat} (X : Stand p l e R s m args below meth c T locs cells slots) (hc : cells ≤ k) (hn : slots ≤ n) : Stand p l e R s m args below meth c T locs k n := { X with same := X.same.mono hc hn }
end Own
section Num
variable {x y : Int32} {u v : Int64} {a b : Int}
theorem ltI (ha : x.toInt = a) (hb : y.toInt = b) (h : a < b) : x < y := by rw [Int32.lt_iff_toInt_lt, ha, hb]; exact h
theorem nltI (ha : x.toInt = a) (hb : y.toInt = b) (h : ¬ a < b) : ¬ x < y := by rw [Int32.lt_iff_toInt_lt, ha, hb]; exact h
theorem eqI (ha : x.toInt = a) (hb : y.toInt = b) (h : a = b) : x = y := Int32.toInt_inj.mp (by rw [ha, hb]; exact h)
theorem neI (ha : x.toInt = a) (hb : y.toInt = b) (h : ¬ a = b) : ¬ x = y := fun q => h (by rw [← ha, ← hb, q])
theorem ltJ (ha : u.toInt = a) (hb : v.toInt = b) (h : a < b) : u < v := by rw [Int64.lt_iff_toInt_lt, ha, hb]; exact h
theorem nltJ (ha : u.toInt = a) (hb : v.toInt = b) (h : ¬ a < b) : ¬ u < v := by rw [Int64.lt_iff_toInt_lt, ha, hb]; exact h
theorem eqJ (ha : u.toInt = a) (hb : v.toInt = b) (h : a = b) : u = v := Int64.toInt_inj.mp (by rw [ha, hb]; exact h)
theorem neJ (ha : u.toInt = a) (hb : v.toInt = b) (h : ¬ a = b) : ¬ u = v := fun q => h (by rw [← ha, ← hb, q])
theorem bool_nar (h : x.toInt = 0 ∨ x.toInt = 1) : nar .boolean x = x := by
  rcases h with h | h
  · rw [Int32.toInt_inj.mp (h.trans (by decide : (0 : Int) = (0 : Int32).toInt))]; decide
  · rw [Int32.toInt_inj.mp (h.trans (by decide : (1 : Int) = (1 : Int32).toInt))]; decide
end Num
section Words
variable {Z : State} {args : Array Value} {t : Term} {C n d : String} {a : Addr}
theorem fld_int {k : Int32} (ht : t.eval args Z none [] Z = some (.ref a)) (h : (Cond.eq (Term.field t C n d) (Term.int k)).value args Z none Z [] = some true) : Fld Z Z.heap a C n d (.int k) := by
  obtain ⟨u, v, e1, e2, k1, k2⟩ := cmp_v (Or.inl h)
  have e3 : v = .int k := Option.some.inj (e2.symm.trans (Term.int_eval k))
  subst e3
  obtain ⟨w, rfl⟩ : ∃ w, u = .int w := k2
  have q := gotT (Cond.eq_ints e1 (Term.int_eval k)) h
  subst q
  exact Fld.start (by rw [← fld_at (args := args) (first := Z) (o := none) (idx := []) ht]; exact e1)
theorem sta_long {k : Int64} (h : (Cond.eq (Term.static C n d) (Term.long k)).value args Z none Z [] = some true) : (Term.static C n d).eval args Z none [] Z = some (.long k) := by
  obtain ⟨u, v, e1, e2, k1, k2⟩ := cmp_v (Or.inl h)
  have e3 : v = .long k := Option.some.inj (e2.symm.trans rfl)
  subst e3
  obtain ⟨w, rfl⟩ : ∃ w, u = .long w := k2
  have q := gotT (eq_L (y := k) e1 rfl) h
  subst q
  exact e1
theorem sta_int {k : Int32} (h : (Cond.eq (Term.static C n d) (Term.int k)).value args Z none Z [] = some true) : (Term.static C n d).eval args Z none [] Z = some (.int k) := by
  obtain ⟨u, v, e1, e2, k1, k2⟩ := cmp_v (Or.inl h)
  have e3 : v = .int k := Option.some.inj (e2.symm.trans rfl)
  subst e3
  obtain ⟨w, rfl⟩ : ∃ w, u = .int w := k2
  have q := gotT (Cond.eq_ints e1 (Term.int_eval k)) h
  subst q
  exact e1
/-- a cell that is no class's statics -/
def Exi (h : Heap) (x : Addr) : Prop := ∃ c : Cell, h[x]? = some c ∧ c.vm.isStatics = false
theorem exi_exa {h : Heap} (F : Exa Z h a C) : Exi h a := by obtain ⟨c, k, h1, -, -, h4, -⟩ := F; exact ⟨c, h1, h4⟩
theorem sta_keep {h h' : Heap} {v : Value} {ws : List Addr} (F : Sta Z h C n d v) (K : Keep h h' ws) (q : ∀ x ∈ ws, Exi h x) : Sta Z h' C n d v := by
  obtain ⟨cf, i, k, f, st, cell, h1, h2, h3, h4, h5, h6, h7⟩ := F
  refine ⟨cf, i, k, f, st, cell, h1, h2, h3, h4, K.2.1 st cell h5 (fun hm => ?_), h6, h7⟩
  obtain ⟨c, e1, e2⟩ := q st hm
  cases h5.symm.trans e1
  rw [h6] at e2; cases e2
theorem self_sel {s : State} {as as' : Array Value} {y z : MethodName} (hs : (Cond.selects C z z).before as s = true) (hc : z.cls = y.cls) (hp : s.PrivateAt y) (hi : (Cond.instanceMethod y).before as' s = true) (hy : y.cls ≠ "java/lang/invoke/MethodHandle" ∧ y.cls ≠ "java/lang/invoke/VarHandle") : (Cond.selects y.cls y y).before as' s = true := by
  obtain ⟨c, r, m, h1, h2, h3, h4, mk, h5, h6⟩ := Cond.selects_spec hs
  exact selects_self_of_private (hc ▸ findClass_of_methodNamed h3) h5 h6 hp hi hy
end Words
end Jvm.OwnGo
namespace Jvm.Pilot.@@N@@
open Jvm Jvm.ClassFile Sem Op Lib Jvm.Free Jvm.Stand Jvm.LawKit Jvm.RoadKit Bundle Jvm.OwnGo Jvm.Pilot.@@N@@.Jvm.D
theorem pn_0 : plainName "java/lang/Enum" = true := by first | (simp [plainName, overriddenIn]; done) | decide +kernel
theorem d2_0 : decode jdk_37_method_2_code 0 = .ok (.aload_n 0, 1) := by decide +kernel
theorem d2_1 : decode jdk_37_method_2_code 1 = .ok (.getfield 7, 3) := by decide +kernel
theorem d2_4 : decode jdk_37_method_2_code 4 = .ok (.ireturn, 1) := by decide +kernel
theorem ef_rm2 (m : MethodId) (o : Addr) : entryFrame m #[(.ref o)] 1 = mkF m 0 #[.val (.ref o)] [] := by first | (simp [entryFrame, mkF, argsToLocals, Value.category]; done) | rfl
def Q2 (Z : State) (o : Addr) (k : Int32) (h0 : Heap) (n0 : Nat) (vv : Option Value) (h : Heap) (LL : List Loc) : Prop := vv = some (.int k) ∧ Fr n0 LL ∧ h = h0
set_option maxRecDepth 65536 in
set_option maxHeartbeats 40000000 in
theorem rm2 (l : Launch) (Z : State) (a0 : Array Value) (hw : ∀ d ∈ tables_1, d.before a0 Z = true) (ws : List Jvm.Cond) (o : Addr) (k : Int32) (h0 : Heap) (n0 : Nat) (Z0 : n0 ≤ h0.size) (hF : Fld Z h0 o "java/lang/Enum" "ordinal" "I" (.int k)) :
    MetFree l (⟨"java/lang/Enum", "ordinal", "()I"⟩ : MethodName) (head1 (Jvm.Cond.code (⟨"java/lang/Enum", "ordinal", "()I"⟩ : MethodName) jdk_37_method_2_code 1 (some .int) :: ws) ({ frames := 0, cells := 0, slots := 0, locals := 0 } : Room)) (fun aa UU => aa = #[(.ref o)] ∧ Z.Warmed39 UU.vm ∧ UU.heap = h0) (fun _ _ _ _ _ => True) (fun _ UU oo UU' => ∃ vv LL, oo = .returned vv ∧ Q2 Z o k h0 n0 vv UU'.heap LL ∧ FrameEnd UU oo UU' LL 0 0) := by
  refine MetFree.of_bodySF (plainFor_of_name pn_0) hisR ?_
  intro p e s m args below meth c s₁ Bd hml0 hP hK
  obtain ⟨rfl, hZ, hh⟩ := hP
  have hx := Bd.exec
  have hby := Bd.bytes
  have hlk : meth.locks = false := BodyLoose.notSynchronized Bd
  have hml : c.maxLocals = 1 := hml0
  have hown : s.vm.findClass "java/lang/Enum" = some m.cls := findClass_of_methodNamed Bd.named
  have hnm := (name_of_methodNamed Bd.named Bd.method).1
  have X0 : Stand p l e ({ frames := 0, cells := 0, slots := 0, locals := 0 } : Room) s m #[(.ref o)] below meth c s₁ [] 0 0 := Stand.of_body Bd
  have e0 : s₁.heap = h0 := by rw [← hh, Bd.state]; rfl
  have N0 := Fr.nil n0
  have K0 : Keep h0 h0 [] := Keep.refl h0 _
  refine (?_ : Go p e below s (Q2 Z o k h0 n0) 0 0 (s₁.setTop (entryFrame m #[(.ref o)] 1)))
  rw [ef_rm2]
  generalize hQ : Q2 Z o k h0 n0 = Q
  show Go p e below s Q 0 0 (s₁.setTop (mkF m 0 #[.val (.ref o)] []))
  refine Go.st (fun _ k => XS.aloadN X0.here hx rfl (hb hby d2_0) rfl rfl k) ?_
  show Go p e below s Q 0 0 (s₁.setTop (mkF m 1 #[.val (.ref o)] [(.ref o)]))
  obtain ⟨T1, X1, e1, st1⟩ := getF X0 hx hZ hown (host := "") (Or.inl (hw _ (List.mem_of_getElem? (i := 15) rfl))) Via.refl e0 hF (g := (mkF m 1 #[.val (.ref o)] [(.ref o)])) rfl rfl (hb hby d2_1)
  refine Go.st st1 ?_
  show Go p e below s Q 0 0 (T1.setTop (mkF m 4 #[.val (.ref o)] [(.int k)]))
  have f2 := rng32 k
  exact Go.retI X1 hx hlk Bd.returns (hb hby d2_4) (by rw [← hQ, e1]; exact ⟨rfl, N0, rfl⟩) (by decide) (by decide)
theorem pn_1 : plainName "com/example/graf/graf/flow/Step" = true := by first | (simp [plainName, overriddenIn]; done) | decide +kernel
theorem d3_0 : decode prog_10_method_2_code 0 = .ok (.iload_n 0, 1) := by decide +kernel
theorem d3_1 : decode prog_10_method_2_code 1 = .ok (.sipush 400, 3) := by decide +kernel
theorem d3_4 : decode prog_10_method_2_code 4 = .ok (.if_icmp .ge 7, 3) := by decide +kernel
theorem liI_400 : (400 : Int32).toInt = 400 := by decide
theorem d3_7 : decode prog_10_method_2_code 7 = .ok (.iconst 1, 1) := by decide +kernel
theorem d3_8 : decode prog_10_method_2_code 8 = .ok (.goto 4, 3) := by decide +kernel
theorem liI_1 : (1 : Int32).toInt = 1 := by decide
theorem d3_12 : decode prog_10_method_2_code 12 = .ok (.ireturn, 1) := by decide +kernel
theorem d3_11 : decode prog_10_method_2_code 11 = .ok (.iconst 0, 1) := by decide +kernel
theorem liI_0 : (0 : Int32).toInt = 0 := by decide
theorem ef_rm3 (m : MethodId) (a : Int32) : entryFrame m #[(.int a)] 1 = mkF m 0 #[.val (.int a)] [] := by first | (simp [entryFrame, mkF, argsToLocals, Value.category]; done) | rfl
def Q3 (Z : State) (a : Int32) (h0 : Heap) (n0 : Nat) (vv : Option Value) (h : Heap) (LL : List Loc) : Prop := ∃ (r : Int32), vv = some (.int r) ∧ Fr n0 LL ∧ ((a.toInt < 400 ∧ r.toInt = 1) ∨ (400 ≤ a.toInt ∧ r.toInt = 0)) ∧ h = h0
set_option maxRecDepth 65536 in
set_option maxHeartbeats 40000000 in
theorem rm3 (l : Launch) (Z : State) (a0 : Array Value) (hw : ∀ d ∈ tables_1, d.before a0 Z = true) (ws : List Jvm.Cond) (a : Int32) (h0 : Heap) (n0 : Nat) (Z0 : n0 ≤ h0.size) :
    MetFree l (⟨"com/example/graf/graf/flow/Step", "isSuccess", "(I)Z"⟩ : MethodName) (head1 (Jvm.Cond.code (⟨"com/example/graf/graf/flow/Step", "isSuccess", "(I)Z"⟩ : MethodName) prog_10_method_2_code 1 (some .boolean) :: ws) ({ frames := 0, cells := 0, slots := 0, locals := 0 } : Room)) (fun aa UU => aa = #[(.int a)] ∧ Z.Warmed39 UU.vm ∧ UU.heap = h0) (fun _ _ _ _ _ => True) (fun _ UU oo UU' => ∃ vv LL, oo = .returned vv ∧ Q3 Z a h0 n0 vv UU'.heap LL ∧ FrameEnd UU oo UU' LL 0 0) := by
  refine MetFree.of_bodySF (plainFor_of_name pn_1) hisR ?_
  intro p e s m args below meth c s₁ Bd hml0 hP hK
  obtain ⟨rfl, hZ, hh⟩ := hP
  have hx := Bd.exec
  have hby := Bd.bytes
  have hlk : meth.locks = false := BodyLoose.notSynchronized Bd
  have hml : c.maxLocals = 1 := hml0
  have hown : s.vm.findClass "com/example/graf/graf/flow/Step" = some m.cls := findClass_of_methodNamed Bd.named
  have hnm := (name_of_methodNamed Bd.named Bd.method).1
  have X0 : Stand p l e ({ frames := 0, cells := 0, slots := 0, locals := 0 } : Room) s m #[(.int a)] below meth c s₁ [] 0 0 := Stand.of_body Bd
  have e0 : s₁.heap = h0 := by rw [← hh, Bd.state]; rfl
  have N0 := Fr.nil n0
  have K0 : Keep h0 h0 [] := Keep.refl h0 _
  refine (?_ : Go p e below s (Q3 Z a h0 n0) 0 0 (s₁.setTop (entryFrame m #[(.int a)] 1)))
  rw [ef_rm3]
  generalize hQ : Q3 Z a h0 n0 = Q
  show Go p e below s Q 0 0 (s₁.setTop (mkF m 0 #[.val (.int a)] []))
  have f1 := rng32 a
  refine Go.st (fun _ k => XS.iloadN X0.here hx rfl (hb hby d3_0) rfl k) ?_
  show Go p e below s Q 0 0 (s₁.setTop (mkF m 1 #[.val (.int a)] [(.int a)]))
  refine Go.st (fun _ k => XS.sipush X0.here hx rfl (hb hby d3_1) k) ?_
  show Go p e below s Q 0 0 (s₁.setTop (mkF m 4 #[.val (.int a)] [(.int (400 : Int32)), (.int a)]))
  have f2 := liI_400
  by_cases c3 : a.toInt < 400
  ·
    refine Go.st (fun _ k => XS.icmpNo X0.here hx rfl (hb hby d3_4) rfl (tlt (ltI rfl liI_400 c3)).2.1 k) ?_
    show Go p e below s Q 0 0 (s₁.setTop (mkF m 7 #[.val (.int a)] []))
    refine Go.st (fun _ k => XS.iconst X0.here hx rfl (hb hby d3_7) k) ?_
    show Go p e below s Q 0 0 (s₁.setTop (mkF m 8 #[.val (.int a)] [(.int (1 : Int32))]))
    refine Go.st (fun _ k => XS.goto X0.here hx rfl (pc0 := 8) (pc' := 12) rfl (hb hby d3_8) (by decide) (by decide) k) ?_
    show Go p e below s Q 0 0 (s₁.setTop (mkF m 12 #[.val (.int a)] [(.int (1 : Int32))]))
    have f4 := liI_1
    exact Go.retN X0 hx hlk (by simp) Bd.returns (hb hby d3_12) (z' := (1 : Int32)) (by decide) (by rw [← hQ, e0]; exact ⟨(1 : Int32), rfl, N0, (by omega), rfl⟩) (by decide) (by decide)
  ·
    refine Go.st (fun _ k => XS.icmpYes X0.here hx rfl (pc0 := 4) (pc' := 11) rfl (hb hby d3_4) rfl (flt (nltI rfl liI_400 c3)).2.1 (by decide) (by decide) k) ?_
    show Go p e below s Q 0 0 (s₁.setTop (mkF m 11 #[.val (.int a)] []))
    refine Go.st (fun _ k => XS.iconst X0.here hx rfl (hb hby d3_11) k) ?_
    show Go p e below s Q 0 0 (s₁.setTop (mkF m 12 #[.val (.int a)] [(.int (0 : Int32))]))
    have f5 := liI_0
    exact Go.retN X0 hx hlk (by simp) Bd.returns (hb hby d3_12) (z' := (0 : Int32)) (by decide) (by rw [← hQ, e0]; exact ⟨(0 : Int32), rfl, N0, (by omega), rfl⟩) (by decide) (by decide)
theorem pn_2 : plainName "com/example/graf/graf/flow/When" = true := by first | (simp [plainName, overriddenIn]; done) | decide +kernel
theorem d1_0 : decode prog_11_method_5_code 0 = .ok (.aload_n 0, 1) := by decide +kernel
theorem pd_0 : parseMethodDescriptor "()I" = some ⟨[], some .int⟩ := by decide +kernel
theorem d1_1 : decode prog_11_method_5_code 1 = .ok (.invokevirtual 55, 3) := by decide +kernel
theorem d1_4 : decode prog_11_method_5_code 4 = .ok (.tableswitch 28 0 2 #[38, 45, 60], 28) := by decide +kernel
theorem d1_42 : decode prog_11_method_5_code 42 = .ok (.iload_n 1, 1) := by decide +kernel
theorem pd_1 : parseMethodDescriptor "(I)Z" = some ⟨[.int], some .boolean⟩ := by decide +kernel
theorem d1_43 : decode prog_11_method_5_code 43 = .ok (.invokestatic 64, 3) := by decide +kernel
theorem d1_46 : decode prog_11_method_5_code 46 = .ok (.goto 19, 3) := by decide +kernel
theorem d1_65 : decode prog_11_method_5_code 65 = .ok (.ireturn, 1) := by decide +kernel
theorem ef_rmh0 (m : MethodId) (o : Addr) (st : Int32) : entryFrame m #[(.ref o), (.int st)] 2 = mkF m 0 #[.val (.ref o), .val (.int st)] [] := by first | (simp [entryFrame, mkF, argsToLocals, Value.category]; done) | rfl
def Qh0 (Z : State) (o : Addr) (st : Int32) (h0 : Heap) (n0 : Nat) (vv : Option Value) (h : Heap) (LL : List Loc) : Prop := ∃ (r : Int32), vv = some (.int r) ∧ Fr n0 LL ∧ ((st.toInt < 400 ∧ r.toInt = 1) ∨ (400 ≤ st.toInt ∧ r.toInt = 0)) ∧ h = h0
set_option maxRecDepth 65536 in
set_option maxHeartbeats 40000000 in
theorem rmh0 (l : Launch) (Z : State) (a0 : Array Value) (hw : ∀ d ∈ tables_1, d.before a0 Z = true) (ws : List Jvm.Cond) (o : Addr) (st : Int32) (h0 : Heap) (n0 : Nat) (Z0 : n0 ≤ h0.size) (hE : Exa Z h0 o "com/example/graf/graf/flow/When") (hF : Fld Z h0 o "java/lang/Enum" "ordinal" "I" (.int (0 : Int32))) :
    MetFree l (⟨"com/example/graf/graf/flow/When", "holds", "(I)Z"⟩ : MethodName) (head1 (Jvm.Cond.code (⟨"com/example/graf/graf/flow/When", "holds", "(I)Z"⟩ : MethodName) prog_11_method_5_code 2 (some .boolean) :: ws) ({ frames := 1, cells := 0, slots := 0, locals := 12 } : Room)) (fun aa UU => aa = #[(.ref o), (.int st)] ∧ Z.Warmed39 UU.vm ∧ UU.heap = h0) (fun _ _ _ _ _ => True) (fun _ UU oo UU' => ∃ vv LL, oo = .returned vv ∧ Qh0 Z o st h0 n0 vv UU'.heap LL ∧ FrameEnd UU oo UU' LL 0 0) := by
  refine MetFree.of_bodySF (plainFor_of_name pn_2) hisR ?_
  intro p e s m args below meth c s₁ Bd hml0 hP hK
  obtain ⟨rfl, hZ, hh⟩ := hP
  have hx := Bd.exec
  have hby := Bd.bytes
  have hlk : meth.locks = false := BodyLoose.notSynchronized Bd
  have hml : c.maxLocals = 2 := hml0
  have hown : s.vm.findClass "com/example/graf/graf/flow/When" = some m.cls := findClass_of_methodNamed Bd.named
  have hnm := (name_of_methodNamed Bd.named Bd.method).1
  have X0 : Stand p l e ({ frames := 1, cells := 0, slots := 0, locals := 12 } : Room) s m #[(.ref o), (.int st)] below meth c s₁ [] 0 0 := Stand.of_body Bd
  have e0 : s₁.heap = h0 := by rw [← hh, Bd.state]; rfl
  have N0 := Fr.nil n0
  have K0 : Keep h0 h0 [] := Keep.refl h0 _
  refine (?_ : Go p e below s (Qh0 Z o st h0 n0) 0 0 (s₁.setTop (entryFrame m #[(.ref o), (.int st)] 2)))
  rw [ef_rmh0]
  generalize hQ : Qh0 Z o st h0 n0 = Q
  show Go p e below s Q 0 0 (s₁.setTop (mkF m 0 #[.val (.ref o), .val (.int st)] []))
  have f1 := rng32 st
  refine Go.st (fun _ k => XS.aloadN X0.here hx rfl (hb hby d1_0) rfl rfl k) ?_
  show Go p e below s Q 0 0 (s₁.setTop (mkF m 1 #[.val (.ref o), .val (.int st)] [(.ref o)]))
  have f3 := liI_0
  obtain ⟨cq2, kq2, q2a, q2b, q2c⟩ := isOf hZ e0 hE
  obtain ⟨_, _, ⟨T2, L2, k2, n2⟩, -, X2, ⟨Lc2, hQ2, l2, y2, z2⟩, st2⟩ := X0.virtualBackUp hx (x := (⟨"com/example/graf/graf/flow/When", "ordinal", "()I"⟩ : MethodName)) (y := (⟨"java/lang/Enum", "ordinal", "()I"⟩ : MethodName)) hown (mvT hZ (hw _ (List.mem_of_getElem? (i := 8) rfl))) (mvT hZ (hw _ (List.mem_of_getElem? (i := 9) rfl))) (mvT hZ (hw _ (List.mem_of_getElem? (i := 10) rfl))) (by decide) (mvT hZ (hw _ (List.mem_of_getElem? (i := 12) rfl))) (mvT hZ (hw _ (List.mem_of_getElem? (i := 11) rfl))) (backOf (W := 0) (rm2 l Z a0 hw [] o (0 : Int32) h0 n0 (Nat.le_trans Z0 K0.1) hF) hZ (hw _ (List.mem_of_getElem? (i := 14) rfl)) (hw _ (List.mem_of_getElem? (i := 13) rfl)) (by decide) (by decide)) q2a q2c (g := (mkF m 1 #[.val (.ref o), .val (.int st)] [(.ref o)])) rfl (by rw [hml]; rfl) (Steps.refl _) (argsL := []) (rest := []) (lenOf pd_0 rfl) rfl (by show 2 * 0 + _ ≤ _; exact Nat.le_of_eq rfl) (hb hby d1_1) (fun _ _ => ⟨rfl, e0, (by decide : 0 + 0 ≤ _), (by decide : 0 + 0 ≤ _)⟩)
  dsimp only [Pt.U, Pt.locs, Pt.cells, Pt.slots] at X2 l2 y2 z2 st2 hQ2
  subst l2 y2 z2
  obtain ⟨rfl, N2q, e2⟩ := hQ2
  have N2 := Fr.app N0 N2q
  refine Go.tr  st2 ?_
  show Go p e below s Q 0 0 (T2.setTop (mkF m 4 #[.val (.ref o), .val (.int st)] [(.int (0 : Int32))]))
  refine Go.st (fun _ k => XS.tswIn X2.here hx rfl (pc0 := 4) (pc' := 42) rfl (hb hby d1_4) rfl (by decide) (o := 38) rfl (by decide) (by decide) k) ?_
  show Go p e below s Q 0 0 (T2.setTop (mkF m 42 #[.val (.ref o), .val (.int st)] []))
  refine Go.st (fun _ k => XS.iloadN X2.here hx rfl (hb hby d1_42) rfl k) ?_
  show Go p e below s Q 0 0 (T2.setTop (mkF m 43 #[.val (.ref o), .val (.int st)] [(.int st)]))
  obtain ⟨_, _, ⟨T4, L4, k4, n4⟩, -, X4, ⟨Lc4, hQ4, l4, y4, z4⟩, st4⟩ := Jvm.LawKit.callS X2 hx (y := (⟨"com/example/graf/graf/flow/Step", "isSuccess", "(I)Z"⟩ : MethodName)) hown (mvT hZ (hw _ (List.mem_of_getElem? (i := 17) rfl))) (mvT hZ (hw _ (List.mem_of_getElem? (i := 18) rfl))) (mvT hZ (hw _ (List.mem_of_getElem? (i := 19) rfl))) (mvT hZ (hw _ (List.mem_of_getElem? (i := 20) rfl))) (by decide) (backOf (W := 0) (rm3 l Z a0 hw [] st h0 n0 (Nat.le_trans Z0 K0.1) ) hZ (hw _ (List.mem_of_getElem? (i := 20) rfl)) (hw _ (List.mem_of_getElem? (i := 19) rfl)) (by decide) (by decide)) (g := (mkF m 43 #[.val (.ref o), .val (.int st)] [(.int st)])) rfl (by rw [hml]; rfl) (argsL := [(.int st)]) (rest := []) (lenOf pd_1 rfl) rfl (by show 2 * 0 + _ ≤ _; exact Nat.le_of_eq rfl) (hb hby d1_43) (fun _ _ => ⟨rfl, e2, (by decide : 0 + 0 ≤ _), (by decide : 0 + 0 ≤ _)⟩)
  dsimp only [Pt.U, Pt.locs, Pt.cells, Pt.slots] at X4 l4 y4 z4 st4 hQ4
  subst l4 y4 z4
  obtain ⟨r_5, rfl, N4q, f6, e4⟩ := hQ4
  have N4 := Fr.app N2 N4q
  refine Go.st st4 ?_
  show Go p e below s Q 0 0 (T4.setTop (mkF m 46 #[.val (.ref o), .val (.int st)] [(.int r_5)]))
  have f7 := rng32 r_5
  refine Go.st (fun _ k => XS.goto X4.here hx rfl (pc0 := 46) (pc' := 65) rfl (hb hby d1_46) (by decide) (by decide) k) ?_
  show Go p e below s Q 0 0 (T4.setTop (mkF m 65 #[.val (.ref o), .val (.int st)] [(.int r_5)]))
  exact Go.retN X4 hx hlk (by simp) Bd.returns (hb hby d1_65) (bool_nar (by omega)) (by rw [← hQ, e4]; exact ⟨r_5, rfl, N4, (by omega), rfl⟩) (by decide) (by decide)
theorem d1_49 : decode prog_11_method_5_code 49 = .ok (.iload_n 1, 1) := by decide +kernel
theorem d1_50 : decode prog_11_method_5_code 50 = .ok (.invokestatic 64, 3) := by decide +kernel
theorem d1_53 : decode prog_11_method_5_code 53 = .ok (.ifCond .ne 7, 3) := by decide +kernel
theorem d1_56 : decode prog_11_method_5_code 56 = .ok (.iconst 1, 1) := by decide +kernel
theorem d1_57 : decode prog_11_method_5_code 57 = .ok (.goto 8, 3) := by decide +kernel
theorem d1_60 : decode prog_11_method_5_code 60 = .ok (.iconst 0, 1) := by decide +kernel
theorem d1_61 : decode prog_11_method_5_code 61 = .ok (.goto 4, 3) := by decide +kernel
theorem ef_rmh1 (m : MethodId) (o : Addr) (st : Int32) : entryFrame m #[(.ref o), (.int st)] 2 = mkF m 0 #[.val (.ref o), .val (.int st)] [] := by first | (simp [entryFrame, mkF, argsToLocals, Value.category]; done) | rfl
def Qh1 (Z : State) (o : Addr) (st : Int32) (h0 : Heap) (n0 : Nat) (vv : Option Value) (h : Heap) (LL : List Loc) : Prop := ∃ (r : Int32), vv = some (.int r) ∧ Fr n0 LL ∧ ((st.toInt < 400 ∧ r.toInt = 0) ∨ (400 ≤ st.toInt ∧ r.toInt = 1)) ∧ h = h0
set_option maxRecDepth 65536 in
set_option maxHeartbeats 40000000 in
theorem rmh1 (l : Launch) (Z : State) (a0 : Array Value) (hw : ∀ d ∈ tables_1, d.before a0 Z = true) (ws : List Jvm.Cond) (o : Addr) (st : Int32) (h0 : Heap) (n0 : Nat) (Z0 : n0 ≤ h0.size) (hE : Exa Z h0 o "com/example/graf/graf/flow/When") (hF : Fld Z h0 o "java/lang/Enum" "ordinal" "I" (.int (1 : Int32))) :
    MetFree l (⟨"com/example/graf/graf/flow/When", "holds", "(I)Z"⟩ : MethodName) (head1 (Jvm.Cond.code (⟨"com/example/graf/graf/flow/When", "holds", "(I)Z"⟩ : MethodName) prog_11_method_5_code 2 (some .boolean) :: ws) ({ frames := 1, cells := 0, slots := 0, locals := 12 } : Room)) (fun aa UU => aa = #[(.ref o), (.int st)] ∧ Z.Warmed39 UU.vm ∧ UU.heap = h0) (fun _ _ _ _ _ => True) (fun _ UU oo UU' => ∃ vv LL, oo = .returned vv ∧ Qh1 Z o st h0 n0 vv UU'.heap LL ∧ FrameEnd UU oo UU' LL 0 0) := by
  refine MetFree.of_bodySF (plainFor_of_name pn_2) hisR ?_
  intro p e s m args below meth c s₁ Bd hml0 hP hK
  obtain ⟨rfl, hZ, hh⟩ := hP
  have hx := Bd.exec
  have hby := Bd.bytes
  have hlk : meth.locks = false := BodyLoose.notSynchronized Bd
  have hml : c.maxLocals = 2 := hml0
  have hown : s.vm.findClass "com/example/graf/graf/flow/When" = some m.cls := findClass_of_methodNamed Bd.named
  have hnm := (name_of_methodNamed Bd.named Bd.method).1
  have X0 : Stand p l e ({ frames := 1, cells := 0, slots := 0, locals := 12 } : Room) s m #[(.ref o), (.int st)] below meth c s₁ [] 0 0 := Stand.of_body Bd
  have e0 : s₁.heap = h0 := by rw [← hh, Bd.state]; rfl
  have N0 := Fr.nil n0
  have K0 : Keep h0 h0 [] := Keep.refl h0 _
  refine (?_ : Go p e below s (Qh1 Z o st h0 n0) 0 0 (s₁.setTop (entryFrame m #[(.ref o), (.int st)] 2)))
  rw [ef_rmh1]
  generalize hQ : Qh1 Z o st h0 n0 = Q
  show Go p e below s Q 0 0 (s₁.setTop (mkF m 0 #[.val (.ref o), .val (.int st)] []))
  have f1 := rng32 st
  refine Go.st (fun _ k => XS.aloadN X0.here hx rfl (hb hby d1_0) rfl rfl k) ?_
  show Go p e below s Q 0 0 (s₁.setTop (mkF m 1 #[.val (.ref o), .val (.int st)] [(.ref o)]))
  have f3 := liI_1
  obtain ⟨cq2, kq2, q2a, q2b, q2c⟩ := isOf hZ e0 hE
  obtain ⟨_, _, ⟨T2, L2, k2, n2⟩, -, X2, ⟨Lc2, hQ2, l2, y2, z2⟩, st2⟩ := X0.virtualBackUp hx (x := (⟨"com/example/graf/graf/flow/When", "ordinal", "()I"⟩ : MethodName)) (y := (⟨"java/lang/Enum", "ordinal", "()I"⟩ : MethodName)) hown (mvT hZ (hw _ (List.mem_of_getElem? (i := 8) rfl))) (mvT hZ (hw _ (List.mem_of_getElem? (i := 9) rfl))) (mvT hZ (hw _ (List.mem_of_getElem? (i := 10) rfl))) (by decide) (mvT hZ (hw _ (List.mem_of_getElem? (i := 12) rfl))) (mvT hZ (hw _ (List.mem_of_getElem? (i := 11) rfl))) (backOf (W := 0) (rm2 l Z a0 hw [] o (1 : Int32) h0 n0 (Nat.le_trans Z0 K0.1) hF) hZ (hw _ (List.mem_of_getElem? (i := 14) rfl)) (hw _ (List.mem_of_getElem? (i := 13) rfl)) (by decide) (by decide)) q2a q2c (g := (mkF m 1 #[.val (.ref o), .val (.int st)] [(.ref o)])) rfl (by rw [hml]; rfl) (Steps.refl _) (argsL := []) (rest := []) (lenOf pd_0 rfl) rfl (by show 2 * 0 + _ ≤ _; exact Nat.le_of_eq rfl) (hb hby d1_1) (fun _ _ => ⟨rfl, e0, (by decide : 0 + 0 ≤ _), (by decide : 0 + 0 ≤ _)⟩)
  dsimp only [Pt.U, Pt.locs, Pt.cells, Pt.slots] at X2 l2 y2 z2 st2 hQ2
  subst l2 y2 z2
  obtain ⟨rfl, N2q, e2⟩ := hQ2
  have N2 := Fr.app N0 N2q
  refine Go.tr  st2 ?_
  show Go p e below s Q 0 0 (T2.setTop (mkF m 4 #[.val (.ref o), .val (.int st)] [(.int (1 : Int32))]))
  refine Go.st (fun _ k => XS.tswIn X2.here hx rfl (pc0 := 4) (pc' := 49) rfl (hb hby d1_4) rfl (by decide) (o := 45) rfl (by decide) (by decide) k) ?_
  show Go p e below s Q 0 0 (T2.setTop (mkF m 49 #[.val (.ref o), .val (.int st)] []))
  refine Go.st (fun _ k => XS.iloadN X2.here hx rfl (hb hby d1_49) rfl k) ?_
  show Go p e below s Q 0 0 (T2.setTop (mkF m 50 #[.val (.ref o), .val (.int st)] [(.int st)]))
  obtain ⟨_, _, ⟨T4, L4, k4, n4⟩, -, X4, ⟨Lc4, hQ4, l4, y4, z4⟩, st4⟩ := Jvm.LawKit.callS X2 hx (y := (⟨"com/example/graf/graf/flow/Step", "isSuccess", "(I)Z"⟩ : MethodName)) hown (mvT hZ (hw _ (List.mem_of_getElem? (i := 17) rfl))) (mvT hZ (hw _ (List.mem_of_getElem? (i := 18) rfl))) (mvT hZ (hw _ (List.mem_of_getElem? (i := 19) rfl))) (mvT hZ (hw _ (List.mem_of_getElem? (i := 20) rfl))) (by decide) (backOf (W := 0) (rm3 l Z a0 hw [] st h0 n0 (Nat.le_trans Z0 K0.1) ) hZ (hw _ (List.mem_of_getElem? (i := 20) rfl)) (hw _ (List.mem_of_getElem? (i := 19) rfl)) (by decide) (by decide)) (g := (mkF m 50 #[.val (.ref o), .val (.int st)] [(.int st)])) rfl (by rw [hml]; rfl) (argsL := [(.int st)]) (rest := []) (lenOf pd_1 rfl) rfl (by show 2 * 0 + _ ≤ _; exact Nat.le_of_eq rfl) (hb hby d1_50) (fun _ _ => ⟨rfl, e2, (by decide : 0 + 0 ≤ _), (by decide : 0 + 0 ≤ _)⟩)
  dsimp only [Pt.U, Pt.locs, Pt.cells, Pt.slots] at X4 l4 y4 z4 st4 hQ4
  subst l4 y4 z4
  obtain ⟨r_5, rfl, N4q, f6, e4⟩ := hQ4
  have N4 := Fr.app N2 N4q
  refine Go.st st4 ?_
  show Go p e below s Q 0 0 (T4.setTop (mkF m 53 #[.val (.ref o), .val (.int st)] [(.int r_5)]))
  have f7 := rng32 r_5
  have f8 := liI_0
  by_cases c9 : r_5.toInt = 0
  ·
    refine Go.st (fun _ k => XS.ifNo X4.here hx rfl (hb hby d1_53) rfl ((if0 _ _).trans (teq (eqI rfl liI_0 c9)).2) k) ?_
    show Go p e below s Q 0 0 (T4.setTop (mkF m 56 #[.val (.ref o), .val (.int st)] []))
    refine Go.st (fun _ k => XS.iconst X4.here hx rfl (hb hby d1_56) k) ?_
    show Go p e below s Q 0 0 (T4.setTop (mkF m 57 #[.val (.ref o), .val (.int st)] [(.int (1 : Int32))]))
    refine Go.st (fun _ k => XS.goto X4.here hx rfl (pc0 := 57) (pc' := 65) rfl (hb hby d1_57) (by decide) (by decide) k) ?_
    show Go p e below s Q 0 0 (T4.setTop (mkF m 65 #[.val (.ref o), .val (.int st)] [(.int (1 : Int32))]))
    exact Go.retN X4 hx hlk (by simp) Bd.returns (hb hby d1_65) (z' := (1 : Int32)) (by decide) (by rw [← hQ, e4]; exact ⟨(1 : Int32), rfl, N4, (by omega), rfl⟩) (by decide) (by decide)
  ·
    refine Go.st (fun _ k => XS.ifYes X4.here hx rfl (pc0 := 53) (pc' := 60) rfl (hb hby d1_53) rfl ((if0 _ _).trans (feq (neI rfl liI_0 c9)).2) (by decide) (by decide) k) ?_
    show Go p e below s Q 0 0 (T4.setTop (mkF m 60 #[.val (.ref o), .val (.int st)] []))
    refine Go.st (fun _ k => XS.iconst X4.here hx rfl (hb hby d1_60) k) ?_
    show Go p e below s Q 0 0 (T4.setTop (mkF m 61 #[.val (.ref o), .val (.int st)] [(.int (0 : Int32))]))
    refine Go.st (fun _ k => XS.goto X4.here hx rfl (pc0 := 61) (pc' := 65) rfl (hb hby d1_61) (by decide) (by decide) k) ?_
    show Go p e below s Q 0 0 (T4.setTop (mkF m 65 #[.val (.ref o), .val (.int st)] [(.int (0 : Int32))]))
    exact Go.retN X4 hx hlk (by simp) Bd.returns (hb hby d1_65) (z' := (0 : Int32)) (by decide) (by rw [← hQ, e4]; exact ⟨(0 : Int32), rfl, N4, (by omega), rfl⟩) (by decide) (by decide)
theorem liI_2 : (2 : Int32).toInt = 2 := by decide
theorem d1_64 : decode prog_11_method_5_code 64 = .ok (.iconst 1, 1) := by decide +kernel
theorem ef_rmh2 (m : MethodId) (o : Addr) (st : Int32) : entryFrame m #[(.ref o), (.int st)] 2 = mkF m 0 #[.val (.ref o), .val (.int st)] [] := by first | (simp [entryFrame, mkF, argsToLocals, Value.category]; done) | rfl
def Qh2 (Z : State) (o : Addr) (st : Int32) (h0 : Heap) (n0 : Nat) (vv : Option Value) (h : Heap) (LL : List Loc) : Prop := ∃ (r : Int32), vv = some (.int r) ∧ Fr n0 LL ∧ (r.toInt = 1) ∧ h = h0
set_option maxRecDepth 65536 in
set_option maxHeartbeats 40000000 in
theorem rmh2 (l : Launch) (Z : State) (a0 : Array Value) (hw : ∀ d ∈ tables_1, d.before a0 Z = true) (ws : List Jvm.Cond) (o : Addr) (st : Int32) (h0 : Heap) (n0 : Nat) (Z0 : n0 ≤ h0.size) (hE : Exa Z h0 o "com/example/graf/graf/flow/When") (hF : Fld Z h0 o "java/lang/Enum" "ordinal" "I" (.int (2 : Int32))) :
    MetFree l (⟨"com/example/graf/graf/flow/When", "holds", "(I)Z"⟩ : MethodName) (head1 (Jvm.Cond.code (⟨"com/example/graf/graf/flow/When", "holds", "(I)Z"⟩ : MethodName) prog_11_method_5_code 2 (some .boolean) :: ws) ({ frames := 1, cells := 0, slots := 0, locals := 12 } : Room)) (fun aa UU => aa = #[(.ref o), (.int st)] ∧ Z.Warmed39 UU.vm ∧ UU.heap = h0) (fun _ _ _ _ _ => True) (fun _ UU oo UU' => ∃ vv LL, oo = .returned vv ∧ Qh2 Z o st h0 n0 vv UU'.heap LL ∧ FrameEnd UU oo UU' LL 0 0) := by
  refine MetFree.of_bodySF (plainFor_of_name pn_2) hisR ?_
  intro p e s m args below meth c s₁ Bd hml0 hP hK
  obtain ⟨rfl, hZ, hh⟩ := hP
  have hx := Bd.exec
  have hby := Bd.bytes
  have hlk : meth.locks = false := BodyLoose.notSynchronized Bd
  have hml : c.maxLocals = 2 := hml0
  have hown : s.vm.findClass "com/example/graf/graf/flow/When" = some m.cls := findClass_of_methodNamed Bd.named
  have hnm := (name_of_methodNamed Bd.named Bd.method).1
  have X0 : Stand p l e ({ frames := 1, cells := 0, slots := 0, locals := 12 } : Room) s m #[(.ref o), (.int st)] below meth c s₁ [] 0 0 := Stand.of_body Bd
  have e0 : s₁.heap = h0 := by rw [← hh, Bd.state]; rfl
  have N0 := Fr.nil n0
  have K0 : Keep h0 h0 [] := Keep.refl h0 _
  refine (?_ : Go p e below s (Qh2 Z o st h0 n0) 0 0 (s₁.setTop (entryFrame m #[(.ref o), (.int st)] 2)))
  rw [ef_rmh2]
  generalize hQ : Qh2 Z o st h0 n0 = Q
  show Go p e below s Q 0 0 (s₁.setTop (mkF m 0 #[.val (.ref o), .val (.int st)] []))
  have f1 := rng32 st
  refine Go.st (fun _ k => XS.aloadN X0.here hx rfl (hb hby d1_0) rfl rfl k) ?_
  show Go p e below s Q 0 0 (s₁.setTop (mkF m 1 #[.val (.ref o), .val (.int st)] [(.ref o)]))
  have f3 := liI_2
  obtain ⟨cq2, kq2, q2a, q2b, q2c⟩ := isOf hZ e0 hE
  obtain ⟨_, _, ⟨T2, L2, k2, n2⟩, -, X2, ⟨Lc2, hQ2, l2, y2, z2⟩, st2⟩ := X0.virtualBackUp hx (x := (⟨"com/example/graf/graf/flow/When", "ordinal", "()I"⟩ : MethodName)) (y := (⟨"java/lang/Enum", "ordinal", "()I"⟩ : MethodName)) hown (mvT hZ (hw _ (List.mem_of_getElem? (i := 8) rfl))) (mvT hZ (hw _ (List.mem_of_getElem? (i := 9) rfl))) (mvT hZ (hw _ (List.mem_of_getElem? (i := 10) rfl))) (by decide) (mvT hZ (hw _ (List.mem_of_getElem? (i := 12) rfl))) (mvT hZ (hw _ (List.mem_of_getElem? (i := 11) rfl))) (backOf (W := 0) (rm2 l Z a0 hw [] o (2 : Int32) h0 n0 (Nat.le_trans Z0 K0.1) hF) hZ (hw _ (List.mem_of_getElem? (i := 14) rfl)) (hw _ (List.mem_of_getElem? (i := 13) rfl)) (by decide) (by decide)) q2a q2c (g := (mkF m 1 #[.val (.ref o), .val (.int st)] [(.ref o)])) rfl (by rw [hml]; rfl) (Steps.refl _) (argsL := []) (rest := []) (lenOf pd_0 rfl) rfl (by show 2 * 0 + _ ≤ _; exact Nat.le_of_eq rfl) (hb hby d1_1) (fun _ _ => ⟨rfl, e0, (by decide : 0 + 0 ≤ _), (by decide : 0 + 0 ≤ _)⟩)
  dsimp only [Pt.U, Pt.locs, Pt.cells, Pt.slots] at X2 l2 y2 z2 st2 hQ2
  subst l2 y2 z2
  obtain ⟨rfl, N2q, e2⟩ := hQ2
  have N2 := Fr.app N0 N2q
  refine Go.tr  st2 ?_
  show Go p e below s Q 0 0 (T2.setTop (mkF m 4 #[.val (.ref o), .val (.int st)] [(.int (2 : Int32))]))
  refine Go.st (fun _ k => XS.tswIn X2.here hx rfl (pc0 := 4) (pc' := 64) rfl (hb hby d1_4) rfl (by decide) (o := 60) rfl (by decide) (by decide) k) ?_
  show Go p e below s Q 0 0 (T2.setTop (mkF m 64 #[.val (.ref o), .val (.int st)] []))
  refine Go.st (fun _ k => XS.iconst X2.here hx rfl (hb hby d1_64) k) ?_
  show Go p e below s Q 0 0 (T2.setTop (mkF m 65 #[.val (.ref o), .val (.int st)] [(.int (1 : Int32))]))
  have f4 := liI_1
  exact Go.retN X2 hx hlk (by simp) Bd.returns (hb hby d1_65) (z' := (1 : Int32)) (by decide) (by rw [← hQ, e2]; exact ⟨(1 : Int32), rfl, N2, (by omega), rfl⟩) (by decide) (by decide)
theorem pn_3 : plainName "com/example/graf/graf/flow/WhenHoldsPinLaw" = true := by first | (simp [plainName, overriddenIn]; done) | decide +kernel
theorem ef_rm0 (m : MethodId) (st : Int32) : entryFrame m #[(.int st)] maxLocals = mkF m 0 #[.val (.int st), .unset, .unset, .unset, .unset] [] := by first | (simp [entryFrame, mkF, argsToLocals, Value.category, maxLocals]; done) | rfl
def Q0 (Z : State) (st : Int32) (aSUCCESS : Addr) (aFAILURE : Addr) (aANY : Addr) (h0 : Heap) (n0 : Nat) (vv : Option Value) (h : Heap) (LL : List Loc) : Prop := vv = some (.int (1 : Int32)) ∧ Fr n0 LL ∧ h = h0
set_option maxRecDepth 65536 in
set_option maxHeartbeats 40000000 in
theorem rm0 (l : Launch) (Z : State) (a0 : Array Value) (hw : ∀ d ∈ tables_1, d.before a0 Z = true) (ws : List Jvm.Cond) (st : Int32) (aSUCCESS : Addr) (aFAILURE : Addr) (aANY : Addr) (h0 : Heap) (n0 : Nat) (Z0 : n0 ≤ h0.size) (S_aSUCCESS : Sta Z h0 "com/example/graf/graf/flow/When" "SUCCESS" "Lcom/example/graf/graf/flow/When;" (.ref aSUCCESS)) (E_aSUCCESS : Exa Z h0 aSUCCESS "com/example/graf/graf/flow/When") (F_aSUCCESS_ordinal : Fld Z h0 aSUCCESS "java/lang/Enum" "ordinal" "I" (.int (0 : Int32))) (S_aFAILURE : Sta Z h0 "com/example/graf/graf/flow/When" "FAILURE" "Lcom/example/graf/graf/flow/When;" (.ref aFAILURE)) (E_aFAILURE : Exa Z h0 aFAILURE "com/example/graf/graf/flow/When") (F_aFAILURE_ordinal : Fld Z h0 aFAILURE "java/lang/Enum" "ordinal" "I" (.int (1 : Int32))) (S_aANY : Sta Z h0 "com/example/graf/graf/flow/When" "ANY" "Lcom/example/graf/graf/flow/When;" (.ref aANY)) (E_aANY : Exa Z h0 aANY "com/example/graf/graf/flow/When") (F_aANY_ordinal : Fld Z h0 aANY "java/lang/Enum" "ordinal" "I" (.int (2 : Int32))) (ne_aSUCCESS_aFAILURE : aSUCCESS ≠ aFAILURE) (ne_aSUCCESS_aANY : aSUCCESS ≠ aANY) (ne_aFAILURE_aANY : aFAILURE ≠ aANY) :
    MetFree l x (head1 (Jvm.Cond.code x code maxLocals ret :: ws) room_1) (fun aa UU => aa = #[(.int st)] ∧ Z.Warmed39 UU.vm ∧ UU.heap = h0) (fun _ _ _ _ _ => True) (fun _ UU oo UU' => ∃ vv LL, oo = .returned vv ∧ Q0 Z st aSUCCESS aFAILURE aANY h0 n0 vv UU'.heap LL ∧ FrameEnd UU oo UU' LL 0 0) := by
  refine MetFree.of_bodySF (plainFor_of_name pn_3) hisR ?_
  intro p e s m args below meth c s₁ Bd hml0 hP hK
  obtain ⟨rfl, hZ, hh⟩ := hP
  have hx := Bd.exec
  have hby := Bd.bytes
  have hlk : meth.locks = false := BodyLoose.notSynchronized Bd
  have hml : c.maxLocals = 5 := hml0
  have hown : s.vm.findClass "com/example/graf/graf/flow/WhenHoldsPinLaw" = some m.cls := findClass_of_methodNamed Bd.named
  have hnm := (name_of_methodNamed Bd.named Bd.method).1
  have X0 : Stand p l e room_1 s m #[(.int st)] below meth c s₁ [] 0 0 := Stand.of_body Bd
  have e0 : s₁.heap = h0 := by rw [← hh, Bd.state]; rfl
  have N0 := Fr.nil n0
  have K0 : Keep h0 h0 [] := Keep.refl h0 _
  refine (?_ : Go p e below s (Q0 Z st aSUCCESS aFAILURE aANY h0 n0) 0 0 (s₁.setTop (entryFrame m #[(.int st)] maxLocals)))
  rw [ef_rm0]
  generalize hQ : Q0 Z st aSUCCESS aFAILURE aANY h0 n0 = Q
  show Go p e below s Q 0 0 (s₁.setTop (mkF m 0 #[.val (.int st), .unset, .unset, .unset, .unset] []))
  have f1 := rng32 st
  refine Go.st (fun _ k => XS.iloadN X0.here hx rfl (hb hby at_0) rfl k) ?_
  show Go p e below s Q 0 0 (s₁.setTop (mkF m 1 #[.val (.int st), .unset, .unset, .unset, .unset] [(.int st)]))
  refine Go.st (fun _ k => XS.sipush X0.here hx rfl (hb hby at_1) k) ?_
  show Go p e below s Q 0 0 (s₁.setTop (mkF m 4 #[.val (.int st), .unset, .unset, .unset, .unset] [(.int (400 : Int32)), (.int st)]))
  have f2 := liI_400
  by_cases c3 : st.toInt < 400
  ·
    refine Go.st (fun _ k => XS.icmpNo X0.here hx rfl (hb hby at_4) rfl (tlt (ltI rfl liI_400 c3)).2.1 k) ?_
    show Go p e below s Q 0 0 (s₁.setTop (mkF m 7 #[.val (.int st), .unset, .unset, .unset, .unset] []))
    refine Go.st (fun _ k => XS.iconst X0.here hx rfl (hb hby at_7) k) ?_
    show Go p e below s Q 0 0 (s₁.setTop (mkF m 8 #[.val (.int st), .unset, .unset, .unset, .unset] [(.int (1 : Int32))]))
    refine Go.st (fun _ k => XS.goto X0.here hx rfl (pc0 := 8) (pc' := 12) rfl (hb hby at_8) (by decide) (by decide) k) ?_
    show Go p e below s Q 0 0 (s₁.setTop (mkF m 12 #[.val (.int st), .unset, .unset, .unset, .unset] [(.int (1 : Int32))]))
    refine Go.st (fun _ k => XS.istoreN X0.here hx rfl (hb hby at_12) rfl (l' := #[.val (.int st), .val (.int (1 : Int32)), .unset, .unset, .unset]) rfl k) ?_
    show Go p e below s Q 0 0 (s₁.setTop (mkF m 13 #[.val (.int st), .val (.int (1 : Int32)), .unset, .unset, .unset] []))
    obtain ⟨T4, X4, e4, st4⟩ := getS2 X0 hx hZ hown (host := "") (Or.inl (hw _ (List.mem_of_getElem? (i := 0) rfl))) Via.refl e0 S_aSUCCESS (g := (mkF m 13 #[.val (.int st), .val (.int (1 : Int32)), .unset, .unset, .unset] [])) rfl (hb hby at_13)
    refine Go.st st4 ?_
    show Go p e below s Q 0 0 (T4.setTop (mkF m 16 #[.val (.int st), .val (.int (1 : Int32)), .unset, .unset, .unset] [(.ref aSUCCESS)]))
    refine Go.st (fun _ k => XS.iloadN X4.here hx rfl (hb hby at_16) rfl k) ?_
    show Go p e below s Q 0 0 (T4.setTop (mkF m 17 #[.val (.int st), .val (.int (1 : Int32)), .unset, .unset, .unset] [(.int st), (.ref aSUCCESS)]))
    obtain ⟨cq5, kq5, q5a, q5b, q5c⟩ := isOf hZ e4 E_aSUCCESS
    obtain ⟨_, _, ⟨T5, L5, k5, n5⟩, -, X5, ⟨Lc5, hQ5, l5, y5, z5⟩, st5⟩ := X4.virtualBack hx (y := (⟨"com/example/graf/graf/flow/When", "holds", "(I)Z"⟩ : MethodName)) (z := (⟨"com/example/graf/graf/flow/When", "holds", "(I)Z"⟩ : MethodName)) hown (mvT hZ (hw _ (List.mem_of_getElem? (i := 3) rfl))) (mvT hZ (hw _ (List.mem_of_getElem? (i := 4) rfl))) (notFace_of_selects (args := #[]) (mvT hZ (hw _ (List.mem_of_getElem? (i := 6) rfl)))) (mvT hZ (hw _ (List.mem_of_getElem? (i := 6) rfl))) (mvT hZ (hw _ (List.mem_of_getElem? (i := 5) rfl))) (by decide) (backOf (W := 0) (rmh0 l Z a0 hw [] aSUCCESS st h0 n0 (Nat.le_trans Z0 K0.1) E_aSUCCESS F_aSUCCESS_ordinal) hZ (hw _ (List.mem_of_getElem? (i := 7) rfl)) (hw _ (List.mem_of_getElem? (i := 1) rfl)) (by decide) (by decide)) q5a q5c (g := (mkF m 17 #[.val (.int st), .val (.int (1 : Int32)), .unset, .unset, .unset] [(.int st), (.ref aSUCCESS)])) rfl (by rw [hml]; rfl) (Steps.refl _) (argsL := [(.int st)]) (rest := []) (lenOf pd_1 rfl) rfl (by show 2 * 0 + _ ≤ _; exact Nat.le_of_eq rfl) (hb hby at_17) (fun _ _ => ⟨rfl, e4, (by decide : 0 + 0 ≤ _), (by decide : 0 + 0 ≤ _)⟩)
    dsimp only [Pt.U, Pt.locs, Pt.cells, Pt.slots] at X5 l5 y5 z5 st5 hQ5
    subst l5 y5 z5
    obtain ⟨r_6, rfl, N5q, f7, e5⟩ := hQ5
    have N5 := Fr.app N0 N5q
    refine Go.tr  st5 ?_
    show Go p e below s Q 0 0 (T5.setTop (mkF m 20 #[.val (.int st), .val (.int (1 : Int32)), .unset, .unset, .unset] [(.int r_6)]))
    have f8 := rng32 r_6
    refine Go.st (fun _ k => XS.istoreN X5.here hx rfl (hb hby at_20) rfl (l' := #[.val (.int st), .val (.int (1 : Int32)), .val (.int r_6), .unset, .unset]) rfl k) ?_
    show Go p e below s Q 0 0 (T5.setTop (mkF m 21 #[.val (.int st), .val (.int (1 : Int32)), .val (.int r_6), .unset, .unset] []))
    obtain ⟨T9, X9, e9, st9⟩ := getS2 X5 hx hZ hown (host := "") (Or.inl (hw _ (List.mem_of_getElem? (i := 21) rfl))) Via.refl e5 S_aFAILURE (g := (mkF m 21 #[.val (.int st), .val (.int (1 : Int32)), .val (.int r_6), .unset, .unset] [])) rfl (hb hby at_21)
    refine Go.st st9 ?_
    show Go p e below s Q 0 0 (T9.setTop (mkF m 24 #[.val (.int st), .val (.int (1 : Int32)), .val (.int r_6), .unset, .unset] [(.ref aFAILURE)]))
    refine Go.st (fun _ k => XS.iloadN X9.here hx rfl (hb hby at_24) rfl k) ?_
    show Go p e below s Q 0 0 (T9.setTop (mkF m 25 #[.val (.int st), .val (.int (1 : Int32)), .val (.int r_6), .unset, .unset] [(.int st), (.ref aFAILURE)]))
    obtain ⟨cq10, kq10, q10a, q10b, q10c⟩ := isOf hZ e9 E_aFAILURE
    obtain ⟨_, _, ⟨T10, L10, k10, n10⟩, -, X10, ⟨Lc10, hQ10, l10, y10, z10⟩, st10⟩ := X9.virtualBack hx (y := (⟨"com/example/graf/graf/flow/When", "holds", "(I)Z"⟩ : MethodName)) (z := (⟨"com/example/graf/graf/flow/When", "holds", "(I)Z"⟩ : MethodName)) hown (mvT hZ (hw _ (List.mem_of_getElem? (i := 3) rfl))) (mvT hZ (hw _ (List.mem_of_getElem? (i := 4) rfl))) (notFace_of_selects (args := #[]) (mvT hZ (hw _ (List.mem_of_getElem? (i := 6) rfl)))) (mvT hZ (hw _ (List.mem_of_getElem? (i := 6) rfl))) (mvT hZ (hw _ (List.mem_of_getElem? (i := 5) rfl))) (by decide) (backOf (W := 0) (rmh1 l Z a0 hw [] aFAILURE st h0 n0 (Nat.le_trans Z0 K0.1) E_aFAILURE F_aFAILURE_ordinal) hZ (hw _ (List.mem_of_getElem? (i := 7) rfl)) (hw _ (List.mem_of_getElem? (i := 1) rfl)) (by decide) (by decide)) q10a q10c (g := (mkF m 25 #[.val (.int st), .val (.int (1 : Int32)), .val (.int r_6), .unset, .unset] [(.int st), (.ref aFAILURE)])) rfl (by rw [hml]; rfl) (Steps.refl _) (argsL := [(.int st)]) (rest := []) (lenOf pd_1 rfl) rfl (by show 2 * 0 + _ ≤ _; exact Nat.le_of_eq rfl) (hb hby at_25) (fun _ _ => ⟨rfl, e9, (by decide : 0 + 0 ≤ _), (by decide : 0 + 0 ≤ _)⟩)
    dsimp only [Pt.U, Pt.locs, Pt.cells, Pt.slots] at X10 l10 y10 z10 st10 hQ10
    subst l10 y10 z10
    obtain ⟨r_11, rfl, N10q, f12, e10⟩ := hQ10
    have N10 := Fr.app N5 N10q
    refine Go.tr  st10 ?_
    show Go p e below s Q 0 0 (T10.setTop (mkF m 28 #[.val (.int st), .val (.int (1 : Int32)), .val (.int r_6), .unset, .unset] [(.int r_11)]))
    have f13 := rng32 r_11
    refine Go.st (fun _ k => XS.istoreN X10.here hx rfl (hb hby at_28) rfl (l' := #[.val (.int st), .val (.int (1 : Int32)), .val (.int r_6), .val (.int r_11), .unset]) rfl k) ?_
    show Go p e below s Q 0 0 (T10.setTop (mkF m 29 #[.val (.int st), .val (.int (1 : Int32)), .val (.int r_6), .val (.int r_11), .unset] []))
    obtain ⟨T14, X14, e14, st14⟩ := getS2 X10 hx hZ hown (host := "") (Or.inl (hw _ (List.mem_of_getElem? (i := 23) rfl))) Via.refl e10 S_aANY (g := (mkF m 29 #[.val (.int st), .val (.int (1 : Int32)), .val (.int r_6), .val (.int r_11), .unset] [])) rfl (hb hby at_29)
    refine Go.st st14 ?_
    show Go p e below s Q 0 0 (T14.setTop (mkF m 32 #[.val (.int st), .val (.int (1 : Int32)), .val (.int r_6), .val (.int r_11), .unset] [(.ref aANY)]))
    refine Go.st (fun _ k => XS.iloadN X14.here hx rfl (hb hby at_32) rfl k) ?_
    show Go p e below s Q 0 0 (T14.setTop (mkF m 33 #[.val (.int st), .val (.int (1 : Int32)), .val (.int r_6), .val (.int r_11), .unset] [(.int st), (.ref aANY)]))
    obtain ⟨cq15, kq15, q15a, q15b, q15c⟩ := isOf hZ e14 E_aANY
    obtain ⟨_, _, ⟨T15, L15, k15, n15⟩, -, X15, ⟨Lc15, hQ15, l15, y15, z15⟩, st15⟩ := X14.virtualBack hx (y := (⟨"com/example/graf/graf/flow/When", "holds", "(I)Z"⟩ : MethodName)) (z := (⟨"com/example/graf/graf/flow/When", "holds", "(I)Z"⟩ : MethodName)) hown (mvT hZ (hw _ (List.mem_of_getElem? (i := 3) rfl))) (mvT hZ (hw _ (List.mem_of_getElem? (i := 4) rfl))) (notFace_of_selects (args := #[]) (mvT hZ (hw _ (List.mem_of_getElem? (i := 6) rfl)))) (mvT hZ (hw _ (List.mem_of_getElem? (i := 6) rfl))) (mvT hZ (hw _ (List.mem_of_getElem? (i := 5) rfl))) (by decide) (backOf (W := 0) (rmh2 l Z a0 hw [] aANY st h0 n0 (Nat.le_trans Z0 K0.1) E_aANY F_aANY_ordinal) hZ (hw _ (List.mem_of_getElem? (i := 7) rfl)) (hw _ (List.mem_of_getElem? (i := 1) rfl)) (by decide) (by decide)) q15a q15c (g := (mkF m 33 #[.val (.int st), .val (.int (1 : Int32)), .val (.int r_6), .val (.int r_11), .unset] [(.int st), (.ref aANY)])) rfl (by rw [hml]; rfl) (Steps.refl _) (argsL := [(.int st)]) (rest := []) (lenOf pd_1 rfl) rfl (by show 2 * 0 + _ ≤ _; exact Nat.le_of_eq rfl) (hb hby at_33) (fun _ _ => ⟨rfl, e14, (by decide : 0 + 0 ≤ _), (by decide : 0 + 0 ≤ _)⟩)
    dsimp only [Pt.U, Pt.locs, Pt.cells, Pt.slots] at X15 l15 y15 z15 st15 hQ15
    subst l15 y15 z15
    obtain ⟨r_16, rfl, N15q, f17, e15⟩ := hQ15
    have N15 := Fr.app N10 N15q
    refine Go.tr  st15 ?_
    show Go p e below s Q 0 0 (T15.setTop (mkF m 36 #[.val (.int st), .val (.int (1 : Int32)), .val (.int r_6), .val (.int r_11), .unset] [(.int r_16)]))
    have f18 := rng32 r_16
    refine Go.st (fun _ k => XS.istore X15.here hx rfl (hb hby at_36) rfl (l' := #[.val (.int st), .val (.int (1 : Int32)), .val (.int r_6), .val (.int r_11), .val (.int r_16)]) rfl k) ?_
    show Go p e below s Q 0 0 (T15.setTop (mkF m 38 #[.val (.int st), .val (.int (1 : Int32)), .val (.int r_6), .val (.int r_11), .val (.int r_16)] []))
    refine Go.st (fun _ k => XS.iloadN X15.here hx rfl (hb hby at_38) rfl k) ?_
    show Go p e below s Q 0 0 (T15.setTop (mkF m 39 #[.val (.int st), .val (.int (1 : Int32)), .val (.int r_6), .val (.int r_11), .val (.int r_16)] [(.int r_6)]))
    refine Go.st (fun _ k => XS.iloadN X15.here hx rfl (hb hby at_39) rfl k) ?_
    show Go p e below s Q 0 0 (T15.setTop (mkF m 40 #[.val (.int st), .val (.int (1 : Int32)), .val (.int r_6), .val (.int r_11), .val (.int r_16)] [(.int (1 : Int32)), (.int r_6)]))
    have f19 := liI_1
    by_cases c20 : r_6.toInt = 1
    ·
      refine Go.st (fun _ k => XS.icmpNo X15.here hx rfl (hb hby at_40) rfl (teq (eqI rfl liI_1 c20)).2 k) ?_
      show Go p e below s Q 0 0 (T15.setTop (mkF m 43 #[.val (.int st), .val (.int (1 : Int32)), .val (.int r_6), .val (.int r_11), .val (.int r_16)] []))
      refine Go.st (fun _ k => XS.iloadN X15.here hx rfl (hb hby at_43) rfl k) ?_
      show Go p e below s Q 0 0 (T15.setTop (mkF m 44 #[.val (.int st), .val (.int (1 : Int32)), .val (.int r_6), .val (.int r_11), .val (.int r_16)] [(.int r_11)]))
      refine Go.st (fun _ k => XS.iloadN X15.here hx rfl (hb hby at_44) rfl k) ?_
      show Go p e below s Q 0 0 (T15.setTop (mkF m 45 #[.val (.int st), .val (.int (1 : Int32)), .val (.int r_6), .val (.int r_11), .val (.int r_16)] [(.int (1 : Int32)), (.int r_11)]))
      refine Go.st (fun _ k => XS.ifYes X15.here hx rfl (pc0 := 45) (pc' := 52) rfl (hb hby at_45) rfl ((if0 _ _).trans (feq (neI liI_1 liI_0 (by decide))).2) (by decide) (by decide) k) ?_
      show Go p e below s Q 0 0 (T15.setTop (mkF m 52 #[.val (.int st), .val (.int (1 : Int32)), .val (.int r_6), .val (.int r_11), .val (.int r_16)] [(.int r_11)]))
      refine Go.st (fun _ k => XS.iconst X15.here hx rfl (hb hby at_52) k) ?_
      show Go p e below s Q 0 0 (T15.setTop (mkF m 53 #[.val (.int st), .val (.int (1 : Int32)), .val (.int r_6), .val (.int r_11), .val (.int r_16)] [(.int (0 : Int32)), (.int r_11)]))
      have f21 := liI_0
      by_cases c22 : r_11.toInt = 0
      ·
        refine Go.st (fun _ k => XS.icmpNo X15.here hx rfl (hb hby at_53) rfl (teq (eqI rfl liI_0 c22)).2 k) ?_
        show Go p e below s Q 0 0 (T15.setTop (mkF m 56 #[.val (.int st), .val (.int (1 : Int32)), .val (.int r_6), .val (.int r_11), .val (.int r_16)] []))
        refine Go.st (fun _ k => XS.iload X15.here hx rfl (hb hby at_56) rfl k) ?_
        show Go p e below s Q 0 0 (T15.setTop (mkF m 58 #[.val (.int st), .val (.int (1 : Int32)), .val (.int r_6), .val (.int r_11), .val (.int r_16)] [(.int r_16)]))
        by_cases c23 : r_16.toInt = 0
        ·
          refine Go.st (fun _ k => XS.ifYes X15.here hx rfl (pc0 := 58) (pc' := 65) rfl (hb hby at_58) rfl ((if0 _ _).trans (teq (eqI rfl liI_0 c23)).1) (by decide) (by decide) k) ?_
          show Go p e below s Q 0 0 (T15.setTop (mkF m 65 #[.val (.int st), .val (.int (1 : Int32)), .val (.int r_6), .val (.int r_11), .val (.int r_16)] []))
          refine Go.st (fun _ k => XS.iconst X15.here hx rfl (hb hby at_65) k) ?_
          show Go p e below s Q 0 0 (T15.setTop (mkF m 66 #[.val (.int st), .val (.int (1 : Int32)), .val (.int r_6), .val (.int r_11), .val (.int r_16)] [(.int (0 : Int32))]))
          exact Go.retN X15 hx hlk (by simp) Bd.returns (hb hby at_66) (z' := (0 : Int32)) (by decide) (by rw [← hQ, e15]; exact ⟨congrArg (fun z => some (Value.int z)) (Int32.toInt_inj.mp (by omega)), N15, rfl⟩) (by decide) (by decide)
        ·
          refine Go.st (fun _ k => XS.ifNo X15.here hx rfl (hb hby at_58) rfl ((if0 _ _).trans (feq (neI rfl liI_0 c23)).1) k) ?_
          show Go p e below s Q 0 0 (T15.setTop (mkF m 61 #[.val (.int st), .val (.int (1 : Int32)), .val (.int r_6), .val (.int r_11), .val (.int r_16)] []))
          refine Go.st (fun _ k => XS.iconst X15.here hx rfl (hb hby at_61) k) ?_
          show Go p e below s Q 0 0 (T15.setTop (mkF m 62 #[.val (.int st), .val (.int (1 : Int32)), .val (.int r_6), .val (.int r_11), .val (.int r_16)] [(.int (1 : Int32))]))
          refine Go.st (fun _ k => XS.goto X15.here hx rfl (pc0 := 62) (pc' := 66) rfl (hb hby at_62) (by decide) (by decide) k) ?_
          show Go p e below s Q 0 0 (T15.setTop (mkF m 66 #[.val (.int st), .val (.int (1 : Int32)), .val (.int r_6), .val (.int r_11), .val (.int r_16)] [(.int (1 : Int32))]))
          exact Go.retN X15 hx hlk (by simp) Bd.returns (hb hby at_66) (z' := (1 : Int32)) (by decide) (by rw [← hQ, e15]; exact ⟨rfl, N15, rfl⟩) (by decide) (by decide)
      ·
        refine Go.st (fun _ k => XS.icmpYes X15.here hx rfl (pc0 := 53) (pc' := 65) rfl (hb hby at_53) rfl (feq (neI rfl liI_0 c22)).2 (by decide) (by decide) k) ?_
        show Go p e below s Q 0 0 (T15.setTop (mkF m 65 #[.val (.int st), .val (.int (1 : Int32)), .val (.int r_6), .val (.int r_11), .val (.int r_16)] []))
        refine Go.st (fun _ k => XS.iconst X15.here hx rfl (hb hby at_65) k) ?_
        show Go p e below s Q 0 0 (T15.setTop (mkF m 66 #[.val (.int st), .val (.int (1 : Int32)), .val (.int r_6), .val (.int r_11), .val (.int r_16)] [(.int (0 : Int32))]))
        exact Go.retN X15 hx hlk (by simp) Bd.returns (hb hby at_66) (z' := (0 : Int32)) (by decide) (by rw [← hQ, e15]; exact ⟨congrArg (fun z => some (Value.int z)) (Int32.toInt_inj.mp (by omega)), N15, rfl⟩) (by decide) (by decide)
    ·
      refine Go.st (fun _ k => XS.icmpYes X15.here hx rfl (pc0 := 40) (pc' := 65) rfl (hb hby at_40) rfl (feq (neI rfl liI_1 c20)).2 (by decide) (by decide) k) ?_
      show Go p e below s Q 0 0 (T15.setTop (mkF m 65 #[.val (.int st), .val (.int (1 : Int32)), .val (.int r_6), .val (.int r_11), .val (.int r_16)] []))
      refine Go.st (fun _ k => XS.iconst X15.here hx rfl (hb hby at_65) k) ?_
      show Go p e below s Q 0 0 (T15.setTop (mkF m 66 #[.val (.int st), .val (.int (1 : Int32)), .val (.int r_6), .val (.int r_11), .val (.int r_16)] [(.int (0 : Int32))]))
      have f24 := liI_0
      exact Go.retN X15 hx hlk (by simp) Bd.returns (hb hby at_66) (z' := (0 : Int32)) (by decide) (by rw [← hQ, e15]; exact ⟨congrArg (fun z => some (Value.int z)) (Int32.toInt_inj.mp (by omega)), N15, rfl⟩) (by decide) (by decide)
  ·
    refine Go.st (fun _ k => XS.icmpYes X0.here hx rfl (pc0 := 4) (pc' := 11) rfl (hb hby at_4) rfl (flt (nltI rfl liI_400 c3)).2.1 (by decide) (by decide) k) ?_
    show Go p e below s Q 0 0 (s₁.setTop (mkF m 11 #[.val (.int st), .unset, .unset, .unset, .unset] []))
    refine Go.st (fun _ k => XS.iconst X0.here hx rfl (hb hby at_11) k) ?_
    show Go p e below s Q 0 0 (s₁.setTop (mkF m 12 #[.val (.int st), .unset, .unset, .unset, .unset] [(.int (0 : Int32))]))
    refine Go.st (fun _ k => XS.istoreN X0.here hx rfl (hb hby at_12) rfl (l' := #[.val (.int st), .val (.int (0 : Int32)), .unset, .unset, .unset]) rfl k) ?_
    show Go p e below s Q 0 0 (s₁.setTop (mkF m 13 #[.val (.int st), .val (.int (0 : Int32)), .unset, .unset, .unset] []))
    obtain ⟨T25, X25, e25, st25⟩ := getS2 X0 hx hZ hown (host := "") (Or.inl (hw _ (List.mem_of_getElem? (i := 0) rfl))) Via.refl e0 S_aSUCCESS (g := (mkF m 13 #[.val (.int st), .val (.int (0 : Int32)), .unset, .unset, .unset] [])) rfl (hb hby at_13)
    refine Go.st st25 ?_
    show Go p e below s Q 0 0 (T25.setTop (mkF m 16 #[.val (.int st), .val (.int (0 : Int32)), .unset, .unset, .unset] [(.ref aSUCCESS)]))
    refine Go.st (fun _ k => XS.iloadN X25.here hx rfl (hb hby at_16) rfl k) ?_
    show Go p e below s Q 0 0 (T25.setTop (mkF m 17 #[.val (.int st), .val (.int (0 : Int32)), .unset, .unset, .unset] [(.int st), (.ref aSUCCESS)]))
    obtain ⟨cq26, kq26, q26a, q26b, q26c⟩ := isOf hZ e25 E_aSUCCESS
    obtain ⟨_, _, ⟨T26, L26, k26, n26⟩, -, X26, ⟨Lc26, hQ26, l26, y26, z26⟩, st26⟩ := X25.virtualBack hx (y := (⟨"com/example/graf/graf/flow/When", "holds", "(I)Z"⟩ : MethodName)) (z := (⟨"com/example/graf/graf/flow/When", "holds", "(I)Z"⟩ : MethodName)) hown (mvT hZ (hw _ (List.mem_of_getElem? (i := 3) rfl))) (mvT hZ (hw _ (List.mem_of_getElem? (i := 4) rfl))) (notFace_of_selects (args := #[]) (mvT hZ (hw _ (List.mem_of_getElem? (i := 6) rfl)))) (mvT hZ (hw _ (List.mem_of_getElem? (i := 6) rfl))) (mvT hZ (hw _ (List.mem_of_getElem? (i := 5) rfl))) (by decide) (backOf (W := 0) (rmh0 l Z a0 hw [] aSUCCESS st h0 n0 (Nat.le_trans Z0 K0.1) E_aSUCCESS F_aSUCCESS_ordinal) hZ (hw _ (List.mem_of_getElem? (i := 7) rfl)) (hw _ (List.mem_of_getElem? (i := 1) rfl)) (by decide) (by decide)) q26a q26c (g := (mkF m 17 #[.val (.int st), .val (.int (0 : Int32)), .unset, .unset, .unset] [(.int st), (.ref aSUCCESS)])) rfl (by rw [hml]; rfl) (Steps.refl _) (argsL := [(.int st)]) (rest := []) (lenOf pd_1 rfl) rfl (by show 2 * 0 + _ ≤ _; exact Nat.le_of_eq rfl) (hb hby at_17) (fun _ _ => ⟨rfl, e25, (by decide : 0 + 0 ≤ _), (by decide : 0 + 0 ≤ _)⟩)
    dsimp only [Pt.U, Pt.locs, Pt.cells, Pt.slots] at X26 l26 y26 z26 st26 hQ26
    subst l26 y26 z26
    obtain ⟨r_27, rfl, N26q, f28, e26⟩ := hQ26
    have N26 := Fr.app N0 N26q
    refine Go.tr  st26 ?_
    show Go p e below s Q 0 0 (T26.setTop (mkF m 20 #[.val (.int st), .val (.int (0 : Int32)), .unset, .unset, .unset] [(.int r_27)]))
    have f29 := rng32 r_27
    refine Go.st (fun _ k => XS.istoreN X26.here hx rfl (hb hby at_20) rfl (l' := #[.val (.int st), .val (.int (0 : Int32)), .val (.int r_27), .unset, .unset]) rfl k) ?_
    show Go p e below s Q 0 0 (T26.setTop (mkF m 21 #[.val (.int st), .val (.int (0 : Int32)), .val (.int r_27), .unset, .unset] []))
    obtain ⟨T30, X30, e30, st30⟩ := getS2 X26 hx hZ hown (host := "") (Or.inl (hw _ (List.mem_of_getElem? (i := 21) rfl))) Via.refl e26 S_aFAILURE (g := (mkF m 21 #[.val (.int st), .val (.int (0 : Int32)), .val (.int r_27), .unset, .unset] [])) rfl (hb hby at_21)
    refine Go.st st30 ?_
    show Go p e below s Q 0 0 (T30.setTop (mkF m 24 #[.val (.int st), .val (.int (0 : Int32)), .val (.int r_27), .unset, .unset] [(.ref aFAILURE)]))
    refine Go.st (fun _ k => XS.iloadN X30.here hx rfl (hb hby at_24) rfl k) ?_
    show Go p e below s Q 0 0 (T30.setTop (mkF m 25 #[.val (.int st), .val (.int (0 : Int32)), .val (.int r_27), .unset, .unset] [(.int st), (.ref aFAILURE)]))
    obtain ⟨cq31, kq31, q31a, q31b, q31c⟩ := isOf hZ e30 E_aFAILURE
    obtain ⟨_, _, ⟨T31, L31, k31, n31⟩, -, X31, ⟨Lc31, hQ31, l31, y31, z31⟩, st31⟩ := X30.virtualBack hx (y := (⟨"com/example/graf/graf/flow/When", "holds", "(I)Z"⟩ : MethodName)) (z := (⟨"com/example/graf/graf/flow/When", "holds", "(I)Z"⟩ : MethodName)) hown (mvT hZ (hw _ (List.mem_of_getElem? (i := 3) rfl))) (mvT hZ (hw _ (List.mem_of_getElem? (i := 4) rfl))) (notFace_of_selects (args := #[]) (mvT hZ (hw _ (List.mem_of_getElem? (i := 6) rfl)))) (mvT hZ (hw _ (List.mem_of_getElem? (i := 6) rfl))) (mvT hZ (hw _ (List.mem_of_getElem? (i := 5) rfl))) (by decide) (backOf (W := 0) (rmh1 l Z a0 hw [] aFAILURE st h0 n0 (Nat.le_trans Z0 K0.1) E_aFAILURE F_aFAILURE_ordinal) hZ (hw _ (List.mem_of_getElem? (i := 7) rfl)) (hw _ (List.mem_of_getElem? (i := 1) rfl)) (by decide) (by decide)) q31a q31c (g := (mkF m 25 #[.val (.int st), .val (.int (0 : Int32)), .val (.int r_27), .unset, .unset] [(.int st), (.ref aFAILURE)])) rfl (by rw [hml]; rfl) (Steps.refl _) (argsL := [(.int st)]) (rest := []) (lenOf pd_1 rfl) rfl (by show 2 * 0 + _ ≤ _; exact Nat.le_of_eq rfl) (hb hby at_25) (fun _ _ => ⟨rfl, e30, (by decide : 0 + 0 ≤ _), (by decide : 0 + 0 ≤ _)⟩)
    dsimp only [Pt.U, Pt.locs, Pt.cells, Pt.slots] at X31 l31 y31 z31 st31 hQ31
    subst l31 y31 z31
    obtain ⟨r_32, rfl, N31q, f33, e31⟩ := hQ31
    have N31 := Fr.app N26 N31q
    refine Go.tr  st31 ?_
    show Go p e below s Q 0 0 (T31.setTop (mkF m 28 #[.val (.int st), .val (.int (0 : Int32)), .val (.int r_27), .unset, .unset] [(.int r_32)]))
    have f34 := rng32 r_32
    refine Go.st (fun _ k => XS.istoreN X31.here hx rfl (hb hby at_28) rfl (l' := #[.val (.int st), .val (.int (0 : Int32)), .val (.int r_27), .val (.int r_32), .unset]) rfl k) ?_
    show Go p e below s Q 0 0 (T31.setTop (mkF m 29 #[.val (.int st), .val (.int (0 : Int32)), .val (.int r_27), .val (.int r_32), .unset] []))
    obtain ⟨T35, X35, e35, st35⟩ := getS2 X31 hx hZ hown (host := "") (Or.inl (hw _ (List.mem_of_getElem? (i := 23) rfl))) Via.refl e31 S_aANY (g := (mkF m 29 #[.val (.int st), .val (.int (0 : Int32)), .val (.int r_27), .val (.int r_32), .unset] [])) rfl (hb hby at_29)
    refine Go.st st35 ?_
    show Go p e below s Q 0 0 (T35.setTop (mkF m 32 #[.val (.int st), .val (.int (0 : Int32)), .val (.int r_27), .val (.int r_32), .unset] [(.ref aANY)]))
    refine Go.st (fun _ k => XS.iloadN X35.here hx rfl (hb hby at_32) rfl k) ?_
    show Go p e below s Q 0 0 (T35.setTop (mkF m 33 #[.val (.int st), .val (.int (0 : Int32)), .val (.int r_27), .val (.int r_32), .unset] [(.int st), (.ref aANY)]))
    obtain ⟨cq36, kq36, q36a, q36b, q36c⟩ := isOf hZ e35 E_aANY
    obtain ⟨_, _, ⟨T36, L36, k36, n36⟩, -, X36, ⟨Lc36, hQ36, l36, y36, z36⟩, st36⟩ := X35.virtualBack hx (y := (⟨"com/example/graf/graf/flow/When", "holds", "(I)Z"⟩ : MethodName)) (z := (⟨"com/example/graf/graf/flow/When", "holds", "(I)Z"⟩ : MethodName)) hown (mvT hZ (hw _ (List.mem_of_getElem? (i := 3) rfl))) (mvT hZ (hw _ (List.mem_of_getElem? (i := 4) rfl))) (notFace_of_selects (args := #[]) (mvT hZ (hw _ (List.mem_of_getElem? (i := 6) rfl)))) (mvT hZ (hw _ (List.mem_of_getElem? (i := 6) rfl))) (mvT hZ (hw _ (List.mem_of_getElem? (i := 5) rfl))) (by decide) (backOf (W := 0) (rmh2 l Z a0 hw [] aANY st h0 n0 (Nat.le_trans Z0 K0.1) E_aANY F_aANY_ordinal) hZ (hw _ (List.mem_of_getElem? (i := 7) rfl)) (hw _ (List.mem_of_getElem? (i := 1) rfl)) (by decide) (by decide)) q36a q36c (g := (mkF m 33 #[.val (.int st), .val (.int (0 : Int32)), .val (.int r_27), .val (.int r_32), .unset] [(.int st), (.ref aANY)])) rfl (by rw [hml]; rfl) (Steps.refl _) (argsL := [(.int st)]) (rest := []) (lenOf pd_1 rfl) rfl (by show 2 * 0 + _ ≤ _; exact Nat.le_of_eq rfl) (hb hby at_33) (fun _ _ => ⟨rfl, e35, (by decide : 0 + 0 ≤ _), (by decide : 0 + 0 ≤ _)⟩)
    dsimp only [Pt.U, Pt.locs, Pt.cells, Pt.slots] at X36 l36 y36 z36 st36 hQ36
    subst l36 y36 z36
    obtain ⟨r_37, rfl, N36q, f38, e36⟩ := hQ36
    have N36 := Fr.app N31 N36q
    refine Go.tr  st36 ?_
    show Go p e below s Q 0 0 (T36.setTop (mkF m 36 #[.val (.int st), .val (.int (0 : Int32)), .val (.int r_27), .val (.int r_32), .unset] [(.int r_37)]))
    have f39 := rng32 r_37
    refine Go.st (fun _ k => XS.istore X36.here hx rfl (hb hby at_36) rfl (l' := #[.val (.int st), .val (.int (0 : Int32)), .val (.int r_27), .val (.int r_32), .val (.int r_37)]) rfl k) ?_
    show Go p e below s Q 0 0 (T36.setTop (mkF m 38 #[.val (.int st), .val (.int (0 : Int32)), .val (.int r_27), .val (.int r_32), .val (.int r_37)] []))
    refine Go.st (fun _ k => XS.iloadN X36.here hx rfl (hb hby at_38) rfl k) ?_
    show Go p e below s Q 0 0 (T36.setTop (mkF m 39 #[.val (.int st), .val (.int (0 : Int32)), .val (.int r_27), .val (.int r_32), .val (.int r_37)] [(.int r_27)]))
    refine Go.st (fun _ k => XS.iloadN X36.here hx rfl (hb hby at_39) rfl k) ?_
    show Go p e below s Q 0 0 (T36.setTop (mkF m 40 #[.val (.int st), .val (.int (0 : Int32)), .val (.int r_27), .val (.int r_32), .val (.int r_37)] [(.int (0 : Int32)), (.int r_27)]))
    have f40 := liI_0
    by_cases c41 : r_27.toInt = 0
    ·
      refine Go.st (fun _ k => XS.icmpNo X36.here hx rfl (hb hby at_40) rfl (teq (eqI rfl liI_0 c41)).2 k) ?_
      show Go p e below s Q 0 0 (T36.setTop (mkF m 43 #[.val (.int st), .val (.int (0 : Int32)), .val (.int r_27), .val (.int r_32), .val (.int r_37)] []))
      refine Go.st (fun _ k => XS.iloadN X36.here hx rfl (hb hby at_43) rfl k) ?_
      show Go p e below s Q 0 0 (T36.setTop (mkF m 44 #[.val (.int st), .val (.int (0 : Int32)), .val (.int r_27), .val (.int r_32), .val (.int r_37)] [(.int r_32)]))
      refine Go.st (fun _ k => XS.iloadN X36.here hx rfl (hb hby at_44) rfl k) ?_
      show Go p e below s Q 0 0 (T36.setTop (mkF m 45 #[.val (.int st), .val (.int (0 : Int32)), .val (.int r_27), .val (.int r_32), .val (.int r_37)] [(.int (0 : Int32)), (.int r_32)]))
      refine Go.st (fun _ k => XS.ifNo X36.here hx rfl (hb hby at_45) rfl ((if0 _ _).trans (teq (eqI liI_0 liI_0 (by decide))).2) k) ?_
      show Go p e below s Q 0 0 (T36.setTop (mkF m 48 #[.val (.int st), .val (.int (0 : Int32)), .val (.int r_27), .val (.int r_32), .val (.int r_37)] [(.int r_32)]))
      refine Go.st (fun _ k => XS.iconst X36.here hx rfl (hb hby at_48) k) ?_
      show Go p e below s Q 0 0 (T36.setTop (mkF m 49 #[.val (.int st), .val (.int (0 : Int32)), .val (.int r_27), .val (.int r_32), .val (.int r_37)] [(.int (1 : Int32)), (.int r_32)]))
      refine Go.st (fun _ k => XS.goto X36.here hx rfl (pc0 := 49) (pc' := 53) rfl (hb hby at_49) (by decide) (by decide) k) ?_
      show Go p e below s Q 0 0 (T36.setTop (mkF m 53 #[.val (.int st), .val (.int (0 : Int32)), .val (.int r_27), .val (.int r_32), .val (.int r_37)] [(.int (1 : Int32)), (.int r_32)]))
      have f42 := liI_1
      by_cases c43 : r_32.toInt = 1
      ·
        refine Go.st (fun _ k => XS.icmpNo X36.here hx rfl (hb hby at_53) rfl (teq (eqI rfl liI_1 c43)).2 k) ?_
        show Go p e below s Q 0 0 (T36.setTop (mkF m 56 #[.val (.int st), .val (.int (0 : Int32)), .val (.int r_27), .val (.int r_32), .val (.int r_37)] []))
        refine Go.st (fun _ k => XS.iload X36.here hx rfl (hb hby at_56) rfl k) ?_
        show Go p e below s Q 0 0 (T36.setTop (mkF m 58 #[.val (.int st), .val (.int (0 : Int32)), .val (.int r_27), .val (.int r_32), .val (.int r_37)] [(.int r_37)]))
        by_cases c44 : r_37.toInt = 0
        ·
          refine Go.st (fun _ k => XS.ifYes X36.here hx rfl (pc0 := 58) (pc' := 65) rfl (hb hby at_58) rfl ((if0 _ _).trans (teq (eqI rfl liI_0 c44)).1) (by decide) (by decide) k) ?_
          show Go p e below s Q 0 0 (T36.setTop (mkF m 65 #[.val (.int st), .val (.int (0 : Int32)), .val (.int r_27), .val (.int r_32), .val (.int r_37)] []))
          refine Go.st (fun _ k => XS.iconst X36.here hx rfl (hb hby at_65) k) ?_
          show Go p e below s Q 0 0 (T36.setTop (mkF m 66 #[.val (.int st), .val (.int (0 : Int32)), .val (.int r_27), .val (.int r_32), .val (.int r_37)] [(.int (0 : Int32))]))
          exact Go.retN X36 hx hlk (by simp) Bd.returns (hb hby at_66) (z' := (0 : Int32)) (by decide) (by rw [← hQ, e36]; exact ⟨congrArg (fun z => some (Value.int z)) (Int32.toInt_inj.mp (by omega)), N36, rfl⟩) (by decide) (by decide)
        ·
          refine Go.st (fun _ k => XS.ifNo X36.here hx rfl (hb hby at_58) rfl ((if0 _ _).trans (feq (neI rfl liI_0 c44)).1) k) ?_
          show Go p e below s Q 0 0 (T36.setTop (mkF m 61 #[.val (.int st), .val (.int (0 : Int32)), .val (.int r_27), .val (.int r_32), .val (.int r_37)] []))
          refine Go.st (fun _ k => XS.iconst X36.here hx rfl (hb hby at_61) k) ?_
          show Go p e below s Q 0 0 (T36.setTop (mkF m 62 #[.val (.int st), .val (.int (0 : Int32)), .val (.int r_27), .val (.int r_32), .val (.int r_37)] [(.int (1 : Int32))]))
          refine Go.st (fun _ k => XS.goto X36.here hx rfl (pc0 := 62) (pc' := 66) rfl (hb hby at_62) (by decide) (by decide) k) ?_
          show Go p e below s Q 0 0 (T36.setTop (mkF m 66 #[.val (.int st), .val (.int (0 : Int32)), .val (.int r_27), .val (.int r_32), .val (.int r_37)] [(.int (1 : Int32))]))
          exact Go.retN X36 hx hlk (by simp) Bd.returns (hb hby at_66) (z' := (1 : Int32)) (by decide) (by rw [← hQ, e36]; exact ⟨rfl, N36, rfl⟩) (by decide) (by decide)
      ·
        refine Go.st (fun _ k => XS.icmpYes X36.here hx rfl (pc0 := 53) (pc' := 65) rfl (hb hby at_53) rfl (feq (neI rfl liI_1 c43)).2 (by decide) (by decide) k) ?_
        show Go p e below s Q 0 0 (T36.setTop (mkF m 65 #[.val (.int st), .val (.int (0 : Int32)), .val (.int r_27), .val (.int r_32), .val (.int r_37)] []))
        refine Go.st (fun _ k => XS.iconst X36.here hx rfl (hb hby at_65) k) ?_
        show Go p e below s Q 0 0 (T36.setTop (mkF m 66 #[.val (.int st), .val (.int (0 : Int32)), .val (.int r_27), .val (.int r_32), .val (.int r_37)] [(.int (0 : Int32))]))
        exact Go.retN X36 hx hlk (by simp) Bd.returns (hb hby at_66) (z' := (0 : Int32)) (by decide) (by rw [← hQ, e36]; exact ⟨congrArg (fun z => some (Value.int z)) (Int32.toInt_inj.mp (by omega)), N36, rfl⟩) (by decide) (by decide)
    ·
      refine Go.st (fun _ k => XS.icmpYes X36.here hx rfl (pc0 := 40) (pc' := 65) rfl (hb hby at_40) rfl (feq (neI rfl liI_0 c41)).2 (by decide) (by decide) k) ?_
      show Go p e below s Q 0 0 (T36.setTop (mkF m 65 #[.val (.int st), .val (.int (0 : Int32)), .val (.int r_27), .val (.int r_32), .val (.int r_37)] []))
      refine Go.st (fun _ k => XS.iconst X36.here hx rfl (hb hby at_65) k) ?_
      show Go p e below s Q 0 0 (T36.setTop (mkF m 66 #[.val (.int st), .val (.int (0 : Int32)), .val (.int r_27), .val (.int r_32), .val (.int r_37)] [(.int (0 : Int32))]))
      have f45 := liI_1
      exact Go.retN X36 hx hlk (by simp) Bd.returns (hb hby at_66) (z' := (0 : Int32)) (by decide) (by rw [← hQ, e36]; exact ⟨congrArg (fun z => some (Value.int z)) (Int32.toInt_inj.mp (by omega)), N36, rfl⟩) (by decide) (by decide)
set_option maxRecDepth 65536 in
set_option maxHeartbeats 40000000 in
theorem comes_1 {Post : Tables → Env → Array Value → State → Outcome → State → Prop} (hpost : ∀ tb e args s v u, (limb_1_1.after args s (.returned v) u = true ∧ limb_1_2.after args s (.returned v) u = true ∧ True) → FrameEnd s (.returned v) u (Jvm.fieldLocs frame_1_writes args s ++ Jvm.arrayLocs frame_1_arrays args s ++ Jvm.staticLocs frame_1_statics s) 0 0 → Post tb e args s (.returned v) u) :
    ArmFor flags0 classFile x code maxLocals ret World_1 tables_1 room_1 Calls_1 rest_1 Pre_1 Post := by
  intro l hfl _ _ p e ha hc hk s m args below hf hA hF happ hP
  obtain ⟨hcalls, hrest, hpre⟩ := hP
  obtain ⟨-, -, -, hnamed, -, -, -, hat⟩ := (Spec.applies_iff hf).mp happ
  obtain ⟨hg, hn⟩ := and_e (Cond.before_iff.mp (show (Jvm.Cond.and given_1 narrow_1).before args s = true from hpre))
  obtain ⟨hcount, g0⟩ := and_e hg
  obtain ⟨w0, rfl⟩ : ∃ w0 : Value, args = #[w0] := by
    have hs : args.size = 1 := by simpa [Cond.value, given_1] using hcount
    obtain ⟨L⟩ := args
    match L, hs with
    | [w0], _ => exact ⟨w0, rfl⟩
  have hw := fun d (hd : d ∈ tables_1) => atoms_spec (ws := Jvm.Cond.code x code maxLocals ret :: tables_1) hat d (List.mem_cons_of_mem _ hd)
  have hfit : Fit s := fun {y c} hc i hi => by
    obtain ⟨ha, rfl⟩ := Array.getElem?_eq_some_iff.mp hc
    have q := List.all_eq_true.mp ((Array.all_eq_true_iff_forall_mem.mp hF) _ (Array.getElem_mem ha)) i (List.mem_range.mpr hi)
    simpa [Array.getElem?_eq_getElem hi] using q
  obtain ⟨i0, ei0⟩ := is_v g0
  obtain rfl : w0 = (.int i0) := Option.some.inj ei0
  obtain ⟨u1, u2⟩ := and_e hn
  obtain ⟨u3, u4⟩ := and_e u2
  obtain ⟨u5, u6⟩ := and_e u4
  obtain ⟨u7, u8⟩ := and_e u6
  obtain ⟨u9, u10⟩ := and_e u8
  obtain ⟨aSUCCESS, ev_aSUCCESS⟩ := exa_v u1
  have S_aSUCCESS : Sta s s.heap "com/example/graf/graf/flow/When" "SUCCESS" "Lcom/example/graf/graf/flow/When;" (.ref aSUCCESS) := Sta.start ev_aSUCCESS (Or.inr ⟨(hw _ (List.mem_of_getElem? (i := 1) rfl)), (hw _ (List.mem_of_getElem? (i := 2) rfl))⟩)
  have E_aSUCCESS : Exa s s.heap aSUCCESS "com/example/graf/graf/flow/When" := Exa.start ev_aSUCCESS u1
  have F_aSUCCESS_ordinal : Fld s s.heap aSUCCESS "java/lang/Enum" "ordinal" "I" (.int (0 : Int32)) := fld_int ev_aSUCCESS u3
  obtain ⟨aFAILURE, ev_aFAILURE⟩ := exa_v u5
  have S_aFAILURE : Sta s s.heap "com/example/graf/graf/flow/When" "FAILURE" "Lcom/example/graf/graf/flow/When;" (.ref aFAILURE) := Sta.start ev_aFAILURE (Or.inr ⟨(hw _ (List.mem_of_getElem? (i := 1) rfl)), (hw _ (List.mem_of_getElem? (i := 22) rfl))⟩)
  have E_aFAILURE : Exa s s.heap aFAILURE "com/example/graf/graf/flow/When" := Exa.start ev_aFAILURE u5
  have F_aFAILURE_ordinal : Fld s s.heap aFAILURE "java/lang/Enum" "ordinal" "I" (.int (1 : Int32)) := fld_int ev_aFAILURE u7
  obtain ⟨aANY, ev_aANY⟩ := exa_v u9
  have S_aANY : Sta s s.heap "com/example/graf/graf/flow/When" "ANY" "Lcom/example/graf/graf/flow/When;" (.ref aANY) := Sta.start ev_aANY (Or.inr ⟨(hw _ (List.mem_of_getElem? (i := 1) rfl)), (hw _ (List.mem_of_getElem? (i := 24) rfl))⟩)
  have E_aANY : Exa s s.heap aANY "com/example/graf/graf/flow/When" := Exa.start ev_aANY u9
  have F_aANY_ordinal : Fld s s.heap aANY "java/lang/Enum" "ordinal" "I" (.int (2 : Int32)) := fld_int ev_aANY u10
  have ne_aSUCCESS_aFAILURE : aSUCCESS ≠ aFAILURE := Fld.ne F_aSUCCESS_ordinal F_aFAILURE_ordinal (by first | decide | simp)
  have ne_aSUCCESS_aANY : aSUCCESS ≠ aANY := Fld.ne F_aSUCCESS_ordinal F_aANY_ordinal (by first | decide | simp)
  have ne_aFAILURE_aANY : aFAILURE ≠ aANY := Fld.ne F_aFAILURE_ordinal F_aANY_ordinal (by first | decide | simp)
  obtain ⟨n, o, h1, h2, h3, _, L, rfl, ⟨rfl, N, _⟩, hq⟩ := rm0 l s _ hw tables_1 i0 aSUCCESS aFAILURE aANY s.heap s.heap.size (Nat.le_refl _) S_aSUCCESS E_aSUCCESS F_aSUCCESS_ordinal S_aFAILURE E_aFAILURE F_aFAILURE_ordinal S_aANY E_aANY F_aANY_ordinal ne_aSUCCESS_aFAILURE ne_aSUCCESS_aANY ne_aFAILURE_aANY p e ha hc hk s m _ below hf ((Spec.applies_iff_loose hf).mp happ).1 ⟨rfl, State.Warmed39.refl s, rfl⟩ trivial
  refine ⟨n, _, h1, h2, h3, hpost _ _ _ _ _ _ ⟨Cond.after_iff.mpr rfl, Cond.after_iff.mpr (eq_i res_at (Term.int_eval (1)) rfl), trivial⟩ ⟨hq.1, hq.2.1, (hq.2.2.sift fun y hy => Or.inr (N y hy)).mono (by decide) (by decide)⟩⟩
theorem main_1_1 : Claimed_1_1 := comes_1 fun _ _ _ _ _ _ h hF => ⟨h.1, hF⟩
theorem main_1_2 : Claimed_1_2 := comes_1 fun _ _ _ _ _ _ h hF => ⟨h.2.1, hF⟩
end Jvm.Pilot.@@N@@
namespace Jvm.Pilot.@@N@@
open Jvm Jvm.ClassFile Sem Op Lib Jvm.Free Jvm.Stand Jvm.Pilot.@@N@@.Jvm.D
/-! MADE BY PROGRAM (witnessworld.py) out of the Statement's table words and the real class files: 13 classes; the members and pool entries that the words name. The judged class is class 1, her method 1. -/
namespace start1
open Jvm.ClassFile
def u (s : String) : CpInfo := .utf8 (stringToUtf16 s)
/-- a pool by its gaps: so many unusable entries, then the entry; so many at the end -/
def gap : Nat → List CpInfo → List CpInfo
  | 0, r => r
  | n + 1, r => .unusable :: gap n r
def poolList (es : List (Nat × CpInfo)) (last : Nat) : List CpInfo := es.foldr (fun e r => gap e.1 (e.2 :: r)) (gap last [])
def pool (es : List (Nat × CpInfo)) (last : Nat) : Array CpInfo := ⟨poolList es last⟩
def fileOf (pool : Array CpInfo) (this : Nat) (attrs : Array Attribute := #[]) (ms : Array MethodInfo := #[]) (fl : Nat := 33) (sup : Nat := 0) (ifs : Array Nat := #[]) (fds : Array FieldInfo := #[]) : ClassFile where
  minorVersion := 0
  majorVersion := 65
  constantPool := pool
  accessFlags := fl
  thisClass := this
  superClass := sup
  interfaces := ifs
  fields := fds
  methods := ms
  attributes := attrs
def plain (name : String) (sup : Option ClassId) : Class where
  name := name
  kind := .ordinary
  loader := none
  accessFlags := 33
  super := sup
  interfaces := #[]
  cf := none
  fields := #[]
  methods := #[]
  instanceTypes := #[]
  staticTypes := #[]
  resolved := #[]
  callSites := []
  init := .initialized
  statics := none
  mirror := none

def pool0 : Array CpInfo := pool [(5, u "<init>"), (0, u "()V"), (1, .class_ 10), (1, u "java/lang/Object")] 113

def k0m0 : Method := { name := "<init>", desc := "()V", sig := { parameters := [], returnType := none }, accessFlags := 1, code := none }
/-- java/lang/Object -/
def k0 : Class := { plain "java/lang/Object" none with
  accessFlags := 33
  interfaces := #[]
  cf := some (fileOf pool0 8 #[] #[{ accessFlags := 1, nameIndex := 5, descriptorIndex := 6, attributes := #[] }] 33 0 #[] #[])
  fields := #[]
  methods := #[k0m0]
  instanceTypes := #[]
  staticTypes := #[]
  resolved := Array.replicate 124 none
  statics := none }

def pool1 : Array CpInfo := pool [(2, .class_ 4), (1, u "java/lang/Object"), (0, u "<init>"), (0, u "()V"), (0, .fieldref 8 9), (0, .class_ 10), (0, .nameAndType 11 12), (0, u "com/example/graf/graf/flow/When"), (0, u "SUCCESS"), (0, u "Lcom/example/graf/graf/flow/When;"), (0, .methodref 8 14), (0, .nameAndType 15 16), (0, u "holds"), (0, u "(I)Z"), (0, .fieldref 8 18), (0, .nameAndType 19 12), (0, u "FAILURE"), (0, .fieldref 8 21), (0, .nameAndType 22 12), (0, u "ANY"), (0, .class_ 24), (0, u "com/example/graf/graf/flow/WhenHoldsPinLaw"), (2, u "law")] 3

def k1m0 : Method := { name := "<init>", desc := "()V", sig := { parameters := [], returnType := none }, accessFlags := 1, code := none }
def k1c1 : Code := { maxStack := 2, maxLocals := 5, code := code, exceptionTable := #[], attributes := #[] }
def k1m1 : Method := { name := "law", desc := "(I)Z", sig := { parameters := [.int], returnType := some .boolean }, accessFlags := 9, code := some k1c1 }
/-- com/example/graf/graf/flow/WhenHoldsPinLaw -/
def k1 : Class := { plain "com/example/graf/graf/flow/WhenHoldsPinLaw" (some 0) with
  accessFlags := 49
  interfaces := #[]
  cf := some (fileOf pool1 23 #[] #[{ accessFlags := 1, nameIndex := 5, descriptorIndex := 6, attributes := #[] }, { accessFlags := 9, nameIndex := 27, descriptorIndex := 16, attributes := #[] }] 49 2 #[] #[])
  fields := #[]
  methods := #[k1m0, k1m1]
  instanceTypes := #[]
  staticTypes := #[]
  resolved := Array.replicate 31 none
  statics := none }

def pool2 : Array CpInfo := pool [(1, .class_ 2), (0, u "java/lang/constant/Constable"), (0, .class_ 4), (0, u "java/lang/Object")] 6

/-- java/lang/constant/Constable -/
def k2 : Class := { plain "java/lang/constant/Constable" (some 0) with
  accessFlags := 1537
  interfaces := #[]
  cf := some (fileOf pool2 1 #[] #[] 1537 3 #[] #[])
  fields := #[]
  methods := #[]
  instanceTypes := #[]
  staticTypes := #[]
  resolved := Array.replicate 11 none
  statics := none }

def pool3 : Array CpInfo := pool [(1, .class_ 2), (0, u "java/lang/Comparable"), (0, .class_ 4), (0, u "java/lang/Object")] 7

/-- java/lang/Comparable -/
def k3 : Class := { plain "java/lang/Comparable" (some 0) with
  accessFlags := 1537
  interfaces := #[]
  cf := some (fileOf pool3 1 #[] #[] 1537 3 #[] #[])
  fields := #[]
  methods := #[]
  instanceTypes := #[]
  staticTypes := #[]
  resolved := Array.replicate 12 none
  statics := none }

def pool4 : Array CpInfo := pool [(1, .class_ 2), (0, u "java/io/Serializable"), (0, .class_ 4), (0, u "java/lang/Object")] 2

/-- java/io/Serializable -/
def k4 : Class := { plain "java/io/Serializable" (some 0) with
  accessFlags := 1537
  interfaces := #[]
  cf := some (fileOf pool4 1 #[] #[] 1537 3 #[] #[])
  fields := #[]
  methods := #[]
  instanceTypes := #[]
  staticTypes := #[]
  resolved := Array.replicate 7 none
  statics := none }

def pool5 : Array CpInfo := pool [(2, .class_ 4), (1, u "java/lang/Enum"), (0, u "name"), (0, u "Ljava/lang/String;"), (0, .fieldref 2 8), (0, .nameAndType 9 10), (0, u "ordinal"), (0, u "I"), (1, .class_ 14), (1, u "java/lang/Object"), (4, u "hash"), (86, .class_ 108), (1, u "java/lang/Enum$EnumDesc"), (2, .class_ 112), (0, u "java/lang/constant/Constable"), (0, .class_ 114), (0, u "java/lang/Comparable"), (0, .class_ 116), (0, u "java/io/Serializable"), (9, u "()I")] 77

def k5c0 : Code := { maxStack := 1, maxLocals := 1, code := jdk_37_method_2_code, exceptionTable := #[], attributes := #[] }
def k5m0 : Method := { name := "ordinal", desc := "()I", sig := { parameters := [], returnType := some .int }, accessFlags := 17, code := some k5c0 }
/-- java/lang/Enum -/
def k5 : Class := { plain "java/lang/Enum" (some 0) with
  accessFlags := 1057
  interfaces := #[2, 3, 4]
  cf := some (fileOf pool5 2 #[.nestMembers #[106]] #[{ accessFlags := 17, nameIndex := 9, descriptorIndex := 126, attributes := #[] }] 1057 12 #[111, 113, 115] #[{ accessFlags := 18, nameIndex := 5, descriptorIndex := 6, attributes := #[] }, { accessFlags := 18, nameIndex := 9, descriptorIndex := 10, attributes := #[] }, { accessFlags := 2, nameIndex := 19, descriptorIndex := 10, attributes := #[] }])
  fields := #[{ name := "name", type := (.object "java/lang/String"), accessFlags := 18, slot := 0, constantValue := 0 }, { name := "ordinal", type := .int, accessFlags := 18, slot := 1, constantValue := 0 }, { name := "hash", type := .int, accessFlags := 2, slot := 2, constantValue := 0 }]
  methods := #[k5m0]
  instanceTypes := #[(.object "java/lang/String"), .int, .int]
  staticTypes := #[]
  resolved := Array.replicate 204 none
  statics := none }

def pool6 : Array CpInfo := pool [(1, .class_ 2), (0, u "com/example/graf/graf/flow/When"), (2, u "SUCCESS"), (0, u "Lcom/example/graf/graf/flow/When;"), (2, u "FAILURE"), (2, u "ANY"), (2, u "$VALUES"), (0, u "[Lcom/example/graf/graf/flow/When;"), (6, .class_ 25), (1, u "java/lang/Enum"), (8, u "text"), (0, u "Ljava/lang/String;"), (19, .methodref 1 56), (0, .nameAndType 57 58), (0, u "ordinal"), (0, u "()I"), (5, .methodref 65 66), (0, .class_ 67), (0, .nameAndType 68 69), (0, u "com/example/graf/graf/flow/Step"), (0, u "isSuccess"), (0, u "(I)Z"), (22, u "holds")] 20

def k6c0 : Code := { maxStack := 4, maxLocals := 2, code := prog_11_method_5_code, exceptionTable := #[], attributes := #[] }
def k6m0 : Method := { name := "holds", desc := "(I)Z", sig := { parameters := [.int], returnType := some .boolean }, accessFlags := 0, code := some k6c0 }
/-- com/example/graf/graf/flow/When -/
def k6 : Class := { plain "com/example/graf/graf/flow/When" (some 5) with
  accessFlags := 16433
  interfaces := #[]
  cf := some (fileOf pool6 1 #[] #[{ accessFlags := 0, nameIndex := 92, descriptorIndex := 69, attributes := #[] }] 16433 23 #[] #[{ accessFlags := 16409, nameIndex := 5, descriptorIndex := 6, attributes := #[] }, { accessFlags := 16409, nameIndex := 9, descriptorIndex := 6, attributes := #[] }, { accessFlags := 16409, nameIndex := 12, descriptorIndex := 6, attributes := #[] }, { accessFlags := 18, nameIndex := 34, descriptorIndex := 35, attributes := #[] }, { accessFlags := 4122, nameIndex := 15, descriptorIndex := 16, attributes := #[] }])
  fields := #[{ name := "SUCCESS", type := (.object "com/example/graf/graf/flow/When"), accessFlags := 16409, slot := 0, constantValue := 0 }, { name := "FAILURE", type := (.object "com/example/graf/graf/flow/When"), accessFlags := 16409, slot := 1, constantValue := 0 }, { name := "ANY", type := (.object "com/example/graf/graf/flow/When"), accessFlags := 16409, slot := 2, constantValue := 0 }, { name := "text", type := (.object "java/lang/String"), accessFlags := 18, slot := 3, constantValue := 0 }, { name := "$VALUES", type := (.array (.object "com/example/graf/graf/flow/When")), accessFlags := 4122, slot := 3, constantValue := 0 }]
  methods := #[k6m0]
  instanceTypes := #[(.object "java/lang/String"), .int, .int, (.object "java/lang/String")]
  staticTypes := #[(.object "com/example/graf/graf/flow/When"), (.object "com/example/graf/graf/flow/When"), (.object "com/example/graf/graf/flow/When"), (.array (.object "com/example/graf/graf/flow/When"))]
  resolved := Array.replicate 113 none
  statics := some 0 }

def pool7 : Array CpInfo := pool [(2, .class_ 4), (1, u "java/lang/Object"), (11, .class_ 18), (1, u "com/example/graf/graf/flow/Step"), (0, u "from"), (0, u "Ljava/lang/String;"), (8, u "moves"), (0, u "Ljava/util/List;"), (38, u "FIRST_FAILURE"), (0, u "I"), (8, u "isSuccess"), (0, u "(I)Z")] 27

def k7c0 : Code := { maxStack := 2, maxLocals := 1, code := prog_10_method_2_code, exceptionTable := #[], attributes := #[] }
def k7m0 : Method := { name := "isSuccess", desc := "(I)Z", sig := { parameters := [.int], returnType := some .boolean }, accessFlags := 9, code := some k7c0 }
/-- com/example/graf/graf/flow/Step -/
def k7 : Class := { plain "com/example/graf/graf/flow/Step" (some 0) with
  accessFlags := 33
  interfaces := #[]
  cf := some (fileOf pool7 16 #[] #[{ accessFlags := 9, nameIndex := 79, descriptorIndex := 80, attributes := #[] }] 33 2 #[] #[{ accessFlags := 26, nameIndex := 69, descriptorIndex := 70, attributes := #[] }, { accessFlags := 18, nameIndex := 19, descriptorIndex := 20, attributes := #[] }, { accessFlags := 18, nameIndex := 29, descriptorIndex := 30, attributes := #[] }])
  fields := #[{ name := "FIRST_FAILURE", type := .int, accessFlags := 26, slot := 0, constantValue := 0 }, { name := "from", type := (.object "java/lang/String"), accessFlags := 18, slot := 0, constantValue := 0 }, { name := "moves", type := (.object "java/util/List"), accessFlags := 18, slot := 1, constantValue := 0 }]
  methods := #[k7m0]
  instanceTypes := #[(.object "java/lang/String"), (.object "java/util/List")]
  staticTypes := #[.int]
  resolved := Array.replicate 108 none
  statics := none }

def pool8 : Array CpInfo := pool [(1, u "java/lang/Cloneable"), (0, .class_ 1), (0, u "java/lang/Object"), (0, .class_ 3)] 3

/-- java/lang/Cloneable -/
def k8 : Class := { plain "java/lang/Cloneable" (some 0) with
  accessFlags := 1537
  interfaces := #[]
  cf := some (fileOf pool8 2 #[] #[] 1537 4 #[] #[])
  fields := #[]
  methods := #[]
  instanceTypes := #[]
  staticTypes := #[]
  resolved := Array.replicate 8 none
  statics := none }

/-- the primitive byte -/
def k9 : Class := { plain "byte" none with kind := .primitive 'B', accessFlags := 0x411 }
/-- [B -/
def k10 : Class := { plain "[B" (some 0) with kind := .array 9 .byte, interfaces := #[8, 4], accessFlags := 1041 }

/-- the primitive int -/
def k11 : Class := { plain "int" none with kind := .primitive 'I', accessFlags := 0x411 }
/-- [I -/
def k12 : Class := { plain "[I" (some 0) with kind := .array 11 .int, interfaces := #[8, 4], accessFlags := 1041 }

def heap : Heap := #[{ cls := 6, slots := #[.ref 1, .ref 2, .ref 3, .null], vm := .statics 6 },
  { cls := 6, slots := #[.null, .int 0, .int 0, .null], vm := .none },
  { cls := 6, slots := #[.null, .int 1, .int 0, .null], vm := .none },
  { cls := 6, slots := #[.null, .int 2, .int 0, .null], vm := .none }]
def classes : Array Class := #[k0, k1, k2, k3, k4, k5, k6, k7, k8, k9, k10, k11, k12]
def interned : List (Array UInt16 × Addr) := []
def slotsUsed : Nat := 16
def theMethod : MethodId := ⟨1, 1⟩
def args0 : Array Value := #[.int 5]
def aboutOver (below : List Frame) : State where
  vm := { classes := classes, interned := interned.toArray }
  heap := heap
  slotsUsed := slotsUsed
  threads := #[{ frames := .invoking theMethod args0 :: below }]
def below0 : List Frame := [.native { method := ⟨0, 0⟩, args := #[] }]
def about1 : State := aboutOver below0
def p0 : Program := .bare "" "" ""
def e0 : Env := launch0.env 0 0 0
theorem w_frames : about1.frames = Frame.invoking theMethod args0 :: below0 := rfl
set_option maxRecDepth 65536 in
theorem w_args : argsFit about1.vm theMethod args0 = true := by decide +kernel
set_option maxRecDepth 65536 in
theorem w_heap : heapFits about1 = true := by decide +kernel
set_option maxRecDepth 65536 in
theorem w_runnable : about1.curStatus? = some .runnable := by decide +kernel
set_option maxRecDepth 65536 in
theorem w_alone : about1.alone = true := by decide +kernel
set_option maxRecDepth 65536 in
theorem w_named : about1.methodNamed? x = some theMethod := by decide +kernel
set_option maxRecDepth 65536 in
theorem w_hears : about1.hears theMethod below0 = true := by decide +kernel
set_option maxRecDepth 65536 in
theorem w_ripe : about1.ripe theMethod args0 below0 = true := by decide +kernel
theorem w_running : about1.status = .running := rfl
set_option maxRecDepth 65536 in
theorem w_room : about1.hasRoom e0.platform room_1 = true :=
  launch0.hasRoom_least _ room_1 (by decide +kernel) (by decide +kernel) (by decide +kernel) (by decide +kernel) (by decide +kernel) (by decide +kernel)
theorem allAtoms_all (ts : List Jvm.Cond) (a : Array Jvm.Value) (st : Jvm.State) : (allAtoms ts).before a st = ts.all (fun c => c.before a st) := by
  induction ts with
  | nil => rfl
  | cons c t ih =>
    show (Jvm.Cond.and c (allAtoms t)).before a st = _
    rw [Jvm.Cond.before_and, ih, List.all_cons]
def words1 : List Jvm.Cond := Jvm.Cond.code x code maxLocals ret :: tables_1
/-- a 'code' word, met by the world's own term for the bytes: nothing is compared byte by byte -/
theorem code_word {y : MethodName} {bytes : ByteArray} {mx : Nat} {rt : Option FieldType} {a : Array Value} {s : State} {m : MethodId} {meth : Method} {c : Code} (h1 : s.methodNamed? y = some m) (h2 : s.vm.method? m = some meth) (h3 : meth.code = some c) (h4 : c.code = bytes)
    (h5 : (c.maxLocals == mx && c.exceptionTable.isEmpty && decide (c.maxStack ≤ mostOperands) && decide (meth.sig.returnType = rt) && !meth.locks && decide (parseMethodDescriptor y.desc = some meth.sig)) = true) : (Jvm.Cond.code y bytes mx rt).before a s = true := by
  simp only [Bool.and_eq_true, beq_iff_eq, Bool.not_eq_true', decide_eq_true_eq] at h5
  obtain ⟨⟨⟨⟨⟨g1, g2⟩, g3⟩, g4⟩, g5⟩, g6⟩ := h5
  simp [Cond.before, Cond.holds, Cond.value, h1, h2, h3, h4, g1, g2, g3, g4, g5, g6]
def isCode : Jvm.Cond → Bool
  | .code _ _ _ _ => true
  | _ => false
theorem all_split {L : List Jvm.Cond} {P : Jvm.Cond → Bool} (h1 : L.all (fun c => isCode c || P c) = true) (h2 : ∀ c ∈ L.filter isCode, P c = true) : L.all P = true := by
  refine List.all_eq_true.mpr fun c hc => ?_
  have h := List.all_eq_true.mp h1 c hc
  rcases Bool.eq_false_or_eq_true (isCode c) with hi | hi
  · exact h2 c (List.mem_filter.mpr ⟨hc, hi⟩)
  · simpa [hi] using h
set_option maxRecDepth 65536 in
theorem w_c0 : (Jvm.Cond.code x code maxLocals ret).before args0 about1 = true := code_word (m := ⟨1, 1⟩) (meth := k1m1) (c := k1c1) (by decide +kernel) rfl rfl rfl (by decide +kernel)
set_option maxRecDepth 65536 in
theorem w_c1 : (Jvm.Cond.code ({ cls := "com/example/graf/graf/flow/When", name := "holds", desc := "(I)Z" } : Jvm.MethodName) prog_11_method_5_code (2 : Nat) (Option.some Jvm.ClassFile.FieldType.boolean)).before args0 about1 = true := code_word (m := ⟨6, 0⟩) (meth := k6m0) (c := k6c0) (by decide +kernel) rfl rfl rfl (by decide +kernel)
set_option maxRecDepth 65536 in
theorem w_c2 : (Jvm.Cond.code ({ cls := "java/lang/Enum", name := "ordinal", desc := "()I" } : Jvm.MethodName) jdk_37_method_2_code (1 : Nat) (Option.some Jvm.ClassFile.FieldType.int)).before args0 about1 = true := code_word (m := ⟨5, 0⟩) (meth := k5m0) (c := k5c0) (by decide +kernel) rfl rfl rfl (by decide +kernel)
set_option maxRecDepth 65536 in
theorem w_c3 : (Jvm.Cond.code ({ cls := "com/example/graf/graf/flow/Step", name := "isSuccess", desc := "(I)Z" } : Jvm.MethodName) prog_10_method_2_code (1 : Nat) (Option.some Jvm.ClassFile.FieldType.boolean)).before args0 about1 = true := code_word (m := ⟨7, 0⟩) (meth := k7m0) (c := k7c0) (by decide +kernel) rfl rfl rfl (by decide +kernel)
def codes1 : List Jvm.Cond := [Jvm.Cond.code x code maxLocals ret, Jvm.Cond.code ({ cls := "com/example/graf/graf/flow/When", name := "holds", desc := "(I)Z" } : Jvm.MethodName) prog_11_method_5_code (2 : Nat) (Option.some Jvm.ClassFile.FieldType.boolean), Jvm.Cond.code ({ cls := "java/lang/Enum", name := "ordinal", desc := "()I" } : Jvm.MethodName) jdk_37_method_2_code (1 : Nat) (Option.some Jvm.ClassFile.FieldType.int), Jvm.Cond.code ({ cls := "com/example/graf/graf/flow/Step", name := "isSuccess", desc := "(I)Z" } : Jvm.MethodName) prog_10_method_2_code (1 : Nat) (Option.some Jvm.ClassFile.FieldType.boolean)]
set_option maxRecDepth 65536 in
theorem codes_eq : words1.filter isCode = codes1 := rfl
theorem w_codes : ∀ c ∈ words1.filter isCode, c.before args0 about1 = true := by
  rw [codes_eq]
  intro c hc
  simp only [codes1, List.mem_cons, List.not_mem_nil, or_false] at hc
  rcases hc with rfl | rfl | rfl | rfl
  · exact w_c0
  · exact w_c1
  · exact w_c2
  · exact w_c3
set_option maxRecDepth 65536 in
theorem w_t1 : (words1.take 24).all (fun c => isCode c || c.before args0 about1) = true := by decide +kernel
set_option maxRecDepth 65536 in
theorem w_t2 : (words1.drop 24).all (fun c => isCode c || c.before args0 about1) = true := by decide +kernel
theorem w_tables : (allAtoms (Jvm.Cond.code x code maxLocals ret :: tables_1)).before args0 about1 = true := by
  rw [allAtoms_all]
  show words1.all (fun c => c.before args0 about1) = true
  refine all_split ?_ w_codes
  rw [← List.take_append_drop 24 words1, List.all_append, w_t1, w_t2]
  rfl
set_option maxRecDepth 65536 in
theorem w_case : (Jvm.Cond.and given_1 narrow_1).before args0 about1 = true := by decide +kernel
theorem w_applies : (headSpec (Jvm.Cond.code x code maxLocals ret :: tables_1) room_1).applies x e0.platform about1 = true :=
  (Spec.applies_iff w_frames).mpr ⟨w_running, w_runnable, w_alone, w_named, w_hears, w_ripe, w_room, w_tables⟩
theorem atStart : AtStart classFile x code maxLocals ret World_1 tables_1 room_1 Calls_1 rest_1 Pre_1 launch0 p0 e0 about1 theMethod args0 below0 :=
  ⟨lists_1, trivial, launch0.admits_env _ _ _, launch0.least_env, fairChoices_fair.cas, fairChoices_fair.clock, w_frames, w_args, w_heap, w_applies, trivial, trivial, w_case⟩
end start1
theorem witness_1 : WitnessClaimed_1 := ⟨start1.p0, start1.e0, start1.about1, start1.theMethod, start1.args0, start1.below0, start1.atStart⟩
end Jvm.Pilot.@@N@@
