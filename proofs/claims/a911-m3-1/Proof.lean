import JvmDerived
import JvmDerived.Pilot.@@N@@Statement
import JvmDerived.Pilot.@@N@@Code
set_option linter.unusedVariables false
set_option linter.unusedSimpArgs false
namespace Jvm.OwnGo
open Jvm Jvm.ClassFile Sem Op Lib Jvm.Free Jvm.Stand Jvm.LawKit Jvm.RoadKit
section Own
variable {p : Program} {l : Launch} {e : Env} {R : Room} {s : State} {m : MethodId} {args : Array Value} {below : List Frame} {meth : Method} {c : Code} {T : State} {locs : List Loc} {cells slots : Nat} {Q : Option Value → Heap → List Loc → Prop} {C N : Nat}
/-- from A on the run comes to its return, and what it returns and leaves is as Q says -/
def Go (p : Program) (e : Env) (below : List Frame) (s : State) (Q : Option Value → Heap → List Loc → Prop) (C N : Nat) (A : State) : Prop :=
  ∃ s₂ o, Steps p.tables e below A s₂ ∧ s₂.status = .running ∧ Ended s₂ below o ∧ ∃ v L, o = .returned v ∧ Q v s₂.heap L ∧ FrameEnd s o s₂ L C N
theorem Go.st {A B : State} (h : ∀ t, Steps p.tables e below B t → Steps p.tables e below A t) (k : Go p e below s Q C N B) : Go p e below s Q C N A := by
  obtain ⟨s₂, o, h1, r⟩ := k
  exact ⟨s₂, o, h _ h1, r⟩
theorem Go.tr {A B : State} (h : Steps p.tables e below A B) (k : Go p e below s Q C N B) : Go p e below s Q C N A := k.st fun _ q => h.trans q
theorem Go.retI (X : Stand p l e R s m args below meth c T locs cells slots) (hx : p.tables.exec = Jvm.exec) (hlk : meth.locks = false) (hret : meth.sig.returnType = some .int) {pc : Nat} {Ls : Array Slot} {z : Int32} {rest : List Value} (hd : decode c.code pc = .ok (.ireturn, 1))
    (q : Q (some (.int z)) T.heap locs) (hc : cells ≤ C) (hn : slots ≤ N) : Go p e below s Q C N (T.setTop (mkF m pc Ls (.int z :: rest))) := by
  obtain ⟨fs, hr, hrun, hended, hW, hsame⟩ := X.leave (v := some (.int z)) (fun h => by rw [hret] at h; cases h) hlk
  exact ⟨_, _, retOut X hx hret rfl (Or.inl ⟨rfl, Or.inl rfl, _, rfl⟩) hd hr, hrun, hended, _, _, rfl, q, ⟨_, rfl⟩, hW, hsame.mono hc hn⟩
theorem Go.retN (X : Stand p l e R s m args below meth c T locs cells slots) (hx : p.tables.exec = Jvm.exec) (hlk : meth.locks = false) {t : FieldType} (ht : t = .boolean ∨ t = .byte ∨ t = .char ∨ t = .short) (hret : meth.sig.returnType = some t) {pc : Nat} {Ls : Array Slot} {z z' : Int32} {rest : List Value} (hd : decode c.code pc = .ok (.ireturn, 1))
    (hz : nar t z = z') (q : Q (some (.int z')) T.heap locs) (hc : cells ≤ C) (hn : slots ≤ N) : Go p e below s Q C N (T.setTop (mkF m pc Ls (.int z :: rest))) := by
  subst hz
  obtain ⟨fs, hr, hrun, hended, hW, hsame⟩ := X.leave (v := some (.int (nar t z))) (fun h => by rw [hret] at h; cases h) hlk
  exact ⟨_, _, Jvm.RoadKit.retN X hx hret ht hd hr, hrun, hended, _, _, rfl, q, ⟨_, rfl⟩, hW, hsame.mono hc hn⟩
theorem Go.retJ (X : Stand p l e R s m args below meth c T locs cells slots) (hx : p.tables.exec = Jvm.exec) (hlk : meth.locks = false) (hret : meth.sig.returnType = some .long) {pc : Nat} {Ls : Array Slot} {z : Int64} {rest : List Value} (hd : decode c.code pc = .ok (.lreturn, 1))
    (q : Q (some (.long z)) T.heap locs) (hc : cells ≤ C) (hn : slots ≤ N) : Go p e below s Q C N (T.setTop (mkF m pc Ls (.long z :: rest))) := by
  obtain ⟨fs, hr, hrun, hended, hW, hsame⟩ := X.leave (v := some (.long z)) (fun h => by rw [hret] at h; cases h) hlk
  exact ⟨_, _, retOut X hx hret rfl (Or.inr (Or.inl ⟨rfl, rfl, _, rfl⟩)) hd hr, hrun, hended, _, _, rfl, q, ⟨_, rfl⟩, hW, hsame.mono hc hn⟩
theorem nar_ref {t : FieldType} {w : Value} (hw : w.isRef = true) : narrow t w = w := by
  cases t <;> cases w <;> first | rfl | (simp [Value.isRef] at hw)
theorem Go.retA (X : Stand p l e R s m args below meth c T locs cells slots) (hx : p.tables.exec = Jvm.exec) (hlk : meth.locks = false) {t : FieldType} (ht : t.isReference = true) (hret : meth.sig.returnType = some t) {pc : Nat} {Ls : Array Slot} {w : Value} {rest : List Value} (hw : w.isRef = true) (hd : decode c.code pc = .ok (.areturn, 1))
    (q : Q (some w) T.heap locs) (hc : cells ≤ C) (hn : slots ≤ N) : Go p e below s Q C N (T.setTop (mkF m pc Ls (w :: rest))) := by
  obtain ⟨fs, hr, hrun, hended, hW, hsame⟩ := X.leave (v := some w) (fun h => by rw [hret] at h; cases h) hlk
  exact ⟨_, _, retOut X hx hret (nar_ref hw) (Or.inr (Or.inr (Or.inr (Or.inr ⟨rfl, ht, hw⟩)))) hd hr, hrun, hended, _, _, rfl, q, ⟨_, rfl⟩, hW, hsame.mono hc hn⟩
theorem Go.retV (X : Stand p l e R s m args below meth c T locs cells slots) (hx : p.tables.exec = Jvm.exec) (hlk : meth.locks = false) (hret : meth.sig.returnType = none) {pc : Nat} {Ls : Array Slot} (hd : decode c.code pc = .ok (.return_, 1))
    (q : Q none T.heap locs) (hc : cells ≤ C) (hn : slots ≤ N) : Go p e below s Q C N (T.setTop (mkF m pc Ls [])) := by
  obtain ⟨fs, hr, hrun, hended, hW, hsame⟩ := X.leave (v := none) (fun _ => rfl) hlk
  exact ⟨_, _, X.returnOut hx hret hd hr, hrun, hended, _, _, rfl, q, ⟨_, rfl⟩, hW, hsame.mono hc hn⟩
theorem up {k n : Nat} (X : Stand p l e R s m args below meth c T locs cells slots) (hc : cells ≤ k) (hn : slots ≤ n) : Stand p l e R s m args below meth c T locs k n := { X with same := X.same.mono hc hn }
end Own
section Num
variable {x y : Int32} {u v : Int64} {a b : Int}
theorem ltI (ha : x.toInt = a) (hb : y.toInt = b) (h : a < b) : x < y := by rw [Int32.lt_iff_toInt_lt, ha, hb]; exact h
theorem nltI (ha : x.toInt = a) (hb : y.toInt = b) (h : ¬ a < b) : ¬ x < y := by rw [Int32.lt_iff_toInt_lt, ha, hb]; exact h
theorem eqI (ha : x.toInt = a) (hb : y.toInt = b) (h : a = b) : x = y := Int32.toInt_inj.mp (by rw [ha, hb]; exact h)
theorem neI (ha : x.toInt = a) (hb : y.toInt = b) (h : ¬ a = b) : ¬ x = y := fun q => h (by rw [← ha, ← hb, q])
theorem ltJ (ha : u.toInt = a) (hb : v.toInt = b) (h : a < b) : u < v := by rw [Int64.lt_iff_toInt_lt, ha, hb]; exact h
theorem nltJ (ha : u.toInt = a) (hb : v.toInt = b) (h : ¬ a < b) : ¬ u < v := by rw [Int64.lt_iff_toInt_lt, ha, hb]; exact h
theorem eqJ (ha : u.toInt = a) (hb : v.toInt = b) (h : a = b) : u = v := Int64.toInt_inj.mp (by rw [ha, hb]; exact h)
theorem neJ (ha : u.toInt = a) (hb : v.toInt = b) (h : ¬ a = b) : ¬ u = v := fun q => h (by rw [← ha, ← hb, q])
theorem bool_nar (h : x.toInt = 0 ∨ x.toInt = 1) : nar .boolean x = x := by
  rcases h with h | h
  · rw [Int32.toInt_inj.mp (h.trans (by decide : (0 : Int) = (0 : Int32).toInt))]; decide
  · rw [Int32.toInt_inj.mp (h.trans (by decide : (1 : Int) = (1 : Int32).toInt))]; decide
end Num
section Words
variable {Z : State} {args : Array Value} {t : Term} {C n d : String} {a : Addr}
theorem fld_int {k : Int32} (ht : t.eval args Z none [] Z = some (.ref a)) (h : (Cond.eq (Term.field t C n d) (Term.int k)).value args Z none Z [] = some true) : Fld Z Z.heap a C n d (.int k) := by
  obtain ⟨u, v, e1, e2, k1, k2⟩ := cmp_v (Or.inl h)
  have e3 : v = .int k := Option.some.inj (e2.symm.trans (Term.int_eval k))
  subst e3
  obtain ⟨w, rfl⟩ : ∃ w, u = .int w := k2
  have q := gotT (Cond.eq_ints e1 (Term.int_eval k)) h
  subst q
  exact Fld.start (by rw [← fld_at (args := args) (first := Z) (o := none) (idx := []) ht]; exact e1)
theorem sta_long {k : Int64} (h : (Cond.eq (Term.static C n d) (Term.long k)).value args Z none Z [] = some true) : (Term.static C n d).eval args Z none [] Z = some (.long k) := by
  obtain ⟨u, v, e1, e2, k1, k2⟩ := cmp_v (Or.inl h)
  have e3 : v = .long k := Option.some.inj (e2.symm.trans rfl)
  subst e3
  obtain ⟨w, rfl⟩ : ∃ w, u = .long w := k2
  have q := gotT (eq_L (y := k) e1 rfl) h
  subst q
  exact e1
theorem sta_int {k : Int32} (h : (Cond.eq (Term.static C n d) (Term.int k)).value args Z none Z [] = some true) : (Term.static C n d).eval args Z none [] Z = some (.int k) := by
  obtain ⟨u, v, e1, e2, k1, k2⟩ := cmp_v (Or.inl h)
  have e3 : v = .int k := Option.some.inj (e2.symm.trans rfl)
  subst e3
  obtain ⟨w, rfl⟩ : ∃ w, u = .int w := k2
  have q := gotT (Cond.eq_ints e1 (Term.int_eval k)) h
  subst q
  exact e1
/-- a cell that is no class's statics -/
def Exi (h : Heap) (x : Addr) : Prop := ∃ c : Cell, h[x]? = some c ∧ c.vm.isStatics = false
theorem exi_exa {h : Heap} (F : Exa Z h a C) : Exi h a := by obtain ⟨c, k, h1, -, -, h4, -⟩ := F; exact ⟨c, h1, h4⟩
theorem sta_keep {h h' : Heap} {v : Value} {ws : List Addr} (F : Sta Z h C n d v) (K : Keep h h' ws) (q : ∀ x ∈ ws, Exi h x) : Sta Z h' C n d v := by
  obtain ⟨cf, i, k, f, st, cell, h1, h2, h3, h4, h5, h6, h7⟩ := F
  refine ⟨cf, i, k, f, st, cell, h1, h2, h3, h4, K.2.1 st cell h5 (fun hm => ?_), h6, h7⟩
  obtain ⟨c, e1, e2⟩ := q st hm
  cases h5.symm.trans e1
  rw [h6] at e2; cases e2
theorem self_sel {s : State} {as as' : Array Value} {y z : MethodName} (hs : (Cond.selects C z z).before as s = true) (hc : z.cls = y.cls) (hp : s.PrivateAt y) (hi : (Cond.instanceMethod y).before as' s = true) (hy : y.cls ≠ "java/lang/invoke/MethodHandle" ∧ y.cls ≠ "java/lang/invoke/VarHandle") : (Cond.selects y.cls y y).before as' s = true := by
  obtain ⟨c, r, m, h1, h2, h3, h4, mk, h5, h6⟩ := Cond.selects_spec hs
  exact selects_self_of_private (hc ▸ findClass_of_methodNamed h3) h5 h6 hp hi hy
end Words
end Jvm.OwnGo
namespace Jvm.Pilot.@@N@@
open Jvm Jvm.ClassFile Sem Op Lib Jvm.Free Jvm.Stand Jvm.LawKit Jvm.RoadKit Bundle Jvm.OwnGo Jvm.Pilot.@@N@@.Jvm.D
theorem pn_0 : plainName "com/example/ballast/ballast/database/CompactionPolicy" = true := by first | (simp [plainName, overriddenIn]; done) | decide +kernel
theorem d1_0 : decode prog_7_method_1_code 0 = .ok (.aload_n 0, 1) := by decide +kernel
theorem d1_1 : decode prog_7_method_1_code 1 = .ok (.invokespecial 1, 3) := by decide +kernel
theorem d1_4 : decode prog_7_method_1_code 4 = .ok (.aload_n 0, 1) := by decide +kernel
theorem d1_5 : decode prog_7_method_1_code 5 = .ok (.lload_n 1, 1) := by decide +kernel
theorem d1_6 : decode prog_7_method_1_code 6 = .ok (.putfield 7, 3) := by decide +kernel
theorem sn_0 {Z : State} {a0 : Array Value} (hw : ∀ d ∈ tables_1, d.before a0 Z = true) : Jvm.RoadKit.slotOf Z "com/example/ballast/ballast/database/CompactionPolicy" "since" "J" ≠ Jvm.RoadKit.slotOf Z "com/example/ballast/ballast/database/CompactionPolicy" "baseBytes" "J" := slot_ne (Or.inl (hw _ (List.mem_of_getElem? (i := 12) rfl))) (Or.inl (hw _ (List.mem_of_getElem? (i := 10) rfl))) (by decide) (t := .long) (t' := .long) (by decide) (by decide)
theorem sn_1 {Z : State} {a0 : Array Value} (hw : ∀ d ∈ tables_1, d.before a0 Z = true) : Jvm.RoadKit.slotOf Z "com/example/ballast/ballast/database/CompactionPolicy" "transactions" "J" ≠ Jvm.RoadKit.slotOf Z "com/example/ballast/ballast/database/CompactionPolicy" "baseBytes" "J" := slot_ne (Or.inl (hw _ (List.mem_of_getElem? (i := 19) rfl))) (Or.inl (hw _ (List.mem_of_getElem? (i := 10) rfl))) (by decide) (t := .long) (t' := .long) (by decide) (by decide)
theorem d1_9 : decode prog_7_method_1_code 9 = .ok (.aload_n 0, 1) := by decide +kernel
theorem d1_10 : decode prog_7_method_1_code 10 = .ok (.lload_n 3, 1) := by decide +kernel
theorem d1_11 : decode prog_7_method_1_code 11 = .ok (.putfield 13, 3) := by decide +kernel
theorem sn_2 {Z : State} {a0 : Array Value} (hw : ∀ d ∈ tables_1, d.before a0 Z = true) : Jvm.RoadKit.slotOf Z "com/example/ballast/ballast/database/CompactionPolicy" "baseBytes" "J" ≠ Jvm.RoadKit.slotOf Z "com/example/ballast/ballast/database/CompactionPolicy" "since" "J" := slot_ne (Or.inl (hw _ (List.mem_of_getElem? (i := 10) rfl))) (Or.inl (hw _ (List.mem_of_getElem? (i := 12) rfl))) (by decide) (t := .long) (t' := .long) (by decide) (by decide)
theorem sn_3 {Z : State} {a0 : Array Value} (hw : ∀ d ∈ tables_1, d.before a0 Z = true) : Jvm.RoadKit.slotOf Z "com/example/ballast/ballast/database/CompactionPolicy" "transactions" "J" ≠ Jvm.RoadKit.slotOf Z "com/example/ballast/ballast/database/CompactionPolicy" "since" "J" := slot_ne (Or.inl (hw _ (List.mem_of_getElem? (i := 19) rfl))) (Or.inl (hw _ (List.mem_of_getElem? (i := 12) rfl))) (by decide) (t := .long) (t' := .long) (by decide) (by decide)
theorem d1_14 : decode prog_7_method_1_code 14 = .ok (.return_, 1) := by decide +kernel
theorem ef_rm1 (m : MethodId) (o : Addr) (by0 : Int64) (si0 : Int64) : entryFrame m #[(.ref o), (.long by0), (.long si0)] 5 = mkF m 0 #[.val (.ref o), .val (.long by0), .second, .val (.long si0), .second] [] := by first | (simp [entryFrame, mkF, argsToLocals, Value.category]; done) | rfl
def Q1 (Z : State) (o : Addr) (by0 : Int64) (si0 : Int64) (b_ : Int64) (s_ : Int64) (t_ : Int64) (h0 : Heap) (n0 : Nat) (vv : Option Value) (h : Heap) (LL : List Loc) : Prop := vv = none ∧ Fr n0 LL ∧ Keep h0 h [o] ∧ (Exa Z h o "com/example/ballast/ballast/database/CompactionPolicy") ∧ (Fld Z h o "com/example/ballast/ballast/database/CompactionPolicy" "baseBytes" "J" (.long by0)) ∧ (Fld Z h o "com/example/ballast/ballast/database/CompactionPolicy" "since" "J" (.long si0)) ∧ (Fld Z h o "com/example/ballast/ballast/database/CompactionPolicy" "transactions" "J" (.long t_))
set_option maxRecDepth 65536 in
set_option maxHeartbeats 40000000 in
theorem rm1 (l : Launch) (Z : State) (a0 : Array Value) (hw : ∀ d ∈ tables_1, d.before a0 Z = true) (ws : List Jvm.Cond) (o : Addr) (by0 : Int64) (si0 : Int64) (b_ : Int64) (s_ : Int64) (t_ : Int64) (h0 : Heap) (n0 : Nat) (Z0 : n0 ≤ h0.size) (hE : Exa Z h0 o "com/example/ballast/ballast/database/CompactionPolicy") (hG : n0 ≤ o) (hb_ : Fld Z h0 o "com/example/ballast/ballast/database/CompactionPolicy" "baseBytes" "J" (.long b_)) (hs_ : Fld Z h0 o "com/example/ballast/ballast/database/CompactionPolicy" "since" "J" (.long s_)) (ht_ : Fld Z h0 o "com/example/ballast/ballast/database/CompactionPolicy" "transactions" "J" (.long t_)) :
    MetFree l (⟨"com/example/ballast/ballast/database/CompactionPolicy", "<init>", "(JJ)V"⟩ : MethodName) (head1 (Jvm.Cond.code (⟨"com/example/ballast/ballast/database/CompactionPolicy", "<init>", "(JJ)V"⟩ : MethodName) prog_7_method_1_code 5 none :: ws) ({ frames := 1, cells := 0, slots := 0, locals := 12 } : Room)) (fun aa UU => aa = #[(.ref o), (.long by0), (.long si0)] ∧ Z.Warmed39 UU.vm ∧ UU.heap = h0) (fun _ _ _ _ _ => True) (fun _ UU oo UU' => ∃ vv LL, oo = .returned vv ∧ Q1 Z o by0 si0 b_ s_ t_ h0 n0 vv UU'.heap LL ∧ FrameEnd UU oo UU' LL 0 0) := by
  refine MetFree.of_bodySF (plainFor_of_name pn_0) hisR ?_
  intro p e s m args below meth c s₁ Bd hml0 hP hK
  obtain ⟨rfl, hZ, hh⟩ := hP
  have hx := Bd.exec
  have hby := Bd.bytes
  have hlk : meth.locks = false := BodyLoose.notSynchronized Bd
  have hml : c.maxLocals = 5 := hml0
  have hown : s.vm.findClass "com/example/ballast/ballast/database/CompactionPolicy" = some m.cls := findClass_of_methodNamed Bd.named
  have hnm := (name_of_methodNamed Bd.named Bd.method).1
  have X0 : Stand p l e ({ frames := 1, cells := 0, slots := 0, locals := 12 } : Room) s m #[(.ref o), (.long by0), (.long si0)] below meth c s₁ [] 0 0 := Stand.of_body Bd
  have e0 : s₁.heap = h0 := by rw [← hh, Bd.state]; rfl
  have N0 := Fr.nil n0
  have K0 : Keep h0 h0 [o] := Keep.refl h0 _
  refine (?_ : Go p e below s (Q1 Z o by0 si0 b_ s_ t_ h0 n0) 0 0 (s₁.setTop (entryFrame m #[(.ref o), (.long by0), (.long si0)] 5)))
  rw [ef_rm1]
  generalize hQ : Q1 Z o by0 si0 b_ s_ t_ h0 n0 = Q
  show Go p e below s Q 0 0 (s₁.setTop (mkF m 0 #[.val (.ref o), .val (.long by0), .second, .val (.long si0), .second] []))
  have f1 := rng64 by0
  have f2 := rng64 si0
  refine Go.st (fun _ k => XS.aloadN X0.here hx rfl (hb hby d1_0) rfl rfl k) ?_
  show Go p e below s Q 0 0 (s₁.setTop (mkF m 1 #[.val (.ref o), .val (.long by0), .second, .val (.long si0), .second] [(.ref o)]))
  obtain ⟨T3, X3, e3, st3⟩ := initO X0 hx hZ hown (hw _ (List.mem_of_getElem? (i := 6) rfl)) (hw _ (List.mem_of_getElem? (i := 7) rfl)) (hw _ (List.mem_of_getElem? (i := 8) rfl)) e0 (g := (mkF m 1 #[.val (.ref o), .val (.long by0), .second, .val (.long si0), .second] [(.ref o)])) rfl (by rw [hml]; rfl) rfl (hb hby d1_1) (by decide) (W := 0) (by show 2 * 0 + _ ≤ _; exact Nat.le_of_eq rfl) (by decide)
  refine Go.st st3 ?_
  show Go p e below s Q 0 0 (T3.setTop (mkF m 4 #[.val (.ref o), .val (.long by0), .second, .val (.long si0), .second] []))
  refine Go.st (fun _ k => XS.aloadN X3.here hx rfl (hb hby d1_4) rfl rfl k) ?_
  show Go p e below s Q 0 0 (T3.setTop (mkF m 5 #[.val (.ref o), .val (.long by0), .second, .val (.long si0), .second] [(.ref o)]))
  refine Go.st (fun _ k => XS.lloadN X3.here hx rfl (hb hby d1_5) rfl k) ?_
  show Go p e below s Q 0 0 (T3.setTop (mkF m 6 #[.val (.ref o), .val (.long by0), .second, .val (.long si0), .second] [(.long by0), (.ref o)]))
  obtain ⟨T4, h4, X4, e4, W4, st4⟩ := putF X3 hx hZ hown (host := "") (Or.inl (hw _ (List.mem_of_getElem? (i := 9) rfl))) Via.refl e3 hb_ hE (Or.inl (hw _ (List.mem_of_getElem? (i := 10) rfl))) (hw _ (List.mem_of_getElem? (i := 1) rfl)) (ty := .long) (by decide) rfl rfl (g := (mkF m 6 #[.val (.ref o), .val (.long by0), .second, .val (.long si0), .second] [(.long by0), (.ref o)])) rfl rfl (hb hby d1_6)
  have h5 : Exa Z h4 o "com/example/ballast/ballast/database/CompactionPolicy" := hE.wr W4
  have h6 : Fld Z h4 o "com/example/ballast/ballast/database/CompactionPolicy" "baseBytes" "J" (.long by0) := hb_.same W4
  have h7 : Fld Z h4 o "com/example/ballast/ballast/database/CompactionPolicy" "since" "J" (.long s_) := hs_.other W4 (Or.inr (sn_0 hw))
  have h8 : Fld Z h4 o "com/example/ballast/ballast/database/CompactionPolicy" "transactions" "J" (.long t_) := ht_.other W4 (Or.inr (sn_1 hw))
  have K4 : Keep h0 h4 [o] := K0.wr W4 (Or.inl (List.mem_of_getElem? (i := 0) rfl))
  have N4 := Fr.snoc X4 N0 hG
  refine Go.st st4 ?_
  show Go p e below s Q 0 0 (T4.setTop (mkF m 9 #[.val (.ref o), .val (.long by0), .second, .val (.long si0), .second] []))
  refine Go.st (fun _ k => XS.aloadN X4.here hx rfl (hb hby d1_9) rfl rfl k) ?_
  show Go p e below s Q 0 0 (T4.setTop (mkF m 10 #[.val (.ref o), .val (.long by0), .second, .val (.long si0), .second] [(.ref o)]))
  refine Go.st (fun _ k => XS.lloadN X4.here hx rfl (hb hby d1_10) rfl k) ?_
  show Go p e below s Q 0 0 (T4.setTop (mkF m 11 #[.val (.ref o), .val (.long by0), .second, .val (.long si0), .second] [(.long si0), (.ref o)]))
  obtain ⟨T9, h9, X9, e9, W9, st9⟩ := putF X4 hx hZ hown (host := "") (Or.inl (hw _ (List.mem_of_getElem? (i := 11) rfl))) Via.refl e4 h7 h5 (Or.inl (hw _ (List.mem_of_getElem? (i := 12) rfl))) (hw _ (List.mem_of_getElem? (i := 1) rfl)) (ty := .long) (by decide) rfl rfl (g := (mkF m 11 #[.val (.ref o), .val (.long by0), .second, .val (.long si0), .second] [(.long si0), (.ref o)])) rfl rfl (hb hby d1_11)
  have h10 : Exa Z h9 o "com/example/ballast/ballast/database/CompactionPolicy" := h5.wr W9
  have h11 : Fld Z h9 o "com/example/ballast/ballast/database/CompactionPolicy" "baseBytes" "J" (.long by0) := h6.other W9 (Or.inr (sn_2 hw))
  have h12 : Fld Z h9 o "com/example/ballast/ballast/database/CompactionPolicy" "since" "J" (.long si0) := h7.same W9
  have h13 : Fld Z h9 o "com/example/ballast/ballast/database/CompactionPolicy" "transactions" "J" (.long t_) := h8.other W9 (Or.inr (sn_3 hw))
  have K9 : Keep h0 h9 [o] := K4.wr W9 (Or.inl (List.mem_of_getElem? (i := 0) rfl))
  have N9 := Fr.snoc X9 N4 hG
  refine Go.st st9 ?_
  show Go p e below s Q 0 0 (T9.setTop (mkF m 14 #[.val (.ref o), .val (.long by0), .second, .val (.long si0), .second] []))
  exact Go.retV X9 hx hlk Bd.returns (hb hby d1_14) (by rw [← hQ, e9]; exact ⟨rfl, N9, K9, h10, h11, h12, h13⟩) (by decide) (by decide)
theorem d3_0 : decode prog_7_method_2_code 0 = .ok (.aload_n 0, 1) := by decide +kernel
theorem d3_1 : decode prog_7_method_2_code 1 = .ok (.dup, 1) := by decide +kernel
theorem d3_2 : decode prog_7_method_2_code 2 = .ok (.getfield 16, 3) := by decide +kernel
theorem d3_5 : decode prog_7_method_2_code 5 = .ok (.lconst 1, 1) := by decide +kernel
theorem d3_6 : decode prog_7_method_2_code 6 = .ok (.ladd, 1) := by decide +kernel
theorem d3_7 : decode prog_7_method_2_code 7 = .ok (.putfield 16, 3) := by decide +kernel
theorem sn_4 {Z : State} {a0 : Array Value} (hw : ∀ d ∈ tables_1, d.before a0 Z = true) : Jvm.RoadKit.slotOf Z "com/example/ballast/ballast/database/CompactionPolicy" "baseBytes" "J" ≠ Jvm.RoadKit.slotOf Z "com/example/ballast/ballast/database/CompactionPolicy" "transactions" "J" := slot_ne (Or.inl (hw _ (List.mem_of_getElem? (i := 10) rfl))) (Or.inl (hw _ (List.mem_of_getElem? (i := 19) rfl))) (by decide) (t := .long) (t' := .long) (by decide) (by decide)
theorem sn_5 {Z : State} {a0 : Array Value} (hw : ∀ d ∈ tables_1, d.before a0 Z = true) : Jvm.RoadKit.slotOf Z "com/example/ballast/ballast/database/CompactionPolicy" "since" "J" ≠ Jvm.RoadKit.slotOf Z "com/example/ballast/ballast/database/CompactionPolicy" "transactions" "J" := slot_ne (Or.inl (hw _ (List.mem_of_getElem? (i := 12) rfl))) (Or.inl (hw _ (List.mem_of_getElem? (i := 19) rfl))) (by decide) (t := .long) (t' := .long) (by decide) (by decide)
theorem d3_10 : decode prog_7_method_2_code 10 = .ok (.lload_n 3, 1) := by decide +kernel
theorem d3_11 : decode prog_7_method_2_code 11 = .ok (.aload_n 0, 1) := by decide +kernel
theorem d3_12 : decode prog_7_method_2_code 12 = .ok (.getfield 13, 3) := by decide +kernel
theorem d3_15 : decode prog_7_method_2_code 15 = .ok (.lsub, 1) := by decide +kernel
theorem d3_16 : decode prog_7_method_2_code 16 = .ok (.lstore 5, 2) := by decide +kernel
theorem d3_18 : decode prog_7_method_2_code 18 = .ok (.lload_n 1, 1) := by decide +kernel
theorem d3_19 : decode prog_7_method_2_code 19 = .ok (.ldc2_w 19, 3) := by decide +kernel
theorem d3_22 : decode prog_7_method_2_code 22 = .ok (.aload_n 0, 1) := by decide +kernel
theorem d3_23 : decode prog_7_method_2_code 23 = .ok (.getfield 7, 3) := by decide +kernel
theorem d3_26 : decode prog_7_method_2_code 26 = .ok (.lmul, 1) := by decide +kernel
theorem d3_27 : decode prog_7_method_2_code 27 = .ok (.lcmp, 1) := by decide +kernel
theorem d3_28 : decode prog_7_method_2_code 28 = .ok (.ifCond .le 15, 3) := by decide +kernel
theorem liJ_2 : (2 : Int64).toInt = 2 := by decide
theorem d3_31 : decode prog_7_method_2_code 31 = .ok (.lload_n 1, 1) := by decide +kernel
theorem d3_32 : decode prog_7_method_2_code 32 = .ok (.ldc2_w 21, 3) := by decide +kernel
theorem d3_35 : decode prog_7_method_2_code 35 = .ok (.lcmp, 1) := by decide +kernel
theorem d3_36 : decode prog_7_method_2_code 36 = .ok (.ifCond .lt 7, 3) := by decide +kernel
theorem liJ_10485760 : (10485760 : Int64).toInt = 10485760 := by decide
theorem d3_43 : decode prog_7_method_2_code 43 = .ok (.iconst 0, 1) := by decide +kernel
theorem d3_44 : decode prog_7_method_2_code 44 = .ok (.istore 7, 2) := by decide +kernel
theorem d3_46 : decode prog_7_method_2_code 46 = .ok (.aload_n 0, 1) := by decide +kernel
theorem d3_47 : decode prog_7_method_2_code 47 = .ok (.getfield 16, 3) := by decide +kernel
theorem d3_50 : decode prog_7_method_2_code 50 = .ok (.ldc2_w 23, 3) := by decide +kernel
theorem d3_53 : decode prog_7_method_2_code 53 = .ok (.lcmp, 1) := by decide +kernel
theorem d3_54 : decode prog_7_method_2_code 54 = .ok (.ifCond .lt 7, 3) := by decide +kernel
theorem liJ_1 : (1 : Int64).toInt = 1 := by decide
theorem liJ_100 : (100 : Int64).toInt = 100 := by decide
theorem d3_61 : decode prog_7_method_2_code 61 = .ok (.iconst 0, 1) := by decide +kernel
theorem d3_62 : decode prog_7_method_2_code 62 = .ok (.istore 8, 2) := by decide +kernel
theorem d3_64 : decode prog_7_method_2_code 64 = .ok (.iload 7, 2) := by decide +kernel
theorem d3_66 : decode prog_7_method_2_code 66 = .ok (.ifCond .eq 17, 3) := by decide +kernel
theorem liI_0 : (0 : Int32).toInt = 0 := by decide
theorem d3_83 : decode prog_7_method_2_code 83 = .ok (.iload 8, 2) := by decide +kernel
theorem d3_85 : decode prog_7_method_2_code 85 = .ok (.ifCond .eq 16, 3) := by decide +kernel
theorem d3_101 : decode prog_7_method_2_code 101 = .ok (.iconst 0, 1) := by decide +kernel
theorem d3_102 : decode prog_7_method_2_code 102 = .ok (.ireturn, 1) := by decide +kernel
theorem d3_39 : decode prog_7_method_2_code 39 = .ok (.iconst 1, 1) := by decide +kernel
theorem d3_40 : decode prog_7_method_2_code 40 = .ok (.goto 4, 3) := by decide +kernel
theorem liI_1 : (1 : Int32).toInt = 1 := by decide
theorem d3_69 : decode prog_7_method_2_code 69 = .ok (.iload 8, 2) := by decide +kernel
theorem d3_71 : decode prog_7_method_2_code 71 = .ok (.ifCond .ne 26, 3) := by decide +kernel
theorem d3_74 : decode prog_7_method_2_code 74 = .ok (.lload 5, 2) := by decide +kernel
theorem d3_76 : decode prog_7_method_2_code 76 = .ok (.getstatic 25, 3) := by decide +kernel
theorem d3_79 : decode prog_7_method_2_code 79 = .ok (.lcmp, 1) := by decide +kernel
theorem d3_80 : decode prog_7_method_2_code 80 = .ok (.ifCond .ge 17, 3) := by decide +kernel
theorem liJ_600000000000 : (600000000000 : Int64).toInt = 600000000000 := by decide
theorem d3_97 : decode prog_7_method_2_code 97 = .ok (.iconst 1, 1) := by decide +kernel
theorem d3_98 : decode prog_7_method_2_code 98 = .ok (.goto 4, 3) := by decide +kernel
theorem ef_rm3 (m : MethodId) (o : Addr) (by0 : Int64) (now : Int64) : entryFrame m #[(.ref o), (.long by0), (.long now)] 9 = mkF m 0 #[.val (.ref o), .val (.long by0), .second, .val (.long now), .second, .unset, .unset, .unset, .unset] [] := by first | (simp [entryFrame, mkF, argsToLocals, Value.category]; done) | rfl
def Q3 (Z : State) (o : Addr) (by0 : Int64) (now : Int64) (b_ : Int64) (s_ : Int64) (t_ : Int64) (h0 : Heap) (n0 : Nat) (vv : Option Value) (h : Heap) (LL : List Loc) : Prop := ∃ (r : Int32) (tn : Int64), vv = some (.int r) ∧ Fr n0 LL ∧ ((r.toInt = 1 ∧ (((2 : Int64) * b_).toInt < by0.toInt ∧ 10485760 ≤ by0.toInt ∧ 600000000000 ≤ (now - s_).toInt)) ∨ (r.toInt = 0 ∧ ¬ (((2 : Int64) * b_).toInt < by0.toInt ∧ 10485760 ≤ by0.toInt ∧ 600000000000 ≤ (now - s_).toInt))) ∧ (tn.toInt = t_.toInt + 1) ∧ Keep h0 h [o] ∧ (Exa Z h o "com/example/ballast/ballast/database/CompactionPolicy") ∧ (Fld Z h o "com/example/ballast/ballast/database/CompactionPolicy" "baseBytes" "J" (.long b_)) ∧ (Fld Z h o "com/example/ballast/ballast/database/CompactionPolicy" "since" "J" (.long s_)) ∧ (Fld Z h o "com/example/ballast/ballast/database/CompactionPolicy" "transactions" "J" (.long tn))
set_option maxRecDepth 65536 in
set_option maxHeartbeats 40000000 in
theorem rm3 (l : Launch) (Z : State) (a0 : Array Value) (hw : ∀ d ∈ tables_1, d.before a0 Z = true) (ws : List Jvm.Cond) (o : Addr) (by0 : Int64) (now : Int64) (b_ : Int64) (s_ : Int64) (t_ : Int64) (h0 : Heap) (n0 : Nat) (Z0 : n0 ≤ h0.size) (hE : Exa Z h0 o "com/example/ballast/ballast/database/CompactionPolicy") (hG : n0 ≤ o) (hS : Sta Z h0 "com/example/ballast/ballast/database/CompactionPolicy" "MIN_NANOS" "J" (.long (600000000000 : Int64))) (hb_ : Fld Z h0 o "com/example/ballast/ballast/database/CompactionPolicy" "baseBytes" "J" (.long b_)) (hs_ : Fld Z h0 o "com/example/ballast/ballast/database/CompactionPolicy" "since" "J" (.long s_)) (ht_ : Fld Z h0 o "com/example/ballast/ballast/database/CompactionPolicy" "transactions" "J" (.long t_)) (hp : 0 ≤ t_.toInt ∧ t_.toInt < 50) :
    MetFree l (⟨"com/example/ballast/ballast/database/CompactionPolicy", "written", "(JJ)Z"⟩ : MethodName) (head1 (Jvm.Cond.code (⟨"com/example/ballast/ballast/database/CompactionPolicy", "written", "(JJ)Z"⟩ : MethodName) prog_7_method_2_code 9 (some .boolean) :: ws) ({ frames := 0, cells := 0, slots := 0, locals := 0 } : Room)) (fun aa UU => aa = #[(.ref o), (.long by0), (.long now)] ∧ Z.Warmed39 UU.vm ∧ UU.heap = h0) (fun _ _ _ _ _ => True) (fun _ UU oo UU' => ∃ vv LL, oo = .returned vv ∧ Q3 Z o by0 now b_ s_ t_ h0 n0 vv UU'.heap LL ∧ FrameEnd UU oo UU' LL 0 0) := by
  refine MetFree.of_bodySF (plainFor_of_name pn_0) hisR ?_
  intro p e s m args below meth c s₁ Bd hml0 hP hK
  obtain ⟨rfl, hZ, hh⟩ := hP
  have hx := Bd.exec
  have hby := Bd.bytes
  have hlk : meth.locks = false := BodyLoose.notSynchronized Bd
  have hml : c.maxLocals = 9 := hml0
  have hown : s.vm.findClass "com/example/ballast/ballast/database/CompactionPolicy" = some m.cls := findClass_of_methodNamed Bd.named
  have hnm := (name_of_methodNamed Bd.named Bd.method).1
  have X0 : Stand p l e ({ frames := 0, cells := 0, slots := 0, locals := 0 } : Room) s m #[(.ref o), (.long by0), (.long now)] below meth c s₁ [] 0 0 := Stand.of_body Bd
  have e0 : s₁.heap = h0 := by rw [← hh, Bd.state]; rfl
  have N0 := Fr.nil n0
  have K0 : Keep h0 h0 [o] := Keep.refl h0 _
  refine (?_ : Go p e below s (Q3 Z o by0 now b_ s_ t_ h0 n0) 0 0 (s₁.setTop (entryFrame m #[(.ref o), (.long by0), (.long now)] 9)))
  rw [ef_rm3]
  generalize hQ : Q3 Z o by0 now b_ s_ t_ h0 n0 = Q
  show Go p e below s Q 0 0 (s₁.setTop (mkF m 0 #[.val (.ref o), .val (.long by0), .second, .val (.long now), .second, .unset, .unset, .unset, .unset] []))
  have f1 := rng64 by0
  have f2 := rng64 now
  refine Go.st (fun _ k => XS.aloadN X0.here hx rfl (hb hby d3_0) rfl rfl k) ?_
  show Go p e below s Q 0 0 (s₁.setTop (mkF m 1 #[.val (.ref o), .val (.long by0), .second, .val (.long now), .second, .unset, .unset, .unset, .unset] [(.ref o)]))
  refine Go.st (fun _ k => XS.dup X0.here hx rfl (hb hby d3_1) rfl rfl k) ?_
  show Go p e below s Q 0 0 (s₁.setTop (mkF m 2 #[.val (.ref o), .val (.long by0), .second, .val (.long now), .second, .unset, .unset, .unset, .unset] [(.ref o), (.ref o)]))
  obtain ⟨T3, X3, e3, st3⟩ := getF X0 hx hZ hown (host := "") (Or.inl (hw _ (List.mem_of_getElem? (i := 18) rfl))) Via.refl e0 ht_ (g := (mkF m 2 #[.val (.ref o), .val (.long by0), .second, .val (.long now), .second, .unset, .unset, .unset, .unset] [(.ref o), (.ref o)])) rfl rfl (hb hby d3_2)
  refine Go.st st3 ?_
  show Go p e below s Q 0 0 (T3.setTop (mkF m 5 #[.val (.ref o), .val (.long by0), .second, .val (.long now), .second, .unset, .unset, .unset, .unset] [(.long t_), (.ref o)]))
  refine Go.st (fun _ k => XS.lconst X3.here hx rfl (hb hby d3_5) k) ?_
  show Go p e below s Q 0 0 (T3.setTop (mkF m 6 #[.val (.ref o), .val (.long by0), .second, .val (.long now), .second, .unset, .unset, .unset, .unset] [(.long (1 : Int64)), (.long t_), (.ref o)]))
  refine Go.st (fun _ k => XS.ladd X3.here hx rfl (hb hby d3_6) rfl k) ?_
  show Go p e below s Q 0 0 (T3.setTop (mkF m 7 #[.val (.ref o), .val (.long by0), .second, .val (.long now), .second, .unset, .unset, .unset, .unset] [(.long (t_ + (1 : Int64))), (.ref o)]))
  obtain ⟨T4, h4, X4, e4, W4, st4⟩ := putF X3 hx hZ hown (host := "") (Or.inl (hw _ (List.mem_of_getElem? (i := 18) rfl))) Via.refl e3 ht_ hE (Or.inl (hw _ (List.mem_of_getElem? (i := 19) rfl))) (hw _ (List.mem_of_getElem? (i := 1) rfl)) (ty := .long) (by decide) rfl rfl (g := (mkF m 7 #[.val (.ref o), .val (.long by0), .second, .val (.long now), .second, .unset, .unset, .unset, .unset] [(.long (t_ + (1 : Int64))), (.ref o)])) rfl rfl (hb hby d3_7)
  have h5 : Exa Z h4 o "com/example/ballast/ballast/database/CompactionPolicy" := hE.wr W4
  have h6 : Sta Z h4 "com/example/ballast/ballast/database/CompactionPolicy" "MIN_NANOS" "J" (.long (600000000000 : Int64)) := hS.wr W4
  have h7 : Fld Z h4 o "com/example/ballast/ballast/database/CompactionPolicy" "baseBytes" "J" (.long b_) := hb_.other W4 (Or.inr (sn_4 hw))
  have h8 : Fld Z h4 o "com/example/ballast/ballast/database/CompactionPolicy" "since" "J" (.long s_) := hs_.other W4 (Or.inr (sn_5 hw))
  have h9 : Fld Z h4 o "com/example/ballast/ballast/database/CompactionPolicy" "transactions" "J" (.long (t_ + (1 : Int64))) := ht_.same W4
  have K4 : Keep h0 h4 [o] := K0.wr W4 (Or.inl (List.mem_of_getElem? (i := 0) rfl))
  have N4 := Fr.snoc X4 N0 hG
  refine Go.st st4 ?_
  show Go p e below s Q 0 0 (T4.setTop (mkF m 10 #[.val (.ref o), .val (.long by0), .second, .val (.long now), .second, .unset, .unset, .unset, .unset] []))
  refine Go.st (fun _ k => XS.lloadN X4.here hx rfl (hb hby d3_10) rfl k) ?_
  show Go p e below s Q 0 0 (T4.setTop (mkF m 11 #[.val (.ref o), .val (.long by0), .second, .val (.long now), .second, .unset, .unset, .unset, .unset] [(.long now)]))
  refine Go.st (fun _ k => XS.aloadN X4.here hx rfl (hb hby d3_11) rfl rfl k) ?_
  show Go p e below s Q 0 0 (T4.setTop (mkF m 12 #[.val (.ref o), .val (.long by0), .second, .val (.long now), .second, .unset, .unset, .unset, .unset] [(.ref o), (.long now)]))
  obtain ⟨T10, X10, e10, st10⟩ := getF X4 hx hZ hown (host := "") (Or.inl (hw _ (List.mem_of_getElem? (i := 11) rfl))) Via.refl e4 h8 (g := (mkF m 12 #[.val (.ref o), .val (.long by0), .second, .val (.long now), .second, .unset, .unset, .unset, .unset] [(.ref o), (.long now)])) rfl rfl (hb hby d3_12)
  refine Go.st st10 ?_
  show Go p e below s Q 0 0 (T10.setTop (mkF m 15 #[.val (.ref o), .val (.long by0), .second, .val (.long now), .second, .unset, .unset, .unset, .unset] [(.long s_), (.long now)]))
  refine Go.st (fun _ k => XS.lsub X10.here hx rfl (hb hby d3_15) rfl k) ?_
  show Go p e below s Q 0 0 (T10.setTop (mkF m 16 #[.val (.ref o), .val (.long by0), .second, .val (.long now), .second, .unset, .unset, .unset, .unset] [(.long (now - s_))]))
  refine Go.st (fun _ k => XS.lstore X10.here hx rfl (hb hby d3_16) rfl (l' := #[.val (.ref o), .val (.long by0), .second, .val (.long now), .second, .val (.long (now - s_)), .second, .unset, .unset]) rfl k) ?_
  show Go p e below s Q 0 0 (T10.setTop (mkF m 18 #[.val (.ref o), .val (.long by0), .second, .val (.long now), .second, .val (.long (now - s_)), .second, .unset, .unset] []))
  refine Go.st (fun _ k => XS.lloadN X10.here hx rfl (hb hby d3_18) rfl k) ?_
  show Go p e below s Q 0 0 (T10.setTop (mkF m 19 #[.val (.ref o), .val (.long by0), .second, .val (.long now), .second, .val (.long (now - s_)), .second, .unset, .unset] [(.long by0)]))
  refine Go.st (X10.ldc2Long hx hown (mvT hZ (hw _ (List.mem_of_getElem? (i := 20) rfl))) (g := (mkF m 19 #[.val (.ref o), .val (.long by0), .second, .val (.long now), .second, .val (.long (now - s_)), .second, .unset, .unset] [(.long by0)])) rfl (hb hby d3_19)) ?_
  show Go p e below s Q 0 0 (T10.setTop (mkF m 22 #[.val (.ref o), .val (.long by0), .second, .val (.long now), .second, .val (.long (now - s_)), .second, .unset, .unset] [(.long (2 : Int64)), (.long by0)]))
  refine Go.st (fun _ k => XS.aloadN X10.here hx rfl (hb hby d3_22) rfl rfl k) ?_
  show Go p e below s Q 0 0 (T10.setTop (mkF m 23 #[.val (.ref o), .val (.long by0), .second, .val (.long now), .second, .val (.long (now - s_)), .second, .unset, .unset] [(.ref o), (.long (2 : Int64)), (.long by0)]))
  obtain ⟨T11, X11, e11, st11⟩ := getF X10 hx hZ hown (host := "") (Or.inl (hw _ (List.mem_of_getElem? (i := 9) rfl))) Via.refl e10 h7 (g := (mkF m 23 #[.val (.ref o), .val (.long by0), .second, .val (.long now), .second, .val (.long (now - s_)), .second, .unset, .unset] [(.ref o), (.long (2 : Int64)), (.long by0)])) rfl rfl (hb hby d3_23)
  refine Go.st st11 ?_
  show Go p e below s Q 0 0 (T11.setTop (mkF m 26 #[.val (.ref o), .val (.long by0), .second, .val (.long now), .second, .val (.long (now - s_)), .second, .unset, .unset] [(.long b_), (.long (2 : Int64)), (.long by0)]))
  refine Go.st (fun _ k => XS.lmul X11.here hx rfl (hb hby d3_26) rfl k) ?_
  show Go p e below s Q 0 0 (T11.setTop (mkF m 27 #[.val (.ref o), .val (.long by0), .second, .val (.long now), .second, .val (.long (now - s_)), .second, .unset, .unset] [(.long ((2 : Int64) * b_)), (.long by0)]))
  refine Go.st (fun _ k => XS.lcmp X11.here hx rfl (hb hby d3_27) rfl k) ?_
  show Go p e below s Q 0 0 (T11.setTop (mkF m 28 #[.val (.ref o), .val (.long by0), .second, .val (.long now), .second, .val (.long (now - s_)), .second, .unset, .unset] [(.int (lcmpW by0 ((2 : Int64) * b_)))]))
  have f12 := liJ_2
  have f13 := rng64 b_
  have f14 : (((2 : Int64) * b_).toInt - 2 * b_.toInt) % 18446744073709551616 = 0 := (by have q := c_lmul (2 : Int64) b_; rw [liJ_2] at q; exact q)
  have f15 := rng64 ((2 : Int64) * b_)
  by_cases c16 : ((2 : Int64) * b_).toInt < by0.toInt
  ·
    refine Go.st (fun _ k => XS.ifNo X11.here hx rfl (hb hby d3_28) rfl ((if0 _ _).trans (tlt ((lw_gt by0 ((2 : Int64) * b_)).mpr (ltJ rfl rfl c16))).2.2.2) k) ?_
    show Go p e below s Q 0 0 (T11.setTop (mkF m 31 #[.val (.ref o), .val (.long by0), .second, .val (.long now), .second, .val (.long (now - s_)), .second, .unset, .unset] []))
    refine Go.st (fun _ k => XS.lloadN X11.here hx rfl (hb hby d3_31) rfl k) ?_
    show Go p e below s Q 0 0 (T11.setTop (mkF m 32 #[.val (.ref o), .val (.long by0), .second, .val (.long now), .second, .val (.long (now - s_)), .second, .unset, .unset] [(.long by0)]))
    refine Go.st (X11.ldc2Long hx hown (mvT hZ (hw _ (List.mem_of_getElem? (i := 27) rfl))) (g := (mkF m 32 #[.val (.ref o), .val (.long by0), .second, .val (.long now), .second, .val (.long (now - s_)), .second, .unset, .unset] [(.long by0)])) rfl (hb hby d3_32)) ?_
    show Go p e below s Q 0 0 (T11.setTop (mkF m 35 #[.val (.ref o), .val (.long by0), .second, .val (.long now), .second, .val (.long (now - s_)), .second, .unset, .unset] [(.long (10485760 : Int64)), (.long by0)]))
    refine Go.st (fun _ k => XS.lcmp X11.here hx rfl (hb hby d3_35) rfl k) ?_
    show Go p e below s Q 0 0 (T11.setTop (mkF m 36 #[.val (.ref o), .val (.long by0), .second, .val (.long now), .second, .val (.long (now - s_)), .second, .unset, .unset] [(.int (lcmpW by0 (10485760 : Int64)))]))
    have f17 := liJ_10485760
    by_cases c18 : by0.toInt < 10485760
    ·
      refine Go.st (fun _ k => XS.ifYes X11.here hx rfl (pc0 := 36) (pc' := 43) rfl (hb hby d3_36) rfl ((if0 _ _).trans (tlt ((lw_lt by0 (10485760 : Int64)).mpr (ltJ rfl liJ_10485760 c18))).1) (by decide) (by decide) k) ?_
      show Go p e below s Q 0 0 (T11.setTop (mkF m 43 #[.val (.ref o), .val (.long by0), .second, .val (.long now), .second, .val (.long (now - s_)), .second, .unset, .unset] []))
      refine Go.st (fun _ k => XS.iconst X11.here hx rfl (hb hby d3_43) k) ?_
      show Go p e below s Q 0 0 (T11.setTop (mkF m 44 #[.val (.ref o), .val (.long by0), .second, .val (.long now), .second, .val (.long (now - s_)), .second, .unset, .unset] [(.int (0 : Int32))]))
      refine Go.st (fun _ k => XS.istore X11.here hx rfl (hb hby d3_44) rfl (l' := #[.val (.ref o), .val (.long by0), .second, .val (.long now), .second, .val (.long (now - s_)), .second, .val (.int (0 : Int32)), .unset]) rfl k) ?_
      show Go p e below s Q 0 0 (T11.setTop (mkF m 46 #[.val (.ref o), .val (.long by0), .second, .val (.long now), .second, .val (.long (now - s_)), .second, .val (.int (0 : Int32)), .unset] []))
      refine Go.st (fun _ k => XS.aloadN X11.here hx rfl (hb hby d3_46) rfl rfl k) ?_
      show Go p e below s Q 0 0 (T11.setTop (mkF m 47 #[.val (.ref o), .val (.long by0), .second, .val (.long now), .second, .val (.long (now - s_)), .second, .val (.int (0 : Int32)), .unset] [(.ref o)]))
      obtain ⟨T19, X19, e19, st19⟩ := getF X11 hx hZ hown (host := "") (Or.inl (hw _ (List.mem_of_getElem? (i := 18) rfl))) Via.refl e11 h9 (g := (mkF m 47 #[.val (.ref o), .val (.long by0), .second, .val (.long now), .second, .val (.long (now - s_)), .second, .val (.int (0 : Int32)), .unset] [(.ref o)])) rfl rfl (hb hby d3_47)
      refine Go.st st19 ?_
      show Go p e below s Q 0 0 (T19.setTop (mkF m 50 #[.val (.ref o), .val (.long by0), .second, .val (.long now), .second, .val (.long (now - s_)), .second, .val (.int (0 : Int32)), .unset] [(.long (t_ + (1 : Int64)))]))
      refine Go.st (X19.ldc2Long hx hown (mvT hZ (hw _ (List.mem_of_getElem? (i := 21) rfl))) (g := (mkF m 50 #[.val (.ref o), .val (.long by0), .second, .val (.long now), .second, .val (.long (now - s_)), .second, .val (.int (0 : Int32)), .unset] [(.long (t_ + (1 : Int64)))])) rfl (hb hby d3_50)) ?_
      show Go p e below s Q 0 0 (T19.setTop (mkF m 53 #[.val (.ref o), .val (.long by0), .second, .val (.long now), .second, .val (.long (now - s_)), .second, .val (.int (0 : Int32)), .unset] [(.long (100 : Int64)), (.long (t_ + (1 : Int64)))]))
      refine Go.st (fun _ k => XS.lcmp X19.here hx rfl (hb hby d3_53) rfl k) ?_
      show Go p e below s Q 0 0 (T19.setTop (mkF m 54 #[.val (.ref o), .val (.long by0), .second, .val (.long now), .second, .val (.long (now - s_)), .second, .val (.int (0 : Int32)), .unset] [(.int (lcmpW (t_ + (1 : Int64)) (100 : Int64)))]))
      have f20 := rng64 t_
      have f21 := liJ_1
      have f22 := c_ladd t_ (1 : Int64)
      have f23 := rng64 (t_ + (1 : Int64))
      have f24 := liJ_100
      have c25 : (t_ + (1 : Int64)).toInt < 100 := by omega
      refine Go.st (fun _ k => XS.ifYes X19.here hx rfl (pc0 := 54) (pc' := 61) rfl (hb hby d3_54) rfl ((if0 _ _).trans (tlt ((lw_lt (t_ + (1 : Int64)) (100 : Int64)).mpr (ltJ rfl liJ_100 c25))).1) (by decide) (by decide) k) ?_
      show Go p e below s Q 0 0 (T19.setTop (mkF m 61 #[.val (.ref o), .val (.long by0), .second, .val (.long now), .second, .val (.long (now - s_)), .second, .val (.int (0 : Int32)), .unset] []))
      refine Go.st (fun _ k => XS.iconst X19.here hx rfl (hb hby d3_61) k) ?_
      show Go p e below s Q 0 0 (T19.setTop (mkF m 62 #[.val (.ref o), .val (.long by0), .second, .val (.long now), .second, .val (.long (now - s_)), .second, .val (.int (0 : Int32)), .unset] [(.int (0 : Int32))]))
      refine Go.st (fun _ k => XS.istore X19.here hx rfl (hb hby d3_62) rfl (l' := #[.val (.ref o), .val (.long by0), .second, .val (.long now), .second, .val (.long (now - s_)), .second, .val (.int (0 : Int32)), .val (.int (0 : Int32))]) rfl k) ?_
      show Go p e below s Q 0 0 (T19.setTop (mkF m 64 #[.val (.ref o), .val (.long by0), .second, .val (.long now), .second, .val (.long (now - s_)), .second, .val (.int (0 : Int32)), .val (.int (0 : Int32))] []))
      refine Go.st (fun _ k => XS.iload X19.here hx rfl (hb hby d3_64) rfl k) ?_
      show Go p e below s Q 0 0 (T19.setTop (mkF m 66 #[.val (.ref o), .val (.long by0), .second, .val (.long now), .second, .val (.long (now - s_)), .second, .val (.int (0 : Int32)), .val (.int (0 : Int32))] [(.int (0 : Int32))]))
      refine Go.st (fun _ k => XS.ifYes X19.here hx rfl (pc0 := 66) (pc' := 83) rfl (hb hby d3_66) rfl ((if0 _ _).trans (teq (eqI liI_0 liI_0 (by decide))).1) (by decide) (by decide) k) ?_
      show Go p e below s Q 0 0 (T19.setTop (mkF m 83 #[.val (.ref o), .val (.long by0), .second, .val (.long now), .second, .val (.long (now - s_)), .second, .val (.int (0 : Int32)), .val (.int (0 : Int32))] []))
      refine Go.st (fun _ k => XS.iload X19.here hx rfl (hb hby d3_83) rfl k) ?_
      show Go p e below s Q 0 0 (T19.setTop (mkF m 85 #[.val (.ref o), .val (.long by0), .second, .val (.long now), .second, .val (.long (now - s_)), .second, .val (.int (0 : Int32)), .val (.int (0 : Int32))] [(.int (0 : Int32))]))
      refine Go.st (fun _ k => XS.ifYes X19.here hx rfl (pc0 := 85) (pc' := 101) rfl (hb hby d3_85) rfl ((if0 _ _).trans (teq (eqI liI_0 liI_0 (by decide))).1) (by decide) (by decide) k) ?_
      show Go p e below s Q 0 0 (T19.setTop (mkF m 101 #[.val (.ref o), .val (.long by0), .second, .val (.long now), .second, .val (.long (now - s_)), .second, .val (.int (0 : Int32)), .val (.int (0 : Int32))] []))
      refine Go.st (fun _ k => XS.iconst X19.here hx rfl (hb hby d3_101) k) ?_
      show Go p e below s Q 0 0 (T19.setTop (mkF m 102 #[.val (.ref o), .val (.long by0), .second, .val (.long now), .second, .val (.long (now - s_)), .second, .val (.int (0 : Int32)), .val (.int (0 : Int32))] [(.int (0 : Int32))]))
      have f26 := liI_0
      exact Go.retN X19 hx hlk (by simp) Bd.returns (hb hby d3_102) (z' := (0 : Int32)) (by decide) (by rw [← hQ, e19]; exact ⟨(0 : Int32), (t_ + (1 : Int64)), rfl, N4, (by omega), (by omega), K4, h5, h7, h8, h9⟩) (by decide) (by decide)
    ·
      refine Go.st (fun _ k => XS.ifNo X11.here hx rfl (hb hby d3_36) rfl ((if0 _ _).trans (flt (fun q => (nltJ rfl liJ_10485760 c18) ((lw_lt by0 (10485760 : Int64)).mp q))).1) k) ?_
      show Go p e below s Q 0 0 (T11.setTop (mkF m 39 #[.val (.ref o), .val (.long by0), .second, .val (.long now), .second, .val (.long (now - s_)), .second, .unset, .unset] []))
      refine Go.st (fun _ k => XS.iconst X11.here hx rfl (hb hby d3_39) k) ?_
      show Go p e below s Q 0 0 (T11.setTop (mkF m 40 #[.val (.ref o), .val (.long by0), .second, .val (.long now), .second, .val (.long (now - s_)), .second, .unset, .unset] [(.int (1 : Int32))]))
      refine Go.st (fun _ k => XS.goto X11.here hx rfl (pc0 := 40) (pc' := 44) rfl (hb hby d3_40) (by decide) (by decide) k) ?_
      show Go p e below s Q 0 0 (T11.setTop (mkF m 44 #[.val (.ref o), .val (.long by0), .second, .val (.long now), .second, .val (.long (now - s_)), .second, .unset, .unset] [(.int (1 : Int32))]))
      refine Go.st (fun _ k => XS.istore X11.here hx rfl (hb hby d3_44) rfl (l' := #[.val (.ref o), .val (.long by0), .second, .val (.long now), .second, .val (.long (now - s_)), .second, .val (.int (1 : Int32)), .unset]) rfl k) ?_
      show Go p e below s Q 0 0 (T11.setTop (mkF m 46 #[.val (.ref o), .val (.long by0), .second, .val (.long now), .second, .val (.long (now - s_)), .second, .val (.int (1 : Int32)), .unset] []))
      refine Go.st (fun _ k => XS.aloadN X11.here hx rfl (hb hby d3_46) rfl rfl k) ?_
      show Go p e below s Q 0 0 (T11.setTop (mkF m 47 #[.val (.ref o), .val (.long by0), .second, .val (.long now), .second, .val (.long (now - s_)), .second, .val (.int (1 : Int32)), .unset] [(.ref o)]))
      obtain ⟨T27, X27, e27, st27⟩ := getF X11 hx hZ hown (host := "") (Or.inl (hw _ (List.mem_of_getElem? (i := 18) rfl))) Via.refl e11 h9 (g := (mkF m 47 #[.val (.ref o), .val (.long by0), .second, .val (.long now), .second, .val (.long (now - s_)), .second, .val (.int (1 : Int32)), .unset] [(.ref o)])) rfl rfl (hb hby d3_47)
      refine Go.st st27 ?_
      show Go p e below s Q 0 0 (T27.setTop (mkF m 50 #[.val (.ref o), .val (.long by0), .second, .val (.long now), .second, .val (.long (now - s_)), .second, .val (.int (1 : Int32)), .unset] [(.long (t_ + (1 : Int64)))]))
      refine Go.st (X27.ldc2Long hx hown (mvT hZ (hw _ (List.mem_of_getElem? (i := 21) rfl))) (g := (mkF m 50 #[.val (.ref o), .val (.long by0), .second, .val (.long now), .second, .val (.long (now - s_)), .second, .val (.int (1 : Int32)), .unset] [(.long (t_ + (1 : Int64)))])) rfl (hb hby d3_50)) ?_
      show Go p e below s Q 0 0 (T27.setTop (mkF m 53 #[.val (.ref o), .val (.long by0), .second, .val (.long now), .second, .val (.long (now - s_)), .second, .val (.int (1 : Int32)), .unset] [(.long (100 : Int64)), (.long (t_ + (1 : Int64)))]))
      refine Go.st (fun _ k => XS.lcmp X27.here hx rfl (hb hby d3_53) rfl k) ?_
      show Go p e below s Q 0 0 (T27.setTop (mkF m 54 #[.val (.ref o), .val (.long by0), .second, .val (.long now), .second, .val (.long (now - s_)), .second, .val (.int (1 : Int32)), .unset] [(.int (lcmpW (t_ + (1 : Int64)) (100 : Int64)))]))
      have f28 := rng64 t_
      have f29 := liJ_1
      have f30 := c_ladd t_ (1 : Int64)
      have f31 := rng64 (t_ + (1 : Int64))
      have f32 := liJ_100
      have c33 : (t_ + (1 : Int64)).toInt < 100 := by omega
      refine Go.st (fun _ k => XS.ifYes X27.here hx rfl (pc0 := 54) (pc' := 61) rfl (hb hby d3_54) rfl ((if0 _ _).trans (tlt ((lw_lt (t_ + (1 : Int64)) (100 : Int64)).mpr (ltJ rfl liJ_100 c33))).1) (by decide) (by decide) k) ?_
      show Go p e below s Q 0 0 (T27.setTop (mkF m 61 #[.val (.ref o), .val (.long by0), .second, .val (.long now), .second, .val (.long (now - s_)), .second, .val (.int (1 : Int32)), .unset] []))
      refine Go.st (fun _ k => XS.iconst X27.here hx rfl (hb hby d3_61) k) ?_
      show Go p e below s Q 0 0 (T27.setTop (mkF m 62 #[.val (.ref o), .val (.long by0), .second, .val (.long now), .second, .val (.long (now - s_)), .second, .val (.int (1 : Int32)), .unset] [(.int (0 : Int32))]))
      refine Go.st (fun _ k => XS.istore X27.here hx rfl (hb hby d3_62) rfl (l' := #[.val (.ref o), .val (.long by0), .second, .val (.long now), .second, .val (.long (now - s_)), .second, .val (.int (1 : Int32)), .val (.int (0 : Int32))]) rfl k) ?_
      show Go p e below s Q 0 0 (T27.setTop (mkF m 64 #[.val (.ref o), .val (.long by0), .second, .val (.long now), .second, .val (.long (now - s_)), .second, .val (.int (1 : Int32)), .val (.int (0 : Int32))] []))
      refine Go.st (fun _ k => XS.iload X27.here hx rfl (hb hby d3_64) rfl k) ?_
      show Go p e below s Q 0 0 (T27.setTop (mkF m 66 #[.val (.ref o), .val (.long by0), .second, .val (.long now), .second, .val (.long (now - s_)), .second, .val (.int (1 : Int32)), .val (.int (0 : Int32))] [(.int (1 : Int32))]))
      refine Go.st (fun _ k => XS.ifNo X27.here hx rfl (hb hby d3_66) rfl ((if0 _ _).trans (feq (neI liI_1 liI_0 (by decide))).1) k) ?_
      show Go p e below s Q 0 0 (T27.setTop (mkF m 69 #[.val (.ref o), .val (.long by0), .second, .val (.long now), .second, .val (.long (now - s_)), .second, .val (.int (1 : Int32)), .val (.int (0 : Int32))] []))
      refine Go.st (fun _ k => XS.iload X27.here hx rfl (hb hby d3_69) rfl k) ?_
      show Go p e below s Q 0 0 (T27.setTop (mkF m 71 #[.val (.ref o), .val (.long by0), .second, .val (.long now), .second, .val (.long (now - s_)), .second, .val (.int (1 : Int32)), .val (.int (0 : Int32))] [(.int (0 : Int32))]))
      refine Go.st (fun _ k => XS.ifNo X27.here hx rfl (hb hby d3_71) rfl ((if0 _ _).trans (teq (eqI liI_0 liI_0 (by decide))).2) k) ?_
      show Go p e below s Q 0 0 (T27.setTop (mkF m 74 #[.val (.ref o), .val (.long by0), .second, .val (.long now), .second, .val (.long (now - s_)), .second, .val (.int (1 : Int32)), .val (.int (0 : Int32))] []))
      refine Go.st (fun _ k => XS.lload X27.here hx rfl (hb hby d3_74) rfl k) ?_
      show Go p e below s Q 0 0 (T27.setTop (mkF m 76 #[.val (.ref o), .val (.long by0), .second, .val (.long now), .second, .val (.long (now - s_)), .second, .val (.int (1 : Int32)), .val (.int (0 : Int32))] [(.long (now - s_))]))
      obtain ⟨T34, X34, e34, st34⟩ := getS2 X27 hx hZ hown (host := "") (Or.inl (hw _ (List.mem_of_getElem? (i := 28) rfl))) Via.refl e27 h6 (g := (mkF m 76 #[.val (.ref o), .val (.long by0), .second, .val (.long now), .second, .val (.long (now - s_)), .second, .val (.int (1 : Int32)), .val (.int (0 : Int32))] [(.long (now - s_))])) rfl (hb hby d3_76)
      refine Go.st st34 ?_
      show Go p e below s Q 0 0 (T34.setTop (mkF m 79 #[.val (.ref o), .val (.long by0), .second, .val (.long now), .second, .val (.long (now - s_)), .second, .val (.int (1 : Int32)), .val (.int (0 : Int32))] [(.long (600000000000 : Int64)), (.long (now - s_))]))
      refine Go.st (fun _ k => XS.lcmp X34.here hx rfl (hb hby d3_79) rfl k) ?_
      show Go p e below s Q 0 0 (T34.setTop (mkF m 80 #[.val (.ref o), .val (.long by0), .second, .val (.long now), .second, .val (.long (now - s_)), .second, .val (.int (1 : Int32)), .val (.int (0 : Int32))] [(.int (lcmpW (now - s_) (600000000000 : Int64)))]))
      have f35 := rng64 s_
      have f36 := c_lsub now s_
      have f37 := rng64 (now - s_)
      have f38 := liJ_600000000000
      by_cases c39 : (now - s_).toInt < 600000000000
      ·
        refine Go.st (fun _ k => XS.ifNo X34.here hx rfl (hb hby d3_80) rfl ((if0 _ _).trans (tlt ((lw_lt (now - s_) (600000000000 : Int64)).mpr (ltJ rfl liJ_600000000000 c39))).2.1) k) ?_
        show Go p e below s Q 0 0 (T34.setTop (mkF m 83 #[.val (.ref o), .val (.long by0), .second, .val (.long now), .second, .val (.long (now - s_)), .second, .val (.int (1 : Int32)), .val (.int (0 : Int32))] []))
        refine Go.st (fun _ k => XS.iload X34.here hx rfl (hb hby d3_83) rfl k) ?_
        show Go p e below s Q 0 0 (T34.setTop (mkF m 85 #[.val (.ref o), .val (.long by0), .second, .val (.long now), .second, .val (.long (now - s_)), .second, .val (.int (1 : Int32)), .val (.int (0 : Int32))] [(.int (0 : Int32))]))
        refine Go.st (fun _ k => XS.ifYes X34.here hx rfl (pc0 := 85) (pc' := 101) rfl (hb hby d3_85) rfl ((if0 _ _).trans (teq (eqI liI_0 liI_0 (by decide))).1) (by decide) (by decide) k) ?_
        show Go p e below s Q 0 0 (T34.setTop (mkF m 101 #[.val (.ref o), .val (.long by0), .second, .val (.long now), .second, .val (.long (now - s_)), .second, .val (.int (1 : Int32)), .val (.int (0 : Int32))] []))
        refine Go.st (fun _ k => XS.iconst X34.here hx rfl (hb hby d3_101) k) ?_
        show Go p e below s Q 0 0 (T34.setTop (mkF m 102 #[.val (.ref o), .val (.long by0), .second, .val (.long now), .second, .val (.long (now - s_)), .second, .val (.int (1 : Int32)), .val (.int (0 : Int32))] [(.int (0 : Int32))]))
        have f40 := liI_0
        exact Go.retN X34 hx hlk (by simp) Bd.returns (hb hby d3_102) (z' := (0 : Int32)) (by decide) (by rw [← hQ, e34]; exact ⟨(0 : Int32), (t_ + (1 : Int64)), rfl, N4, (by omega), (by omega), K4, h5, h7, h8, h9⟩) (by decide) (by decide)
      ·
        refine Go.st (fun _ k => XS.ifYes X34.here hx rfl (pc0 := 80) (pc' := 97) rfl (hb hby d3_80) rfl ((if0 _ _).trans (flt (fun q => (nltJ rfl liJ_600000000000 c39) ((lw_lt (now - s_) (600000000000 : Int64)).mp q))).2.1) (by decide) (by decide) k) ?_
        show Go p e below s Q 0 0 (T34.setTop (mkF m 97 #[.val (.ref o), .val (.long by0), .second, .val (.long now), .second, .val (.long (now - s_)), .second, .val (.int (1 : Int32)), .val (.int (0 : Int32))] []))
        refine Go.st (fun _ k => XS.iconst X34.here hx rfl (hb hby d3_97) k) ?_
        show Go p e below s Q 0 0 (T34.setTop (mkF m 98 #[.val (.ref o), .val (.long by0), .second, .val (.long now), .second, .val (.long (now - s_)), .second, .val (.int (1 : Int32)), .val (.int (0 : Int32))] [(.int (1 : Int32))]))
        refine Go.st (fun _ k => XS.goto X34.here hx rfl (pc0 := 98) (pc' := 102) rfl (hb hby d3_98) (by decide) (by decide) k) ?_
        show Go p e below s Q 0 0 (T34.setTop (mkF m 102 #[.val (.ref o), .val (.long by0), .second, .val (.long now), .second, .val (.long (now - s_)), .second, .val (.int (1 : Int32)), .val (.int (0 : Int32))] [(.int (1 : Int32))]))
        have f41 := liI_1
        exact Go.retN X34 hx hlk (by simp) Bd.returns (hb hby d3_102) (z' := (1 : Int32)) (by decide) (by rw [← hQ, e34]; exact ⟨(1 : Int32), (t_ + (1 : Int64)), rfl, N4, (by omega), (by omega), K4, h5, h7, h8, h9⟩) (by decide) (by decide)
  ·
    refine Go.st (fun _ k => XS.ifYes X11.here hx rfl (pc0 := 28) (pc' := 43) rfl (hb hby d3_28) rfl ((if0 _ _).trans (flt (fun q => (nltJ rfl rfl c16) ((lw_gt by0 ((2 : Int64) * b_)).mp q))).2.2.2) (by decide) (by decide) k) ?_
    show Go p e below s Q 0 0 (T11.setTop (mkF m 43 #[.val (.ref o), .val (.long by0), .second, .val (.long now), .second, .val (.long (now - s_)), .second, .unset, .unset] []))
    refine Go.st (fun _ k => XS.iconst X11.here hx rfl (hb hby d3_43) k) ?_
    show Go p e below s Q 0 0 (T11.setTop (mkF m 44 #[.val (.ref o), .val (.long by0), .second, .val (.long now), .second, .val (.long (now - s_)), .second, .unset, .unset] [(.int (0 : Int32))]))
    refine Go.st (fun _ k => XS.istore X11.here hx rfl (hb hby d3_44) rfl (l' := #[.val (.ref o), .val (.long by0), .second, .val (.long now), .second, .val (.long (now - s_)), .second, .val (.int (0 : Int32)), .unset]) rfl k) ?_
    show Go p e below s Q 0 0 (T11.setTop (mkF m 46 #[.val (.ref o), .val (.long by0), .second, .val (.long now), .second, .val (.long (now - s_)), .second, .val (.int (0 : Int32)), .unset] []))
    refine Go.st (fun _ k => XS.aloadN X11.here hx rfl (hb hby d3_46) rfl rfl k) ?_
    show Go p e below s Q 0 0 (T11.setTop (mkF m 47 #[.val (.ref o), .val (.long by0), .second, .val (.long now), .second, .val (.long (now - s_)), .second, .val (.int (0 : Int32)), .unset] [(.ref o)]))
    obtain ⟨T42, X42, e42, st42⟩ := getF X11 hx hZ hown (host := "") (Or.inl (hw _ (List.mem_of_getElem? (i := 18) rfl))) Via.refl e11 h9 (g := (mkF m 47 #[.val (.ref o), .val (.long by0), .second, .val (.long now), .second, .val (.long (now - s_)), .second, .val (.int (0 : Int32)), .unset] [(.ref o)])) rfl rfl (hb hby d3_47)
    refine Go.st st42 ?_
    show Go p e below s Q 0 0 (T42.setTop (mkF m 50 #[.val (.ref o), .val (.long by0), .second, .val (.long now), .second, .val (.long (now - s_)), .second, .val (.int (0 : Int32)), .unset] [(.long (t_ + (1 : Int64)))]))
    refine Go.st (X42.ldc2Long hx hown (mvT hZ (hw _ (List.mem_of_getElem? (i := 21) rfl))) (g := (mkF m 50 #[.val (.ref o), .val (.long by0), .second, .val (.long now), .second, .val (.long (now - s_)), .second, .val (.int (0 : Int32)), .unset] [(.long (t_ + (1 : Int64)))])) rfl (hb hby d3_50)) ?_
    show Go p e below s Q 0 0 (T42.setTop (mkF m 53 #[.val (.ref o), .val (.long by0), .second, .val (.long now), .second, .val (.long (now - s_)), .second, .val (.int (0 : Int32)), .unset] [(.long (100 : Int64)), (.long (t_ + (1 : Int64)))]))
    refine Go.st (fun _ k => XS.lcmp X42.here hx rfl (hb hby d3_53) rfl k) ?_
    show Go p e below s Q 0 0 (T42.setTop (mkF m 54 #[.val (.ref o), .val (.long by0), .second, .val (.long now), .second, .val (.long (now - s_)), .second, .val (.int (0 : Int32)), .unset] [(.int (lcmpW (t_ + (1 : Int64)) (100 : Int64)))]))
    have f43 := rng64 t_
    have f44 := liJ_1
    have f45 := c_ladd t_ (1 : Int64)
    have f46 := rng64 (t_ + (1 : Int64))
    have f47 := liJ_100
    have c48 : (t_ + (1 : Int64)).toInt < 100 := by omega
    refine Go.st (fun _ k => XS.ifYes X42.here hx rfl (pc0 := 54) (pc' := 61) rfl (hb hby d3_54) rfl ((if0 _ _).trans (tlt ((lw_lt (t_ + (1 : Int64)) (100 : Int64)).mpr (ltJ rfl liJ_100 c48))).1) (by decide) (by decide) k) ?_
    show Go p e below s Q 0 0 (T42.setTop (mkF m 61 #[.val (.ref o), .val (.long by0), .second, .val (.long now), .second, .val (.long (now - s_)), .second, .val (.int (0 : Int32)), .unset] []))
    refine Go.st (fun _ k => XS.iconst X42.here hx rfl (hb hby d3_61) k) ?_
    show Go p e below s Q 0 0 (T42.setTop (mkF m 62 #[.val (.ref o), .val (.long by0), .second, .val (.long now), .second, .val (.long (now - s_)), .second, .val (.int (0 : Int32)), .unset] [(.int (0 : Int32))]))
    refine Go.st (fun _ k => XS.istore X42.here hx rfl (hb hby d3_62) rfl (l' := #[.val (.ref o), .val (.long by0), .second, .val (.long now), .second, .val (.long (now - s_)), .second, .val (.int (0 : Int32)), .val (.int (0 : Int32))]) rfl k) ?_
    show Go p e below s Q 0 0 (T42.setTop (mkF m 64 #[.val (.ref o), .val (.long by0), .second, .val (.long now), .second, .val (.long (now - s_)), .second, .val (.int (0 : Int32)), .val (.int (0 : Int32))] []))
    refine Go.st (fun _ k => XS.iload X42.here hx rfl (hb hby d3_64) rfl k) ?_
    show Go p e below s Q 0 0 (T42.setTop (mkF m 66 #[.val (.ref o), .val (.long by0), .second, .val (.long now), .second, .val (.long (now - s_)), .second, .val (.int (0 : Int32)), .val (.int (0 : Int32))] [(.int (0 : Int32))]))
    refine Go.st (fun _ k => XS.ifYes X42.here hx rfl (pc0 := 66) (pc' := 83) rfl (hb hby d3_66) rfl ((if0 _ _).trans (teq (eqI liI_0 liI_0 (by decide))).1) (by decide) (by decide) k) ?_
    show Go p e below s Q 0 0 (T42.setTop (mkF m 83 #[.val (.ref o), .val (.long by0), .second, .val (.long now), .second, .val (.long (now - s_)), .second, .val (.int (0 : Int32)), .val (.int (0 : Int32))] []))
    refine Go.st (fun _ k => XS.iload X42.here hx rfl (hb hby d3_83) rfl k) ?_
    show Go p e below s Q 0 0 (T42.setTop (mkF m 85 #[.val (.ref o), .val (.long by0), .second, .val (.long now), .second, .val (.long (now - s_)), .second, .val (.int (0 : Int32)), .val (.int (0 : Int32))] [(.int (0 : Int32))]))
    refine Go.st (fun _ k => XS.ifYes X42.here hx rfl (pc0 := 85) (pc' := 101) rfl (hb hby d3_85) rfl ((if0 _ _).trans (teq (eqI liI_0 liI_0 (by decide))).1) (by decide) (by decide) k) ?_
    show Go p e below s Q 0 0 (T42.setTop (mkF m 101 #[.val (.ref o), .val (.long by0), .second, .val (.long now), .second, .val (.long (now - s_)), .second, .val (.int (0 : Int32)), .val (.int (0 : Int32))] []))
    refine Go.st (fun _ k => XS.iconst X42.here hx rfl (hb hby d3_101) k) ?_
    show Go p e below s Q 0 0 (T42.setTop (mkF m 102 #[.val (.ref o), .val (.long by0), .second, .val (.long now), .second, .val (.long (now - s_)), .second, .val (.int (0 : Int32)), .val (.int (0 : Int32))] [(.int (0 : Int32))]))
    have f49 := liI_0
    exact Go.retN X42 hx hlk (by simp) Bd.returns (hb hby d3_102) (z' := (0 : Int32)) (by decide) (by rw [← hQ, e42]; exact ⟨(0 : Int32), (t_ + (1 : Int64)), rfl, N4, (by omega), (by omega), K4, h5, h7, h8, h9⟩) (by decide) (by decide)
theorem d4_0 : decode prog_7_method_3_code 0 = .ok (.aload_n 0, 1) := by decide +kernel
theorem d4_1 : decode prog_7_method_3_code 1 = .ok (.lload_n 1, 1) := by decide +kernel
theorem d4_2 : decode prog_7_method_3_code 2 = .ok (.putfield 7, 3) := by decide +kernel
theorem d4_5 : decode prog_7_method_3_code 5 = .ok (.aload_n 0, 1) := by decide +kernel
theorem d4_6 : decode prog_7_method_3_code 6 = .ok (.lload_n 3, 1) := by decide +kernel
theorem d4_7 : decode prog_7_method_3_code 7 = .ok (.putfield 13, 3) := by decide +kernel
theorem d4_10 : decode prog_7_method_3_code 10 = .ok (.aload_n 0, 1) := by decide +kernel
theorem d4_11 : decode prog_7_method_3_code 11 = .ok (.lconst 0, 1) := by decide +kernel
theorem d4_12 : decode prog_7_method_3_code 12 = .ok (.putfield 16, 3) := by decide +kernel
theorem d4_15 : decode prog_7_method_3_code 15 = .ok (.return_, 1) := by decide +kernel
theorem ef_rm4 (m : MethodId) (o : Addr) (by0 : Int64) (si0 : Int64) : entryFrame m #[(.ref o), (.long by0), (.long si0)] 5 = mkF m 0 #[.val (.ref o), .val (.long by0), .second, .val (.long si0), .second] [] := by first | (simp [entryFrame, mkF, argsToLocals, Value.category]; done) | rfl
def Q4 (Z : State) (o : Addr) (by0 : Int64) (si0 : Int64) (b_ : Int64) (s_ : Int64) (t_ : Int64) (h0 : Heap) (n0 : Nat) (vv : Option Value) (h : Heap) (LL : List Loc) : Prop := vv = none ∧ Fr n0 LL ∧ Keep h0 h [o] ∧ (Exa Z h o "com/example/ballast/ballast/database/CompactionPolicy") ∧ (Fld Z h o "com/example/ballast/ballast/database/CompactionPolicy" "baseBytes" "J" (.long by0)) ∧ (Fld Z h o "com/example/ballast/ballast/database/CompactionPolicy" "since" "J" (.long si0)) ∧ (Fld Z h o "com/example/ballast/ballast/database/CompactionPolicy" "transactions" "J" (.long (0 : Int64)))
set_option maxRecDepth 65536 in
set_option maxHeartbeats 40000000 in
theorem rm4 (l : Launch) (Z : State) (a0 : Array Value) (hw : ∀ d ∈ tables_1, d.before a0 Z = true) (ws : List Jvm.Cond) (o : Addr) (by0 : Int64) (si0 : Int64) (b_ : Int64) (s_ : Int64) (t_ : Int64) (h0 : Heap) (n0 : Nat) (Z0 : n0 ≤ h0.size) (hE : Exa Z h0 o "com/example/ballast/ballast/database/CompactionPolicy") (hG : n0 ≤ o) (hb_ : Fld Z h0 o "com/example/ballast/ballast/database/CompactionPolicy" "baseBytes" "J" (.long b_)) (hs_ : Fld Z h0 o "com/example/ballast/ballast/database/CompactionPolicy" "since" "J" (.long s_)) (ht_ : Fld Z h0 o "com/example/ballast/ballast/database/CompactionPolicy" "transactions" "J" (.long t_)) :
    MetFree l (⟨"com/example/ballast/ballast/database/CompactionPolicy", "compacted", "(JJ)V"⟩ : MethodName) (head1 (Jvm.Cond.code (⟨"com/example/ballast/ballast/database/CompactionPolicy", "compacted", "(JJ)V"⟩ : MethodName) prog_7_method_3_code 5 none :: ws) ({ frames := 0, cells := 0, slots := 0, locals := 0 } : Room)) (fun aa UU => aa = #[(.ref o), (.long by0), (.long si0)] ∧ Z.Warmed39 UU.vm ∧ UU.heap = h0) (fun _ _ _ _ _ => True) (fun _ UU oo UU' => ∃ vv LL, oo = .returned vv ∧ Q4 Z o by0 si0 b_ s_ t_ h0 n0 vv UU'.heap LL ∧ FrameEnd UU oo UU' LL 0 0) := by
  refine MetFree.of_bodySF (plainFor_of_name pn_0) hisR ?_
  intro p e s m args below meth c s₁ Bd hml0 hP hK
  obtain ⟨rfl, hZ, hh⟩ := hP
  have hx := Bd.exec
  have hby := Bd.bytes
  have hlk : meth.locks = false := BodyLoose.notSynchronized Bd
  have hml : c.maxLocals = 5 := hml0
  have hown : s.vm.findClass "com/example/ballast/ballast/database/CompactionPolicy" = some m.cls := findClass_of_methodNamed Bd.named
  have hnm := (name_of_methodNamed Bd.named Bd.method).1
  have X0 : Stand p l e ({ frames := 0, cells := 0, slots := 0, locals := 0 } : Room) s m #[(.ref o), (.long by0), (.long si0)] below meth c s₁ [] 0 0 := Stand.of_body Bd
  have e0 : s₁.heap = h0 := by rw [← hh, Bd.state]; rfl
  have N0 := Fr.nil n0
  have K0 : Keep h0 h0 [o] := Keep.refl h0 _
  refine (?_ : Go p e below s (Q4 Z o by0 si0 b_ s_ t_ h0 n0) 0 0 (s₁.setTop (entryFrame m #[(.ref o), (.long by0), (.long si0)] 5)))
  rw [ef_rm4]
  generalize hQ : Q4 Z o by0 si0 b_ s_ t_ h0 n0 = Q
  show Go p e below s Q 0 0 (s₁.setTop (mkF m 0 #[.val (.ref o), .val (.long by0), .second, .val (.long si0), .second] []))
  have f1 := rng64 by0
  have f2 := rng64 si0
  refine Go.st (fun _ k => XS.aloadN X0.here hx rfl (hb hby d4_0) rfl rfl k) ?_
  show Go p e below s Q 0 0 (s₁.setTop (mkF m 1 #[.val (.ref o), .val (.long by0), .second, .val (.long si0), .second] [(.ref o)]))
  refine Go.st (fun _ k => XS.lloadN X0.here hx rfl (hb hby d4_1) rfl k) ?_
  show Go p e below s Q 0 0 (s₁.setTop (mkF m 2 #[.val (.ref o), .val (.long by0), .second, .val (.long si0), .second] [(.long by0), (.ref o)]))
  obtain ⟨T3, h3, X3, e3, W3, st3⟩ := putF X0 hx hZ hown (host := "") (Or.inl (hw _ (List.mem_of_getElem? (i := 9) rfl))) Via.refl e0 hb_ hE (Or.inl (hw _ (List.mem_of_getElem? (i := 10) rfl))) (hw _ (List.mem_of_getElem? (i := 1) rfl)) (ty := .long) (by decide) rfl rfl (g := (mkF m 2 #[.val (.ref o), .val (.long by0), .second, .val (.long si0), .second] [(.long by0), (.ref o)])) rfl rfl (hb hby d4_2)
  have h4 : Exa Z h3 o "com/example/ballast/ballast/database/CompactionPolicy" := hE.wr W3
  have h5 : Fld Z h3 o "com/example/ballast/ballast/database/CompactionPolicy" "baseBytes" "J" (.long by0) := hb_.same W3
  have h6 : Fld Z h3 o "com/example/ballast/ballast/database/CompactionPolicy" "since" "J" (.long s_) := hs_.other W3 (Or.inr (sn_0 hw))
  have h7 : Fld Z h3 o "com/example/ballast/ballast/database/CompactionPolicy" "transactions" "J" (.long t_) := ht_.other W3 (Or.inr (sn_1 hw))
  have K3 : Keep h0 h3 [o] := K0.wr W3 (Or.inl (List.mem_of_getElem? (i := 0) rfl))
  have N3 := Fr.snoc X3 N0 hG
  refine Go.st st3 ?_
  show Go p e below s Q 0 0 (T3.setTop (mkF m 5 #[.val (.ref o), .val (.long by0), .second, .val (.long si0), .second] []))
  refine Go.st (fun _ k => XS.aloadN X3.here hx rfl (hb hby d4_5) rfl rfl k) ?_
  show Go p e below s Q 0 0 (T3.setTop (mkF m 6 #[.val (.ref o), .val (.long by0), .second, .val (.long si0), .second] [(.ref o)]))
  refine Go.st (fun _ k => XS.lloadN X3.here hx rfl (hb hby d4_6) rfl k) ?_
  show Go p e below s Q 0 0 (T3.setTop (mkF m 7 #[.val (.ref o), .val (.long by0), .second, .val (.long si0), .second] [(.long si0), (.ref o)]))
  obtain ⟨T8, h8, X8, e8, W8, st8⟩ := putF X3 hx hZ hown (host := "") (Or.inl (hw _ (List.mem_of_getElem? (i := 11) rfl))) Via.refl e3 h6 h4 (Or.inl (hw _ (List.mem_of_getElem? (i := 12) rfl))) (hw _ (List.mem_of_getElem? (i := 1) rfl)) (ty := .long) (by decide) rfl rfl (g := (mkF m 7 #[.val (.ref o), .val (.long by0), .second, .val (.long si0), .second] [(.long si0), (.ref o)])) rfl rfl (hb hby d4_7)
  have h9 : Exa Z h8 o "com/example/ballast/ballast/database/CompactionPolicy" := h4.wr W8
  have h10 : Fld Z h8 o "com/example/ballast/ballast/database/CompactionPolicy" "baseBytes" "J" (.long by0) := h5.other W8 (Or.inr (sn_2 hw))
  have h11 : Fld Z h8 o "com/example/ballast/ballast/database/CompactionPolicy" "since" "J" (.long si0) := h6.same W8
  have h12 : Fld Z h8 o "com/example/ballast/ballast/database/CompactionPolicy" "transactions" "J" (.long t_) := h7.other W8 (Or.inr (sn_3 hw))
  have K8 : Keep h0 h8 [o] := K3.wr W8 (Or.inl (List.mem_of_getElem? (i := 0) rfl))
  have N8 := Fr.snoc X8 N3 hG
  refine Go.st st8 ?_
  show Go p e below s Q 0 0 (T8.setTop (mkF m 10 #[.val (.ref o), .val (.long by0), .second, .val (.long si0), .second] []))
  refine Go.st (fun _ k => XS.aloadN X8.here hx rfl (hb hby d4_10) rfl rfl k) ?_
  show Go p e below s Q 0 0 (T8.setTop (mkF m 11 #[.val (.ref o), .val (.long by0), .second, .val (.long si0), .second] [(.ref o)]))
  refine Go.st (fun _ k => XS.lconst X8.here hx rfl (hb hby d4_11) k) ?_
  show Go p e below s Q 0 0 (T8.setTop (mkF m 12 #[.val (.ref o), .val (.long by0), .second, .val (.long si0), .second] [(.long (0 : Int64)), (.ref o)]))
  obtain ⟨T13, h13, X13, e13, W13, st13⟩ := putF X8 hx hZ hown (host := "") (Or.inl (hw _ (List.mem_of_getElem? (i := 18) rfl))) Via.refl e8 h12 h9 (Or.inl (hw _ (List.mem_of_getElem? (i := 19) rfl))) (hw _ (List.mem_of_getElem? (i := 1) rfl)) (ty := .long) (by decide) rfl rfl (g := (mkF m 12 #[.val (.ref o), .val (.long by0), .second, .val (.long si0), .second] [(.long (0 : Int64)), (.ref o)])) rfl rfl (hb hby d4_12)
  have h14 : Exa Z h13 o "com/example/ballast/ballast/database/CompactionPolicy" := h9.wr W13
  have h15 : Fld Z h13 o "com/example/ballast/ballast/database/CompactionPolicy" "baseBytes" "J" (.long by0) := h10.other W13 (Or.inr (sn_4 hw))
  have h16 : Fld Z h13 o "com/example/ballast/ballast/database/CompactionPolicy" "since" "J" (.long si0) := h11.other W13 (Or.inr (sn_5 hw))
  have h17 : Fld Z h13 o "com/example/ballast/ballast/database/CompactionPolicy" "transactions" "J" (.long (0 : Int64)) := h12.same W13
  have K13 : Keep h0 h13 [o] := K8.wr W13 (Or.inl (List.mem_of_getElem? (i := 0) rfl))
  have N13 := Fr.snoc X13 N8 hG
  refine Go.st st13 ?_
  show Go p e below s Q 0 0 (T13.setTop (mkF m 15 #[.val (.ref o), .val (.long by0), .second, .val (.long si0), .second] []))
  exact Go.retV X13 hx hlk Bd.returns (hb hby d4_15) (by rw [← hQ, e13]; exact ⟨rfl, N13, K13, h14, h15, h16, h17⟩) (by decide) (by decide)
theorem pn_1 : plainName "com/example/ballast/ballast/database/CompactionPolicyCompactedPinLaw" = true := by first | (simp [plainName, overriddenIn]; done) | decide +kernel
theorem liJ_0 : (0 : Int64).toInt = 0 := by decide
theorem pd_0 : parseMethodDescriptor "(JJ)V" = some ⟨[.long, .long], none⟩ := by decide +kernel
theorem pd_1 : parseMethodDescriptor "(JJ)Z" = some ⟨[.long, .long], some .boolean⟩ := by decide +kernel
theorem ef_rm0 (m : MethodId) (b0 : Int64) (t0 : Int64) (b1 : Int64) (t1 : Int64) (x1 : Int64) (u1 : Int64) : entryFrame m #[(.long b0), (.long t0), (.long b1), (.long t1), (.long x1), (.long u1)] maxLocals = mkF m 0 #[.val (.long b0), .second, .val (.long t0), .second, .val (.long b1), .second, .val (.long t1), .second, .val (.long x1), .second, .val (.long u1), .second, .unset, .unset, .unset, .unset, .unset, .unset] [] := by first | (simp [entryFrame, mkF, argsToLocals, Value.category, maxLocals]; done) | rfl
def Q0 (Z : State) (b0 : Int64) (t0 : Int64) (b1 : Int64) (t1 : Int64) (x1 : Int64) (u1 : Int64) (h0 : Heap) (n0 : Nat) (vv : Option Value) (h : Heap) (LL : List Loc) : Prop := vv = some (.int (1 : Int32)) ∧ Fr n0 LL ∧ Keep h0 h []
set_option maxRecDepth 65536 in
set_option maxHeartbeats 40000000 in
theorem rm0 (l : Launch) (Z : State) (a0 : Array Value) (hw : ∀ d ∈ tables_1, d.before a0 Z = true) (ws : List Jvm.Cond) (b0 : Int64) (t0 : Int64) (b1 : Int64) (t1 : Int64) (x1 : Int64) (u1 : Int64) (h0 : Heap) (n0 : Nat) (Z0 : n0 ≤ h0.size) (S_MIN_NANOS : Sta Z h0 "com/example/ballast/ballast/database/CompactionPolicy" "MIN_NANOS" "J" (.long (600000000000 : Int64))) :
    MetFree l x (head1 (Jvm.Cond.code x code maxLocals ret :: ws) room_1) (fun aa UU => aa = #[(.long b0), (.long t0), (.long b1), (.long t1), (.long x1), (.long u1)] ∧ Z.Warmed39 UU.vm ∧ UU.heap = h0) (fun _ _ _ _ _ => True) (fun _ UU oo UU' => ∃ vv LL, oo = .returned vv ∧ Q0 Z b0 t0 b1 t1 x1 u1 h0 n0 vv UU'.heap LL ∧ FrameEnd UU oo UU' LL 2 6) := by
  refine MetFree.of_bodySF (plainFor_of_name pn_1) hisR ?_
  intro p e s m args below meth c s₁ Bd hml0 hP hK
  obtain ⟨rfl, hZ, hh⟩ := hP
  have hx := Bd.exec
  have hby := Bd.bytes
  have hlk : meth.locks = false := BodyLoose.notSynchronized Bd
  have hml : c.maxLocals = 18 := hml0
  have hown : s.vm.findClass "com/example/ballast/ballast/database/CompactionPolicyCompactedPinLaw" = some m.cls := findClass_of_methodNamed Bd.named
  have hnm := (name_of_methodNamed Bd.named Bd.method).1
  have X0 : Stand p l e room_1 s m #[(.long b0), (.long t0), (.long b1), (.long t1), (.long x1), (.long u1)] below meth c s₁ [] 0 0 := Stand.of_body Bd
  have e0 : s₁.heap = h0 := by rw [← hh, Bd.state]; rfl
  have N0 := Fr.nil n0
  have K0 : Keep h0 h0 [] := Keep.refl h0 _
  refine (?_ : Go p e below s (Q0 Z b0 t0 b1 t1 x1 u1 h0 n0) 2 6 (s₁.setTop (entryFrame m #[(.long b0), (.long t0), (.long b1), (.long t1), (.long x1), (.long u1)] maxLocals)))
  rw [ef_rm0]
  generalize hQ : Q0 Z b0 t0 b1 t1 x1 u1 h0 n0 = Q
  show Go p e below s Q 2 6 (s₁.setTop (mkF m 0 #[.val (.long b0), .second, .val (.long t0), .second, .val (.long b1), .second, .val (.long t1), .second, .val (.long x1), .second, .val (.long u1), .second, .unset, .unset, .unset, .unset, .unset, .unset] []))
  have f1 := rng64 b0
  have f2 := rng64 t0
  have f3 := rng64 b1
  have f4 := rng64 t1
  have f5 := rng64 x1
  have f6 := rng64 u1
  obtain ⟨T7, h7, X7, e7, E7, A7, D7, -, st7⟩ := newO X0 hx hZ hown (hw _ (List.mem_of_getElem? (i := 0) rfl)) (hw _ (List.mem_of_getElem? (i := 1) rfl)) (hw _ (List.mem_of_getElem? (i := 2) rfl)) e0 (g := (mkF m 0 #[.val (.long b0), .second, .val (.long t0), .second, .val (.long b1), .second, .val (.long t1), .second, .val (.long x1), .second, .val (.long u1), .second, .unset, .unset, .unset, .unset, .unset, .unset] [])) rfl (hb hby at_0) (by decide) (by decide)
  obtain ⟨b7, g7⟩ : ∃ z, z = h0.size := ⟨_, rfl⟩
  rw [← g7] at A7 D7 st7
  have h8 : Sta Z h7 "com/example/ballast/ballast/database/CompactionPolicy" "MIN_NANOS" "J" (.long (600000000000 : Int64)) := S_MIN_NANOS.ext E7
  have Gb7 : n0 ≤ b7 := Nat.le_trans (Nat.le_trans Z0 K0.1) (Nat.le_of_eq g7.symm)
  have szb7 : h0.size ≤ b7 := Nat.le_trans K0.1 (Nat.le_of_eq g7.symm)
  have K7 : Keep h0 h7 [] := K0.ext E7
  have h9 : Fld Z h7 b7 "com/example/ballast/ballast/database/CompactionPolicy" "baseBytes" "J" (.long (0 : Int64)) := D7 (Or.inl (hw _ (List.mem_of_getElem? (i := 10) rfl))) (ty := .long) (by decide)
  have h10 : Fld Z h7 b7 "com/example/ballast/ballast/database/CompactionPolicy" "since" "J" (.long (0 : Int64)) := D7 (Or.inl (hw _ (List.mem_of_getElem? (i := 12) rfl))) (ty := .long) (by decide)
  have h11 : Fld Z h7 b7 "com/example/ballast/ballast/database/CompactionPolicy" "transactions" "J" (.long (0 : Int64)) := D7 (Or.inl (hw _ (List.mem_of_getElem? (i := 19) rfl))) (ty := .long) (by decide)
  refine Go.st st7 ?_
  show Go p e below s Q 2 6 (T7.setTop (mkF m 3 #[.val (.long b0), .second, .val (.long t0), .second, .val (.long b1), .second, .val (.long t1), .second, .val (.long x1), .second, .val (.long u1), .second, .unset, .unset, .unset, .unset, .unset, .unset] [(.ref b7)]))
  refine Go.st (fun _ k => XS.dup X7.here hx rfl (hb hby at_3) rfl rfl k) ?_
  show Go p e below s Q 2 6 (T7.setTop (mkF m 4 #[.val (.long b0), .second, .val (.long t0), .second, .val (.long b1), .second, .val (.long t1), .second, .val (.long x1), .second, .val (.long u1), .second, .unset, .unset, .unset, .unset, .unset, .unset] [(.ref b7), (.ref b7)]))
  refine Go.st (fun _ k => XS.lloadN X7.here hx rfl (hb hby at_4) rfl k) ?_
  show Go p e below s Q 2 6 (T7.setTop (mkF m 5 #[.val (.long b0), .second, .val (.long t0), .second, .val (.long b1), .second, .val (.long t1), .second, .val (.long x1), .second, .val (.long u1), .second, .unset, .unset, .unset, .unset, .unset, .unset] [(.long b0), (.ref b7), (.ref b7)]))
  refine Go.st (fun _ k => XS.lloadN X7.here hx rfl (hb hby at_5) rfl k) ?_
  show Go p e below s Q 2 6 (T7.setTop (mkF m 6 #[.val (.long b0), .second, .val (.long t0), .second, .val (.long b1), .second, .val (.long t1), .second, .val (.long x1), .second, .val (.long u1), .second, .unset, .unset, .unset, .unset, .unset, .unset] [(.long t0), (.long b0), (.ref b7), (.ref b7)]))
  have f13 := liJ_0
  obtain ⟨_, _, ⟨T12, L12, k12, n12⟩, -, X12, ⟨Lc12, hQ12, l12, y12, z12⟩, st12⟩ := X7.specialBack hx (y := (⟨"com/example/ballast/ballast/database/CompactionPolicy", "<init>", "(JJ)V"⟩ : MethodName)) rfl hown (mvT hZ (hw _ (List.mem_of_getElem? (i := 3) rfl))) (mvT hZ (hw _ (List.mem_of_getElem? (i := 4) rfl))) (mvT hZ (hw _ (List.mem_of_getElem? (i := 5) rfl))) (by decide) (backOf (W := 1) (rm1 l Z a0 hw [] b7 b0 t0 (0 : Int64) (0 : Int64) (0 : Int64) h7 n0 (Nat.le_trans Z0 K7.1) A7 Gb7 h9 h10 h11) hZ (hw _ (List.mem_of_getElem? (i := 5) rfl)) (hw _ (List.mem_of_getElem? (i := 2) rfl)) (by decide) (by decide)) (g := (mkF m 6 #[.val (.long b0), .second, .val (.long t0), .second, .val (.long b1), .second, .val (.long t1), .second, .val (.long x1), .second, .val (.long u1), .second, .unset, .unset, .unset, .unset, .unset, .unset] [(.long t0), (.long b0), (.ref b7), (.ref b7)])) rfl (by rw [hml]; rfl) (Steps.refl _) (a := b7) (argsL := [(.long b0), (.long t0)]) (rest := [(.ref b7)]) (lenOf pd_0 rfl) rfl (by show 2 * 0 + _ ≤ _; exact Nat.le_of_eq rfl) (hb hby at_6) (fun _ _ => ⟨rfl, e7, (by decide : 1 + 0 ≤ _), (by decide : 3 + 0 ≤ _)⟩)
  dsimp only [Pt.U, Pt.locs, Pt.cells, Pt.slots] at X12 l12 y12 z12 st12 hQ12
  subst l12 y12 z12
  obtain ⟨rfl, N12q, K12q, h14, h15, h16, h17⟩ := hQ12
  have N12 := Fr.app N0 N12q
  have h18 : Sta Z T12.heap "com/example/ballast/ballast/database/CompactionPolicy" "MIN_NANOS" "J" (.long (600000000000 : Int64)) := Jvm.OwnGo.sta_keep h8 K12q (fun x hx => (allS (P := fun x => Exi h7 x) (exi_exa A7) all0) x hx)
  have K12 : Keep h0 T12.heap [] := K7.trans K12q (fun x hx => (show ∀ x ∈ ([b7] : List Addr), x ∈ ([] : List Addr) ∨ h0.size ≤ x from (allS (Or.inr szb7) all0)) x hx)
  refine Go.tr  st12 ?_
  show Go p e below s Q 2 6 (T12.setTop (mkF m 9 #[.val (.long b0), .second, .val (.long t0), .second, .val (.long b1), .second, .val (.long t1), .second, .val (.long x1), .second, .val (.long u1), .second, .unset, .unset, .unset, .unset, .unset, .unset] [(.ref b7)]))
  refine Go.st (fun _ k => XS.astore X12.here hx rfl (hb hby at_9) rfl rfl (l' := #[.val (.long b0), .second, .val (.long t0), .second, .val (.long b1), .second, .val (.long t1), .second, .val (.long x1), .second, .val (.long u1), .second, .val (.ref b7), .unset, .unset, .unset, .unset, .unset]) rfl k) ?_
  show Go p e below s Q 2 6 (T12.setTop (mkF m 11 #[.val (.long b0), .second, .val (.long t0), .second, .val (.long b1), .second, .val (.long t1), .second, .val (.long x1), .second, .val (.long u1), .second, .val (.ref b7), .unset, .unset, .unset, .unset, .unset] []))
  refine Go.st (fun _ k => XS.aload X12.here hx rfl (hb hby at_11) rfl rfl k) ?_
  show Go p e below s Q 2 6 (T12.setTop (mkF m 13 #[.val (.long b0), .second, .val (.long t0), .second, .val (.long b1), .second, .val (.long t1), .second, .val (.long x1), .second, .val (.long u1), .second, .val (.ref b7), .unset, .unset, .unset, .unset, .unset] [(.ref b7)]))
  refine Go.st (fun _ k => XS.lload X12.here hx rfl (hb hby at_13) rfl k) ?_
  show Go p e below s Q 2 6 (T12.setTop (mkF m 15 #[.val (.long b0), .second, .val (.long t0), .second, .val (.long b1), .second, .val (.long t1), .second, .val (.long x1), .second, .val (.long u1), .second, .val (.ref b7), .unset, .unset, .unset, .unset, .unset] [(.long x1), (.ref b7)]))
  refine Go.st (fun _ k => XS.lload X12.here hx rfl (hb hby at_15) rfl k) ?_
  show Go p e below s Q 2 6 (T12.setTop (mkF m 17 #[.val (.long b0), .second, .val (.long t0), .second, .val (.long b1), .second, .val (.long t1), .second, .val (.long x1), .second, .val (.long u1), .second, .val (.ref b7), .unset, .unset, .unset, .unset, .unset] [(.long u1), (.long x1), (.ref b7)]))
  have p20 : 0 ≤ (0 : Int64).toInt ∧ (0 : Int64).toInt < 50 := by omega
  obtain ⟨cq19, kq19, q19a, q19b, q19c⟩ := isOf hZ rfl h14
  obtain ⟨_, _, ⟨T19, L19, k19, n19⟩, -, X19, ⟨Lc19, hQ19, l19, y19, z19⟩, st19⟩ := X12.virtualBack hx (y := (⟨"com/example/ballast/ballast/database/CompactionPolicy", "written", "(JJ)Z"⟩ : MethodName)) (z := (⟨"com/example/ballast/ballast/database/CompactionPolicy", "written", "(JJ)Z"⟩ : MethodName)) hown (mvT hZ (hw _ (List.mem_of_getElem? (i := 13) rfl))) (mvT hZ (hw _ (List.mem_of_getElem? (i := 14) rfl))) (notFace_of_selects (args := #[]) (mvT hZ (hw _ (List.mem_of_getElem? (i := 16) rfl)))) (mvT hZ (hw _ (List.mem_of_getElem? (i := 16) rfl))) (mvT hZ (hw _ (List.mem_of_getElem? (i := 15) rfl))) (by decide) (backOf (W := 0) (rm3 l Z a0 hw [] b7 x1 u1 b0 t0 (0 : Int64) T12.heap n0 (Nat.le_trans Z0 K12.1) h14 Gb7 h18 h15 h16 h17 p20) hZ (hw _ (List.mem_of_getElem? (i := 17) rfl)) (hw _ (List.mem_of_getElem? (i := 2) rfl)) (by decide) (by decide)) q19a q19c (g := (mkF m 17 #[.val (.long b0), .second, .val (.long t0), .second, .val (.long b1), .second, .val (.long t1), .second, .val (.long x1), .second, .val (.long u1), .second, .val (.ref b7), .unset, .unset, .unset, .unset, .unset] [(.long u1), (.long x1), (.ref b7)])) rfl (by rw [hml]; rfl) (Steps.refl _) (argsL := [(.long x1), (.long u1)]) (rest := []) (lenOf pd_1 rfl) rfl (by show 2 * 0 + _ ≤ _; exact Nat.le_of_eq rfl) (hb hby at_17) (fun _ _ => ⟨rfl, rfl, (by decide : 1 + 0 ≤ _), (by decide : 3 + 0 ≤ _)⟩)
  dsimp only [Pt.U, Pt.locs, Pt.cells, Pt.slots] at X19 l19 y19 z19 st19 hQ19
  subst l19 y19 z19
  obtain ⟨r_21, tn_22, rfl, N19q, f23, f24, K19q, h25, h26, h27, h28⟩ := hQ19
  have N19 := Fr.app N12 N19q
  have h29 : Sta Z T19.heap "com/example/ballast/ballast/database/CompactionPolicy" "MIN_NANOS" "J" (.long (600000000000 : Int64)) := Jvm.OwnGo.sta_keep h18 K19q (fun x hx => (allS (P := fun x => Exi T12.heap x) (exi_exa h14) all0) x hx)
  have K19 : Keep h0 T19.heap [] := K12.trans K19q (fun x hx => (show ∀ x ∈ ([b7] : List Addr), x ∈ ([] : List Addr) ∨ h0.size ≤ x from (allS (Or.inr szb7) all0)) x hx)
  refine Go.tr  st19 ?_
  show Go p e below s Q 2 6 (T19.setTop (mkF m 20 #[.val (.long b0), .second, .val (.long t0), .second, .val (.long b1), .second, .val (.long t1), .second, .val (.long x1), .second, .val (.long u1), .second, .val (.ref b7), .unset, .unset, .unset, .unset, .unset] [(.int r_21)]))
  have f30 := rng32 r_21
  refine Go.st (fun _ k => XS.pop X19.here hx rfl (hb hby at_20) rfl rfl k) ?_
  show Go p e below s Q 2 6 (T19.setTop (mkF m 21 #[.val (.long b0), .second, .val (.long t0), .second, .val (.long b1), .second, .val (.long t1), .second, .val (.long x1), .second, .val (.long u1), .second, .val (.ref b7), .unset, .unset, .unset, .unset, .unset] []))
  refine Go.st (fun _ k => XS.aload X19.here hx rfl (hb hby at_21) rfl rfl k) ?_
  show Go p e below s Q 2 6 (T19.setTop (mkF m 23 #[.val (.long b0), .second, .val (.long t0), .second, .val (.long b1), .second, .val (.long t1), .second, .val (.long x1), .second, .val (.long u1), .second, .val (.ref b7), .unset, .unset, .unset, .unset, .unset] [(.ref b7)]))
  refine Go.st (fun _ k => XS.lload X19.here hx rfl (hb hby at_23) rfl k) ?_
  show Go p e below s Q 2 6 (T19.setTop (mkF m 25 #[.val (.long b0), .second, .val (.long t0), .second, .val (.long b1), .second, .val (.long t1), .second, .val (.long x1), .second, .val (.long u1), .second, .val (.ref b7), .unset, .unset, .unset, .unset, .unset] [(.long b1), (.ref b7)]))
  refine Go.st (fun _ k => XS.lload X19.here hx rfl (hb hby at_25) rfl k) ?_
  show Go p e below s Q 2 6 (T19.setTop (mkF m 27 #[.val (.long b0), .second, .val (.long t0), .second, .val (.long b1), .second, .val (.long t1), .second, .val (.long x1), .second, .val (.long u1), .second, .val (.ref b7), .unset, .unset, .unset, .unset, .unset] [(.long t1), (.long b1), (.ref b7)]))
  have f32 := rng64 tn_22
  obtain ⟨cq31, kq31, q31a, q31b, q31c⟩ := isOf hZ rfl h25
  obtain ⟨_, _, ⟨T31, L31, k31, n31⟩, -, X31, ⟨Lc31, hQ31, l31, y31, z31⟩, st31⟩ := X19.virtualBack hx (y := (⟨"com/example/ballast/ballast/database/CompactionPolicy", "compacted", "(JJ)V"⟩ : MethodName)) (z := (⟨"com/example/ballast/ballast/database/CompactionPolicy", "compacted", "(JJ)V"⟩ : MethodName)) hown (mvT hZ (hw _ (List.mem_of_getElem? (i := 22) rfl))) (mvT hZ (hw _ (List.mem_of_getElem? (i := 23) rfl))) (notFace_of_selects (args := #[]) (mvT hZ (hw _ (List.mem_of_getElem? (i := 25) rfl)))) (mvT hZ (hw _ (List.mem_of_getElem? (i := 25) rfl))) (mvT hZ (hw _ (List.mem_of_getElem? (i := 24) rfl))) (by decide) (backOf (W := 0) (rm4 l Z a0 hw [] b7 b1 t1 b0 t0 tn_22 T19.heap n0 (Nat.le_trans Z0 K19.1) h25 Gb7 h26 h27 h28) hZ (hw _ (List.mem_of_getElem? (i := 26) rfl)) (hw _ (List.mem_of_getElem? (i := 2) rfl)) (by decide) (by decide)) q31a q31c (g := (mkF m 27 #[.val (.long b0), .second, .val (.long t0), .second, .val (.long b1), .second, .val (.long t1), .second, .val (.long x1), .second, .val (.long u1), .second, .val (.ref b7), .unset, .unset, .unset, .unset, .unset] [(.long t1), (.long b1), (.ref b7)])) rfl (by rw [hml]; rfl) (Steps.refl _) (argsL := [(.long b1), (.long t1)]) (rest := []) (lenOf pd_0 rfl) rfl (by show 2 * 0 + _ ≤ _; exact Nat.le_of_eq rfl) (hb hby at_27) (fun _ _ => ⟨rfl, rfl, (by decide : 1 + 0 ≤ _), (by decide : 3 + 0 ≤ _)⟩)
  dsimp only [Pt.U, Pt.locs, Pt.cells, Pt.slots] at X31 l31 y31 z31 st31 hQ31
  subst l31 y31 z31
  obtain ⟨rfl, N31q, K31q, h33, h34, h35, h36⟩ := hQ31
  have N31 := Fr.app N19 N31q
  have h37 : Sta Z T31.heap "com/example/ballast/ballast/database/CompactionPolicy" "MIN_NANOS" "J" (.long (600000000000 : Int64)) := Jvm.OwnGo.sta_keep h29 K31q (fun x hx => (allS (P := fun x => Exi T19.heap x) (exi_exa h25) all0) x hx)
  have K31 : Keep h0 T31.heap [] := K19.trans K31q (fun x hx => (show ∀ x ∈ ([b7] : List Addr), x ∈ ([] : List Addr) ∨ h0.size ≤ x from (allS (Or.inr szb7) all0)) x hx)
  refine Go.tr  st31 ?_
  show Go p e below s Q 2 6 (T31.setTop (mkF m 30 #[.val (.long b0), .second, .val (.long t0), .second, .val (.long b1), .second, .val (.long t1), .second, .val (.long x1), .second, .val (.long u1), .second, .val (.ref b7), .unset, .unset, .unset, .unset, .unset] []))
  obtain ⟨T38, h38, X38, e38, E38, A38, D38, -, st38⟩ := newO X31 hx hZ hown (hw _ (List.mem_of_getElem? (i := 0) rfl)) (hw _ (List.mem_of_getElem? (i := 1) rfl)) (hw _ (List.mem_of_getElem? (i := 2) rfl)) rfl (g := (mkF m 30 #[.val (.long b0), .second, .val (.long t0), .second, .val (.long b1), .second, .val (.long t1), .second, .val (.long x1), .second, .val (.long u1), .second, .val (.ref b7), .unset, .unset, .unset, .unset, .unset] [])) rfl (hb hby at_30) (by decide) (by decide)
  obtain ⟨b38, g38⟩ : ∃ z, z = T31.heap.size := ⟨_, rfl⟩
  rw [← g38] at A38 D38 st38
  have q39 : b7 ≠ b38 := Nat.ne_of_lt (Nat.lt_of_lt_of_le h33.lt (Nat.le_of_eq g38.symm))
  have h40 : Sta Z h38 "com/example/ballast/ballast/database/CompactionPolicy" "MIN_NANOS" "J" (.long (600000000000 : Int64)) := h37.ext E38
  have h41 : Exa Z h38 b7 "com/example/ballast/ballast/database/CompactionPolicy" := h33.ext E38
  have h42 : Fld Z h38 b7 "com/example/ballast/ballast/database/CompactionPolicy" "baseBytes" "J" (.long b1) := h34.ext E38
  have h43 : Fld Z h38 b7 "com/example/ballast/ballast/database/CompactionPolicy" "since" "J" (.long t1) := h35.ext E38
  have h44 : Fld Z h38 b7 "com/example/ballast/ballast/database/CompactionPolicy" "transactions" "J" (.long (0 : Int64)) := h36.ext E38
  have Gb38 : n0 ≤ b38 := Nat.le_trans (Nat.le_trans Z0 K31.1) (Nat.le_of_eq g38.symm)
  have szb38 : h0.size ≤ b38 := Nat.le_trans K31.1 (Nat.le_of_eq g38.symm)
  have K38 : Keep h0 h38 [] := K31.ext E38
  have h45 : Fld Z h38 b38 "com/example/ballast/ballast/database/CompactionPolicy" "baseBytes" "J" (.long (0 : Int64)) := D38 (Or.inl (hw _ (List.mem_of_getElem? (i := 10) rfl))) (ty := .long) (by decide)
  have h46 : Fld Z h38 b38 "com/example/ballast/ballast/database/CompactionPolicy" "since" "J" (.long (0 : Int64)) := D38 (Or.inl (hw _ (List.mem_of_getElem? (i := 12) rfl))) (ty := .long) (by decide)
  have h47 : Fld Z h38 b38 "com/example/ballast/ballast/database/CompactionPolicy" "transactions" "J" (.long (0 : Int64)) := D38 (Or.inl (hw _ (List.mem_of_getElem? (i := 19) rfl))) (ty := .long) (by decide)
  refine Go.st st38 ?_
  show Go p e below s Q 2 6 (T38.setTop (mkF m 33 #[.val (.long b0), .second, .val (.long t0), .second, .val (.long b1), .second, .val (.long t1), .second, .val (.long x1), .second, .val (.long u1), .second, .val (.ref b7), .unset, .unset, .unset, .unset, .unset] [(.ref b38)]))
  refine Go.st (fun _ k => XS.dup X38.here hx rfl (hb hby at_33) rfl rfl k) ?_
  show Go p e below s Q 2 6 (T38.setTop (mkF m 34 #[.val (.long b0), .second, .val (.long t0), .second, .val (.long b1), .second, .val (.long t1), .second, .val (.long x1), .second, .val (.long u1), .second, .val (.ref b7), .unset, .unset, .unset, .unset, .unset] [(.ref b38), (.ref b38)]))
  refine Go.st (fun _ k => XS.lload X38.here hx rfl (hb hby at_34) rfl k) ?_
  show Go p e below s Q 2 6 (T38.setTop (mkF m 36 #[.val (.long b0), .second, .val (.long t0), .second, .val (.long b1), .second, .val (.long t1), .second, .val (.long x1), .second, .val (.long u1), .second, .val (.ref b7), .unset, .unset, .unset, .unset, .unset] [(.long b1), (.ref b38), (.ref b38)]))
  refine Go.st (fun _ k => XS.lload X38.here hx rfl (hb hby at_36) rfl k) ?_
  show Go p e below s Q 2 6 (T38.setTop (mkF m 38 #[.val (.long b0), .second, .val (.long t0), .second, .val (.long b1), .second, .val (.long t1), .second, .val (.long x1), .second, .val (.long u1), .second, .val (.ref b7), .unset, .unset, .unset, .unset, .unset] [(.long t1), (.long b1), (.ref b38), (.ref b38)]))
  obtain ⟨_, _, ⟨T48, L48, k48, n48⟩, -, X48, ⟨Lc48, hQ48, l48, y48, z48⟩, st48⟩ := X38.specialBack hx (y := (⟨"com/example/ballast/ballast/database/CompactionPolicy", "<init>", "(JJ)V"⟩ : MethodName)) rfl hown (mvT hZ (hw _ (List.mem_of_getElem? (i := 3) rfl))) (mvT hZ (hw _ (List.mem_of_getElem? (i := 4) rfl))) (mvT hZ (hw _ (List.mem_of_getElem? (i := 5) rfl))) (by decide) (backOf (W := 1) (rm1 l Z a0 hw [] b38 b1 t1 (0 : Int64) (0 : Int64) (0 : Int64) h38 n0 (Nat.le_trans Z0 K38.1) A38 Gb38 h45 h46 h47) hZ (hw _ (List.mem_of_getElem? (i := 5) rfl)) (hw _ (List.mem_of_getElem? (i := 2) rfl)) (by decide) (by decide)) (g := (mkF m 38 #[.val (.long b0), .second, .val (.long t0), .second, .val (.long b1), .second, .val (.long t1), .second, .val (.long x1), .second, .val (.long u1), .second, .val (.ref b7), .unset, .unset, .unset, .unset, .unset] [(.long t1), (.long b1), (.ref b38), (.ref b38)])) rfl (by rw [hml]; rfl) (Steps.refl _) (a := b38) (argsL := [(.long b1), (.long t1)]) (rest := [(.ref b38)]) (lenOf pd_0 rfl) rfl (by show 2 * 0 + _ ≤ _; exact Nat.le_of_eq rfl) (hb hby at_38) (fun _ _ => ⟨rfl, e38, (by decide : 2 + 0 ≤ _), (by decide : 6 + 0 ≤ _)⟩)
  dsimp only [Pt.U, Pt.locs, Pt.cells, Pt.slots] at X48 l48 y48 z48 st48 hQ48
  subst l48 y48 z48
  obtain ⟨rfl, N48q, K48q, h49, h50, h51, h52⟩ := hQ48
  have N48 := Fr.app N31 N48q
  have h53 : Sta Z T48.heap "com/example/ballast/ballast/database/CompactionPolicy" "MIN_NANOS" "J" (.long (600000000000 : Int64)) := Jvm.OwnGo.sta_keep h40 K48q (fun x hx => (allS (P := fun x => Exi h38 x) (exi_exa A38) all0) x hx)
  have h54 : Exa Z T48.heap b7 "com/example/ballast/ballast/database/CompactionPolicy" := h41.keep K48q
  have h55 : Fld Z T48.heap b7 "com/example/ballast/ballast/database/CompactionPolicy" "baseBytes" "J" (.long b1) := h42.keep K48q (ninS q39 nin0)
  have h56 : Fld Z T48.heap b7 "com/example/ballast/ballast/database/CompactionPolicy" "since" "J" (.long t1) := h43.keep K48q (ninS q39 nin0)
  have h57 : Fld Z T48.heap b7 "com/example/ballast/ballast/database/CompactionPolicy" "transactions" "J" (.long (0 : Int64)) := h44.keep K48q (ninS q39 nin0)
  have K48 : Keep h0 T48.heap [] := K38.trans K48q (fun x hx => (show ∀ x ∈ ([b38] : List Addr), x ∈ ([] : List Addr) ∨ h0.size ≤ x from (allS (Or.inr szb38) all0)) x hx)
  refine Go.tr  st48 ?_
  show Go p e below s Q 2 6 (T48.setTop (mkF m 41 #[.val (.long b0), .second, .val (.long t0), .second, .val (.long b1), .second, .val (.long t1), .second, .val (.long x1), .second, .val (.long u1), .second, .val (.ref b7), .unset, .unset, .unset, .unset, .unset] [(.ref b38)]))
  refine Go.st (fun _ k => XS.astore X48.here hx rfl (hb hby at_41) rfl rfl (l' := #[.val (.long b0), .second, .val (.long t0), .second, .val (.long b1), .second, .val (.long t1), .second, .val (.long x1), .second, .val (.long u1), .second, .val (.ref b7), .val (.ref b38), .unset, .unset, .unset, .unset]) rfl k) ?_
  show Go p e below s Q 2 6 (T48.setTop (mkF m 43 #[.val (.long b0), .second, .val (.long t0), .second, .val (.long b1), .second, .val (.long t1), .second, .val (.long x1), .second, .val (.long u1), .second, .val (.ref b7), .val (.ref b38), .unset, .unset, .unset, .unset] []))
  refine Go.st (fun _ k => XS.aload X48.here hx rfl (hb hby at_43) rfl rfl k) ?_
  show Go p e below s Q 2 6 (T48.setTop (mkF m 45 #[.val (.long b0), .second, .val (.long t0), .second, .val (.long b1), .second, .val (.long t1), .second, .val (.long x1), .second, .val (.long u1), .second, .val (.ref b7), .val (.ref b38), .unset, .unset, .unset, .unset] [(.ref b7)]))
  refine Go.st (fun _ k => XS.lload X48.here hx rfl (hb hby at_45) rfl k) ?_
  show Go p e below s Q 2 6 (T48.setTop (mkF m 47 #[.val (.long b0), .second, .val (.long t0), .second, .val (.long b1), .second, .val (.long t1), .second, .val (.long x1), .second, .val (.long u1), .second, .val (.ref b7), .val (.ref b38), .unset, .unset, .unset, .unset] [(.long x1), (.ref b7)]))
  refine Go.st (fun _ k => XS.lload X48.here hx rfl (hb hby at_47) rfl k) ?_
  show Go p e below s Q 2 6 (T48.setTop (mkF m 49 #[.val (.long b0), .second, .val (.long t0), .second, .val (.long b1), .second, .val (.long t1), .second, .val (.long x1), .second, .val (.long u1), .second, .val (.ref b7), .val (.ref b38), .unset, .unset, .unset, .unset] [(.long u1), (.long x1), (.ref b7)]))
  have p59 : 0 ≤ (0 : Int64).toInt ∧ (0 : Int64).toInt < 50 := by omega
  obtain ⟨cq58, kq58, q58a, q58b, q58c⟩ := isOf hZ rfl h54
  obtain ⟨_, _, ⟨T58, L58, k58, n58⟩, -, X58, ⟨Lc58, hQ58, l58, y58, z58⟩, st58⟩ := X48.virtualBack hx (y := (⟨"com/example/ballast/ballast/database/CompactionPolicy", "written", "(JJ)Z"⟩ : MethodName)) (z := (⟨"com/example/ballast/ballast/database/CompactionPolicy", "written", "(JJ)Z"⟩ : MethodName)) hown (mvT hZ (hw _ (List.mem_of_getElem? (i := 13) rfl))) (mvT hZ (hw _ (List.mem_of_getElem? (i := 14) rfl))) (notFace_of_selects (args := #[]) (mvT hZ (hw _ (List.mem_of_getElem? (i := 16) rfl)))) (mvT hZ (hw _ (List.mem_of_getElem? (i := 16) rfl))) (mvT hZ (hw _ (List.mem_of_getElem? (i := 15) rfl))) (by decide) (backOf (W := 0) (rm3 l Z a0 hw [] b7 x1 u1 b1 t1 (0 : Int64) T48.heap n0 (Nat.le_trans Z0 K48.1) h54 Gb7 h53 h55 h56 h57 p59) hZ (hw _ (List.mem_of_getElem? (i := 17) rfl)) (hw _ (List.mem_of_getElem? (i := 2) rfl)) (by decide) (by decide)) q58a q58c (g := (mkF m 49 #[.val (.long b0), .second, .val (.long t0), .second, .val (.long b1), .second, .val (.long t1), .second, .val (.long x1), .second, .val (.long u1), .second, .val (.ref b7), .val (.ref b38), .unset, .unset, .unset, .unset] [(.long u1), (.long x1), (.ref b7)])) rfl (by rw [hml]; rfl) (Steps.refl _) (argsL := [(.long x1), (.long u1)]) (rest := []) (lenOf pd_1 rfl) rfl (by show 2 * 0 + _ ≤ _; exact Nat.le_of_eq rfl) (hb hby at_49) (fun _ _ => ⟨rfl, rfl, (by decide : 2 + 0 ≤ _), (by decide : 6 + 0 ≤ _)⟩)
  dsimp only [Pt.U, Pt.locs, Pt.cells, Pt.slots] at X58 l58 y58 z58 st58 hQ58
  subst l58 y58 z58
  obtain ⟨r_60, tn_61, rfl, N58q, f62, f63, K58q, h64, h65, h66, h67⟩ := hQ58
  have N58 := Fr.app N48 N58q
  have h68 : Sta Z T58.heap "com/example/ballast/ballast/database/CompactionPolicy" "MIN_NANOS" "J" (.long (600000000000 : Int64)) := Jvm.OwnGo.sta_keep h53 K58q (fun x hx => (allS (P := fun x => Exi T48.heap x) (exi_exa h54) all0) x hx)
  have h69 : Exa Z T58.heap b38 "com/example/ballast/ballast/database/CompactionPolicy" := h49.keep K58q
  have h70 : Fld Z T58.heap b38 "com/example/ballast/ballast/database/CompactionPolicy" "baseBytes" "J" (.long b1) := h50.keep K58q (ninS (Ne.symm q39) nin0)
  have h71 : Fld Z T58.heap b38 "com/example/ballast/ballast/database/CompactionPolicy" "since" "J" (.long t1) := h51.keep K58q (ninS (Ne.symm q39) nin0)
  have h72 : Fld Z T58.heap b38 "com/example/ballast/ballast/database/CompactionPolicy" "transactions" "J" (.long (0 : Int64)) := h52.keep K58q (ninS (Ne.symm q39) nin0)
  have K58 : Keep h0 T58.heap [] := K48.trans K58q (fun x hx => (show ∀ x ∈ ([b7] : List Addr), x ∈ ([] : List Addr) ∨ h0.size ≤ x from (allS (Or.inr szb7) all0)) x hx)
  refine Go.tr  st58 ?_
  show Go p e below s Q 2 6 (T58.setTop (mkF m 52 #[.val (.long b0), .second, .val (.long t0), .second, .val (.long b1), .second, .val (.long t1), .second, .val (.long x1), .second, .val (.long u1), .second, .val (.ref b7), .val (.ref b38), .unset, .unset, .unset, .unset] [(.int r_60)]))
  have f73 := rng32 r_60
  refine Go.st (fun _ k => XS.istore X58.here hx rfl (hb hby at_52) rfl (l' := #[.val (.long b0), .second, .val (.long t0), .second, .val (.long b1), .second, .val (.long t1), .second, .val (.long x1), .second, .val (.long u1), .second, .val (.ref b7), .val (.ref b38), .val (.int r_60), .unset, .unset, .unset]) rfl k) ?_
  show Go p e below s Q 2 6 (T58.setTop (mkF m 54 #[.val (.long b0), .second, .val (.long t0), .second, .val (.long b1), .second, .val (.long t1), .second, .val (.long x1), .second, .val (.long u1), .second, .val (.ref b7), .val (.ref b38), .val (.int r_60), .unset, .unset, .unset] []))
  refine Go.st (fun _ k => XS.aload X58.here hx rfl (hb hby at_54) rfl rfl k) ?_
  show Go p e below s Q 2 6 (T58.setTop (mkF m 56 #[.val (.long b0), .second, .val (.long t0), .second, .val (.long b1), .second, .val (.long t1), .second, .val (.long x1), .second, .val (.long u1), .second, .val (.ref b7), .val (.ref b38), .val (.int r_60), .unset, .unset, .unset] [(.ref b38)]))
  refine Go.st (fun _ k => XS.lload X58.here hx rfl (hb hby at_56) rfl k) ?_
  show Go p e below s Q 2 6 (T58.setTop (mkF m 58 #[.val (.long b0), .second, .val (.long t0), .second, .val (.long b1), .second, .val (.long t1), .second, .val (.long x1), .second, .val (.long u1), .second, .val (.ref b7), .val (.ref b38), .val (.int r_60), .unset, .unset, .unset] [(.long x1), (.ref b38)]))
  refine Go.st (fun _ k => XS.lload X58.here hx rfl (hb hby at_58) rfl k) ?_
  show Go p e below s Q 2 6 (T58.setTop (mkF m 60 #[.val (.long b0), .second, .val (.long t0), .second, .val (.long b1), .second, .val (.long t1), .second, .val (.long x1), .second, .val (.long u1), .second, .val (.ref b7), .val (.ref b38), .val (.int r_60), .unset, .unset, .unset] [(.long u1), (.long x1), (.ref b38)]))
  have p75 : 0 ≤ (0 : Int64).toInt ∧ (0 : Int64).toInt < 50 := by omega
  obtain ⟨cq74, kq74, q74a, q74b, q74c⟩ := isOf hZ rfl h69
  obtain ⟨_, _, ⟨T74, L74, k74, n74⟩, -, X74, ⟨Lc74, hQ74, l74, y74, z74⟩, st74⟩ := X58.virtualBack hx (y := (⟨"com/example/ballast/ballast/database/CompactionPolicy", "written", "(JJ)Z"⟩ : MethodName)) (z := (⟨"com/example/ballast/ballast/database/CompactionPolicy", "written", "(JJ)Z"⟩ : MethodName)) hown (mvT hZ (hw _ (List.mem_of_getElem? (i := 13) rfl))) (mvT hZ (hw _ (List.mem_of_getElem? (i := 14) rfl))) (notFace_of_selects (args := #[]) (mvT hZ (hw _ (List.mem_of_getElem? (i := 16) rfl)))) (mvT hZ (hw _ (List.mem_of_getElem? (i := 16) rfl))) (mvT hZ (hw _ (List.mem_of_getElem? (i := 15) rfl))) (by decide) (backOf (W := 0) (rm3 l Z a0 hw [] b38 x1 u1 b1 t1 (0 : Int64) T58.heap n0 (Nat.le_trans Z0 K58.1) h69 Gb38 h68 h70 h71 h72 p75) hZ (hw _ (List.mem_of_getElem? (i := 17) rfl)) (hw _ (List.mem_of_getElem? (i := 2) rfl)) (by decide) (by decide)) q74a q74c (g := (mkF m 60 #[.val (.long b0), .second, .val (.long t0), .second, .val (.long b1), .second, .val (.long t1), .second, .val (.long x1), .second, .val (.long u1), .second, .val (.ref b7), .val (.ref b38), .val (.int r_60), .unset, .unset, .unset] [(.long u1), (.long x1), (.ref b38)])) rfl (by rw [hml]; rfl) (Steps.refl _) (argsL := [(.long x1), (.long u1)]) (rest := []) (lenOf pd_1 rfl) rfl (by show 2 * 0 + _ ≤ _; exact Nat.le_of_eq rfl) (hb hby at_60) (fun _ _ => ⟨rfl, rfl, (by decide : 2 + 0 ≤ _), (by decide : 6 + 0 ≤ _)⟩)
  dsimp only [Pt.U, Pt.locs, Pt.cells, Pt.slots] at X74 l74 y74 z74 st74 hQ74
  subst l74 y74 z74
  obtain ⟨r_76, tn_77, rfl, N74q, f78, f79, K74q, h80, h81, h82, h83⟩ := hQ74
  have N74 := Fr.app N58 N74q
  have h84 : Sta Z T74.heap "com/example/ballast/ballast/database/CompactionPolicy" "MIN_NANOS" "J" (.long (600000000000 : Int64)) := Jvm.OwnGo.sta_keep h68 K74q (fun x hx => (allS (P := fun x => Exi T58.heap x) (exi_exa h69) all0) x hx)
  have h85 : Exa Z T74.heap b7 "com/example/ballast/ballast/database/CompactionPolicy" := h64.keep K74q
  have h86 : Fld Z T74.heap b7 "com/example/ballast/ballast/database/CompactionPolicy" "baseBytes" "J" (.long b1) := h65.keep K74q (ninS q39 nin0)
  have h87 : Fld Z T74.heap b7 "com/example/ballast/ballast/database/CompactionPolicy" "since" "J" (.long t1) := h66.keep K74q (ninS q39 nin0)
  have h88 : Fld Z T74.heap b7 "com/example/ballast/ballast/database/CompactionPolicy" "transactions" "J" (.long tn_61) := h67.keep K74q (ninS q39 nin0)
  have K74 : Keep h0 T74.heap [] := K58.trans K74q (fun x hx => (show ∀ x ∈ ([b38] : List Addr), x ∈ ([] : List Addr) ∨ h0.size ≤ x from (allS (Or.inr szb38) all0)) x hx)
  refine Go.tr  st74 ?_
  show Go p e below s Q 2 6 (T74.setTop (mkF m 63 #[.val (.long b0), .second, .val (.long t0), .second, .val (.long b1), .second, .val (.long t1), .second, .val (.long x1), .second, .val (.long u1), .second, .val (.ref b7), .val (.ref b38), .val (.int r_60), .unset, .unset, .unset] [(.int r_76)]))
  have f89 := rng32 r_76
  refine Go.st (fun _ k => XS.istore X74.here hx rfl (hb hby at_63) rfl (l' := #[.val (.long b0), .second, .val (.long t0), .second, .val (.long b1), .second, .val (.long t1), .second, .val (.long x1), .second, .val (.long u1), .second, .val (.ref b7), .val (.ref b38), .val (.int r_60), .val (.int r_76), .unset, .unset]) rfl k) ?_
  show Go p e below s Q 2 6 (T74.setTop (mkF m 65 #[.val (.long b0), .second, .val (.long t0), .second, .val (.long b1), .second, .val (.long t1), .second, .val (.long x1), .second, .val (.long u1), .second, .val (.ref b7), .val (.ref b38), .val (.int r_60), .val (.int r_76), .unset, .unset] []))
  refine Go.st (fun _ k => XS.aload X74.here hx rfl (hb hby at_65) rfl rfl k) ?_
  show Go p e below s Q 2 6 (T74.setTop (mkF m 67 #[.val (.long b0), .second, .val (.long t0), .second, .val (.long b1), .second, .val (.long t1), .second, .val (.long x1), .second, .val (.long u1), .second, .val (.ref b7), .val (.ref b38), .val (.int r_60), .val (.int r_76), .unset, .unset] [(.ref b7)]))
  refine Go.st (fun _ k => XS.lloadN X74.here hx rfl (hb hby at_67) rfl k) ?_
  show Go p e below s Q 2 6 (T74.setTop (mkF m 68 #[.val (.long b0), .second, .val (.long t0), .second, .val (.long b1), .second, .val (.long t1), .second, .val (.long x1), .second, .val (.long u1), .second, .val (.ref b7), .val (.ref b38), .val (.int r_60), .val (.int r_76), .unset, .unset] [(.long b0), (.ref b7)]))
  refine Go.st (fun _ k => XS.lloadN X74.here hx rfl (hb hby at_68) rfl k) ?_
  show Go p e below s Q 2 6 (T74.setTop (mkF m 69 #[.val (.long b0), .second, .val (.long t0), .second, .val (.long b1), .second, .val (.long t1), .second, .val (.long x1), .second, .val (.long u1), .second, .val (.ref b7), .val (.ref b38), .val (.int r_60), .val (.int r_76), .unset, .unset] [(.long t0), (.long b0), (.ref b7)]))
  have f91 := rng64 tn_61
  have p92 : 0 ≤ tn_61.toInt ∧ tn_61.toInt < 50 := by omega
  obtain ⟨cq90, kq90, q90a, q90b, q90c⟩ := isOf hZ rfl h85
  obtain ⟨_, _, ⟨T90, L90, k90, n90⟩, -, X90, ⟨Lc90, hQ90, l90, y90, z90⟩, st90⟩ := X74.virtualBack hx (y := (⟨"com/example/ballast/ballast/database/CompactionPolicy", "written", "(JJ)Z"⟩ : MethodName)) (z := (⟨"com/example/ballast/ballast/database/CompactionPolicy", "written", "(JJ)Z"⟩ : MethodName)) hown (mvT hZ (hw _ (List.mem_of_getElem? (i := 13) rfl))) (mvT hZ (hw _ (List.mem_of_getElem? (i := 14) rfl))) (notFace_of_selects (args := #[]) (mvT hZ (hw _ (List.mem_of_getElem? (i := 16) rfl)))) (mvT hZ (hw _ (List.mem_of_getElem? (i := 16) rfl))) (mvT hZ (hw _ (List.mem_of_getElem? (i := 15) rfl))) (by decide) (backOf (W := 0) (rm3 l Z a0 hw [] b7 b0 t0 b1 t1 tn_61 T74.heap n0 (Nat.le_trans Z0 K74.1) h85 Gb7 h84 h86 h87 h88 p92) hZ (hw _ (List.mem_of_getElem? (i := 17) rfl)) (hw _ (List.mem_of_getElem? (i := 2) rfl)) (by decide) (by decide)) q90a q90c (g := (mkF m 69 #[.val (.long b0), .second, .val (.long t0), .second, .val (.long b1), .second, .val (.long t1), .second, .val (.long x1), .second, .val (.long u1), .second, .val (.ref b7), .val (.ref b38), .val (.int r_60), .val (.int r_76), .unset, .unset] [(.long t0), (.long b0), (.ref b7)])) rfl (by rw [hml]; rfl) (Steps.refl _) (argsL := [(.long b0), (.long t0)]) (rest := []) (lenOf pd_1 rfl) rfl (by show 2 * 0 + _ ≤ _; exact Nat.le_of_eq rfl) (hb hby at_69) (fun _ _ => ⟨rfl, rfl, (by decide : 2 + 0 ≤ _), (by decide : 6 + 0 ≤ _)⟩)
  dsimp only [Pt.U, Pt.locs, Pt.cells, Pt.slots] at X90 l90 y90 z90 st90 hQ90
  subst l90 y90 z90
  obtain ⟨r_93, tn_94, rfl, N90q, f95, f96, K90q, h97, h98, h99, h100⟩ := hQ90
  have N90 := Fr.app N74 N90q
  have h101 : Sta Z T90.heap "com/example/ballast/ballast/database/CompactionPolicy" "MIN_NANOS" "J" (.long (600000000000 : Int64)) := Jvm.OwnGo.sta_keep h84 K90q (fun x hx => (allS (P := fun x => Exi T74.heap x) (exi_exa h85) all0) x hx)
  have h102 : Exa Z T90.heap b38 "com/example/ballast/ballast/database/CompactionPolicy" := h80.keep K90q
  have h103 : Fld Z T90.heap b38 "com/example/ballast/ballast/database/CompactionPolicy" "baseBytes" "J" (.long b1) := h81.keep K90q (ninS (Ne.symm q39) nin0)
  have h104 : Fld Z T90.heap b38 "com/example/ballast/ballast/database/CompactionPolicy" "since" "J" (.long t1) := h82.keep K90q (ninS (Ne.symm q39) nin0)
  have h105 : Fld Z T90.heap b38 "com/example/ballast/ballast/database/CompactionPolicy" "transactions" "J" (.long tn_77) := h83.keep K90q (ninS (Ne.symm q39) nin0)
  have K90 : Keep h0 T90.heap [] := K74.trans K90q (fun x hx => (show ∀ x ∈ ([b7] : List Addr), x ∈ ([] : List Addr) ∨ h0.size ≤ x from (allS (Or.inr szb7) all0)) x hx)
  refine Go.tr  st90 ?_
  show Go p e below s Q 2 6 (T90.setTop (mkF m 72 #[.val (.long b0), .second, .val (.long t0), .second, .val (.long b1), .second, .val (.long t1), .second, .val (.long x1), .second, .val (.long u1), .second, .val (.ref b7), .val (.ref b38), .val (.int r_60), .val (.int r_76), .unset, .unset] [(.int r_93)]))
  have f106 := rng32 r_93
  refine Go.st (fun _ k => XS.istore X90.here hx rfl (hb hby at_72) rfl (l' := #[.val (.long b0), .second, .val (.long t0), .second, .val (.long b1), .second, .val (.long t1), .second, .val (.long x1), .second, .val (.long u1), .second, .val (.ref b7), .val (.ref b38), .val (.int r_60), .val (.int r_76), .val (.int r_93), .unset]) rfl k) ?_
  show Go p e below s Q 2 6 (T90.setTop (mkF m 74 #[.val (.long b0), .second, .val (.long t0), .second, .val (.long b1), .second, .val (.long t1), .second, .val (.long x1), .second, .val (.long u1), .second, .val (.ref b7), .val (.ref b38), .val (.int r_60), .val (.int r_76), .val (.int r_93), .unset] []))
  refine Go.st (fun _ k => XS.aload X90.here hx rfl (hb hby at_74) rfl rfl k) ?_
  show Go p e below s Q 2 6 (T90.setTop (mkF m 76 #[.val (.long b0), .second, .val (.long t0), .second, .val (.long b1), .second, .val (.long t1), .second, .val (.long x1), .second, .val (.long u1), .second, .val (.ref b7), .val (.ref b38), .val (.int r_60), .val (.int r_76), .val (.int r_93), .unset] [(.ref b38)]))
  refine Go.st (fun _ k => XS.lloadN X90.here hx rfl (hb hby at_76) rfl k) ?_
  show Go p e below s Q 2 6 (T90.setTop (mkF m 77 #[.val (.long b0), .second, .val (.long t0), .second, .val (.long b1), .second, .val (.long t1), .second, .val (.long x1), .second, .val (.long u1), .second, .val (.ref b7), .val (.ref b38), .val (.int r_60), .val (.int r_76), .val (.int r_93), .unset] [(.long b0), (.ref b38)]))
  refine Go.st (fun _ k => XS.lloadN X90.here hx rfl (hb hby at_77) rfl k) ?_
  show Go p e below s Q 2 6 (T90.setTop (mkF m 78 #[.val (.long b0), .second, .val (.long t0), .second, .val (.long b1), .second, .val (.long t1), .second, .val (.long x1), .second, .val (.long u1), .second, .val (.ref b7), .val (.ref b38), .val (.int r_60), .val (.int r_76), .val (.int r_93), .unset] [(.long t0), (.long b0), (.ref b38)]))
  have f108 := rng64 tn_77
  have p109 : 0 ≤ tn_77.toInt ∧ tn_77.toInt < 50 := by omega
  obtain ⟨cq107, kq107, q107a, q107b, q107c⟩ := isOf hZ rfl h102
  obtain ⟨_, _, ⟨T107, L107, k107, n107⟩, -, X107, ⟨Lc107, hQ107, l107, y107, z107⟩, st107⟩ := X90.virtualBack hx (y := (⟨"com/example/ballast/ballast/database/CompactionPolicy", "written", "(JJ)Z"⟩ : MethodName)) (z := (⟨"com/example/ballast/ballast/database/CompactionPolicy", "written", "(JJ)Z"⟩ : MethodName)) hown (mvT hZ (hw _ (List.mem_of_getElem? (i := 13) rfl))) (mvT hZ (hw _ (List.mem_of_getElem? (i := 14) rfl))) (notFace_of_selects (args := #[]) (mvT hZ (hw _ (List.mem_of_getElem? (i := 16) rfl)))) (mvT hZ (hw _ (List.mem_of_getElem? (i := 16) rfl))) (mvT hZ (hw _ (List.mem_of_getElem? (i := 15) rfl))) (by decide) (backOf (W := 0) (rm3 l Z a0 hw [] b38 b0 t0 b1 t1 tn_77 T90.heap n0 (Nat.le_trans Z0 K90.1) h102 Gb38 h101 h103 h104 h105 p109) hZ (hw _ (List.mem_of_getElem? (i := 17) rfl)) (hw _ (List.mem_of_getElem? (i := 2) rfl)) (by decide) (by decide)) q107a q107c (g := (mkF m 78 #[.val (.long b0), .second, .val (.long t0), .second, .val (.long b1), .second, .val (.long t1), .second, .val (.long x1), .second, .val (.long u1), .second, .val (.ref b7), .val (.ref b38), .val (.int r_60), .val (.int r_76), .val (.int r_93), .unset] [(.long t0), (.long b0), (.ref b38)])) rfl (by rw [hml]; rfl) (Steps.refl _) (argsL := [(.long b0), (.long t0)]) (rest := []) (lenOf pd_1 rfl) rfl (by show 2 * 0 + _ ≤ _; exact Nat.le_of_eq rfl) (hb hby at_78) (fun _ _ => ⟨rfl, rfl, (by decide : 2 + 0 ≤ _), (by decide : 6 + 0 ≤ _)⟩)
  dsimp only [Pt.U, Pt.locs, Pt.cells, Pt.slots] at X107 l107 y107 z107 st107 hQ107
  subst l107 y107 z107
  obtain ⟨r_110, tn_111, rfl, N107q, f112, f113, K107q, h114, h115, h116, h117⟩ := hQ107
  have N107 := Fr.app N90 N107q
  have h118 : Sta Z T107.heap "com/example/ballast/ballast/database/CompactionPolicy" "MIN_NANOS" "J" (.long (600000000000 : Int64)) := Jvm.OwnGo.sta_keep h101 K107q (fun x hx => (allS (P := fun x => Exi T90.heap x) (exi_exa h102) all0) x hx)
  have h119 : Exa Z T107.heap b7 "com/example/ballast/ballast/database/CompactionPolicy" := h97.keep K107q
  have h120 : Fld Z T107.heap b7 "com/example/ballast/ballast/database/CompactionPolicy" "baseBytes" "J" (.long b1) := h98.keep K107q (ninS q39 nin0)
  have h121 : Fld Z T107.heap b7 "com/example/ballast/ballast/database/CompactionPolicy" "since" "J" (.long t1) := h99.keep K107q (ninS q39 nin0)
  have h122 : Fld Z T107.heap b7 "com/example/ballast/ballast/database/CompactionPolicy" "transactions" "J" (.long tn_94) := h100.keep K107q (ninS q39 nin0)
  have K107 : Keep h0 T107.heap [] := K90.trans K107q (fun x hx => (show ∀ x ∈ ([b38] : List Addr), x ∈ ([] : List Addr) ∨ h0.size ≤ x from (allS (Or.inr szb38) all0)) x hx)
  refine Go.tr  st107 ?_
  show Go p e below s Q 2 6 (T107.setTop (mkF m 81 #[.val (.long b0), .second, .val (.long t0), .second, .val (.long b1), .second, .val (.long t1), .second, .val (.long x1), .second, .val (.long u1), .second, .val (.ref b7), .val (.ref b38), .val (.int r_60), .val (.int r_76), .val (.int r_93), .unset] [(.int r_110)]))
  have f123 := rng32 r_110
  refine Go.st (fun _ k => XS.istore X107.here hx rfl (hb hby at_81) rfl (l' := #[.val (.long b0), .second, .val (.long t0), .second, .val (.long b1), .second, .val (.long t1), .second, .val (.long x1), .second, .val (.long u1), .second, .val (.ref b7), .val (.ref b38), .val (.int r_60), .val (.int r_76), .val (.int r_93), .val (.int r_110)]) rfl k) ?_
  show Go p e below s Q 2 6 (T107.setTop (mkF m 83 #[.val (.long b0), .second, .val (.long t0), .second, .val (.long b1), .second, .val (.long t1), .second, .val (.long x1), .second, .val (.long u1), .second, .val (.ref b7), .val (.ref b38), .val (.int r_60), .val (.int r_76), .val (.int r_93), .val (.int r_110)] []))
  refine Go.st (fun _ k => XS.iload X107.here hx rfl (hb hby at_83) rfl k) ?_
  show Go p e below s Q 2 6 (T107.setTop (mkF m 85 #[.val (.long b0), .second, .val (.long t0), .second, .val (.long b1), .second, .val (.long t1), .second, .val (.long x1), .second, .val (.long u1), .second, .val (.ref b7), .val (.ref b38), .val (.int r_60), .val (.int r_76), .val (.int r_93), .val (.int r_110)] [(.int r_60)]))
  refine Go.st (fun _ k => XS.iload X107.here hx rfl (hb hby at_85) rfl k) ?_
  show Go p e below s Q 2 6 (T107.setTop (mkF m 87 #[.val (.long b0), .second, .val (.long t0), .second, .val (.long b1), .second, .val (.long t1), .second, .val (.long x1), .second, .val (.long u1), .second, .val (.ref b7), .val (.ref b38), .val (.int r_60), .val (.int r_76), .val (.int r_93), .val (.int r_110)] [(.int r_76), (.int r_60)]))
  by_cases c124 : r_60.toInt = r_76.toInt
  ·
    refine Go.st (fun _ k => XS.icmpNo X107.here hx rfl (hb hby at_87) rfl (teq (eqI rfl rfl c124)).2 k) ?_
    show Go p e below s Q 2 6 (T107.setTop (mkF m 90 #[.val (.long b0), .second, .val (.long t0), .second, .val (.long b1), .second, .val (.long t1), .second, .val (.long x1), .second, .val (.long u1), .second, .val (.ref b7), .val (.ref b38), .val (.int r_60), .val (.int r_76), .val (.int r_93), .val (.int r_110)] []))
    refine Go.st (fun _ k => XS.iload X107.here hx rfl (hb hby at_90) rfl k) ?_
    show Go p e below s Q 2 6 (T107.setTop (mkF m 92 #[.val (.long b0), .second, .val (.long t0), .second, .val (.long b1), .second, .val (.long t1), .second, .val (.long x1), .second, .val (.long u1), .second, .val (.ref b7), .val (.ref b38), .val (.int r_60), .val (.int r_76), .val (.int r_93), .val (.int r_110)] [(.int r_93)]))
    refine Go.st (fun _ k => XS.iload X107.here hx rfl (hb hby at_92) rfl k) ?_
    show Go p e below s Q 2 6 (T107.setTop (mkF m 94 #[.val (.long b0), .second, .val (.long t0), .second, .val (.long b1), .second, .val (.long t1), .second, .val (.long x1), .second, .val (.long u1), .second, .val (.ref b7), .val (.ref b38), .val (.int r_60), .val (.int r_76), .val (.int r_93), .val (.int r_110)] [(.int r_110), (.int r_93)]))
    by_cases c125 : r_93.toInt = r_110.toInt
    ·
      refine Go.st (fun _ k => XS.icmpNo X107.here hx rfl (hb hby at_94) rfl (teq (eqI rfl rfl c125)).2 k) ?_
      show Go p e below s Q 2 6 (T107.setTop (mkF m 97 #[.val (.long b0), .second, .val (.long t0), .second, .val (.long b1), .second, .val (.long t1), .second, .val (.long x1), .second, .val (.long u1), .second, .val (.ref b7), .val (.ref b38), .val (.int r_60), .val (.int r_76), .val (.int r_93), .val (.int r_110)] []))
      refine Go.st (fun _ k => XS.iconst X107.here hx rfl (hb hby at_97) k) ?_
      show Go p e below s Q 2 6 (T107.setTop (mkF m 98 #[.val (.long b0), .second, .val (.long t0), .second, .val (.long b1), .second, .val (.long t1), .second, .val (.long x1), .second, .val (.long u1), .second, .val (.ref b7), .val (.ref b38), .val (.int r_60), .val (.int r_76), .val (.int r_93), .val (.int r_110)] [(.int (1 : Int32))]))
      refine Go.st (fun _ k => XS.goto X107.here hx rfl (pc0 := 98) (pc' := 102) rfl (hb hby at_98) (by decide) (by decide) k) ?_
      show Go p e below s Q 2 6 (T107.setTop (mkF m 102 #[.val (.long b0), .second, .val (.long t0), .second, .val (.long b1), .second, .val (.long t1), .second, .val (.long x1), .second, .val (.long u1), .second, .val (.ref b7), .val (.ref b38), .val (.int r_60), .val (.int r_76), .val (.int r_93), .val (.int r_110)] [(.int (1 : Int32))]))
      have f126 := liI_1
      exact Go.retN X107 hx hlk (by simp) Bd.returns (hb hby at_102) (z' := (1 : Int32)) (by decide) (by rw [← hQ]; exact ⟨rfl, N107, K107⟩) (by decide) (by decide)
    ·
      refine Go.st (fun _ k => XS.icmpYes X107.here hx rfl (pc0 := 94) (pc' := 101) rfl (hb hby at_94) rfl (feq (neI rfl rfl c125)).2 (by decide) (by decide) k) ?_
      show Go p e below s Q 2 6 (T107.setTop (mkF m 101 #[.val (.long b0), .second, .val (.long t0), .second, .val (.long b1), .second, .val (.long t1), .second, .val (.long x1), .second, .val (.long u1), .second, .val (.ref b7), .val (.ref b38), .val (.int r_60), .val (.int r_76), .val (.int r_93), .val (.int r_110)] []))
      refine Go.st (fun _ k => XS.iconst X107.here hx rfl (hb hby at_101) k) ?_
      show Go p e below s Q 2 6 (T107.setTop (mkF m 102 #[.val (.long b0), .second, .val (.long t0), .second, .val (.long b1), .second, .val (.long t1), .second, .val (.long x1), .second, .val (.long u1), .second, .val (.ref b7), .val (.ref b38), .val (.int r_60), .val (.int r_76), .val (.int r_93), .val (.int r_110)] [(.int (0 : Int32))]))
      have f127 := liI_0
      have f128 := liI_1
      exact Go.retN X107 hx hlk (by simp) Bd.returns (hb hby at_102) (z' := (0 : Int32)) (by decide) (by rw [← hQ]; exact ⟨congrArg (fun z => some (Value.int z)) (Int32.toInt_inj.mp (by omega)), N107, K107⟩) (by decide) (by decide)
  ·
    refine Go.st (fun _ k => XS.icmpYes X107.here hx rfl (pc0 := 87) (pc' := 101) rfl (hb hby at_87) rfl (feq (neI rfl rfl c124)).2 (by decide) (by decide) k) ?_
    show Go p e below s Q 2 6 (T107.setTop (mkF m 101 #[.val (.long b0), .second, .val (.long t0), .second, .val (.long b1), .second, .val (.long t1), .second, .val (.long x1), .second, .val (.long u1), .second, .val (.ref b7), .val (.ref b38), .val (.int r_60), .val (.int r_76), .val (.int r_93), .val (.int r_110)] []))
    refine Go.st (fun _ k => XS.iconst X107.here hx rfl (hb hby at_101) k) ?_
    show Go p e below s Q 2 6 (T107.setTop (mkF m 102 #[.val (.long b0), .second, .val (.long t0), .second, .val (.long b1), .second, .val (.long t1), .second, .val (.long x1), .second, .val (.long u1), .second, .val (.ref b7), .val (.ref b38), .val (.int r_60), .val (.int r_76), .val (.int r_93), .val (.int r_110)] [(.int (0 : Int32))]))
    have f129 := liI_0
    have f130 := liI_1
    exact Go.retN X107 hx hlk (by simp) Bd.returns (hb hby at_102) (z' := (0 : Int32)) (by decide) (by rw [← hQ]; exact ⟨congrArg (fun z => some (Value.int z)) (Int32.toInt_inj.mp (by omega)), N107, K107⟩) (by decide) (by decide)
set_option maxRecDepth 65536 in
set_option maxHeartbeats 40000000 in
theorem comes_1 {Post : Tables → Env → Array Value → State → Outcome → State → Prop} (hpost : ∀ tb e args s v u, (limb_1_1.after args s (.returned v) u = true ∧ limb_1_2.after args s (.returned v) u = true ∧ True) → FrameEnd s (.returned v) u (Jvm.fieldLocs frame_1_writes args s ++ Jvm.arrayLocs frame_1_arrays args s ++ Jvm.staticLocs frame_1_statics s) 16 128 → Post tb e args s (.returned v) u) :
    ArmFor flags0 classFile x code maxLocals ret World_1 tables_1 room_1 Calls_1 rest_1 Pre_1 Post := by
  intro l hfl _ _ p e ha hc hk s m args below hf hA hF happ hP
  obtain ⟨hcalls, hrest, hpre⟩ := hP
  obtain ⟨-, -, -, hnamed, -, -, -, hat⟩ := (Spec.applies_iff hf).mp happ
  obtain ⟨hg, hn⟩ := and_e (Cond.before_iff.mp (show (Jvm.Cond.and given_1 narrow_1).before args s = true from hpre))
  obtain ⟨hcount, g0⟩ := and_e hg
  obtain ⟨a0, g1⟩ := and_e g0
  obtain ⟨a1, g2⟩ := and_e g1
  obtain ⟨a2, g3⟩ := and_e g2
  obtain ⟨a3, g4⟩ := and_e g3
  obtain ⟨a4, g5⟩ := and_e g4
  obtain ⟨w0, w1, w2, w3, w4, w5, rfl⟩ : ∃ w0 w1 w2 w3 w4 w5 : Value, args = #[w0, w1, w2, w3, w4, w5] := by
    have hs : args.size = 6 := by simpa [Cond.value, given_1] using hcount
    obtain ⟨L⟩ := args
    match L, hs with
    | [w0, w1, w2, w3, w4, w5], _ => exact ⟨w0, w1, w2, w3, w4, w5, rfl⟩
  have hw := fun d (hd : d ∈ tables_1) => atoms_spec (ws := Jvm.Cond.code x code maxLocals ret :: tables_1) hat d (List.mem_cons_of_mem _ hd)
  have hfit : Fit s := fun {y c} hc i hi => by
    obtain ⟨ha, rfl⟩ := Array.getElem?_eq_some_iff.mp hc
    have q := List.all_eq_true.mp ((Array.all_eq_true_iff_forall_mem.mp hF) _ (Array.getElem_mem ha)) i (List.mem_range.mpr hi)
    simpa [Array.getElem?_eq_getElem hi] using q
  obtain ⟨i0, ei0⟩ := isL_v a0
  obtain rfl : w0 = (.long i0) := Option.some.inj ei0
  obtain ⟨i1, ei1⟩ := isL_v a1
  obtain rfl : w1 = (.long i1) := Option.some.inj ei1
  obtain ⟨i2, ei2⟩ := isL_v a2
  obtain rfl : w2 = (.long i2) := Option.some.inj ei2
  obtain ⟨i3, ei3⟩ := isL_v a3
  obtain rfl : w3 = (.long i3) := Option.some.inj ei3
  obtain ⟨i4, ei4⟩ := isL_v a4
  obtain rfl : w4 = (.long i4) := Option.some.inj ei4
  obtain ⟨i5, ei5⟩ := isL_v g5
  obtain rfl : w5 = (.long i5) := Option.some.inj ei5
  have S_MIN_NANOS : Sta s s.heap "com/example/ballast/ballast/database/CompactionPolicy" "MIN_NANOS" "J" (.long (600000000000 : Int64)) := Sta.start (sta_long hn) (Or.inr ⟨(hw _ (List.mem_of_getElem? (i := 2) rfl)), (hw _ (List.mem_of_getElem? (i := 29) rfl))⟩)
  obtain ⟨n, o, h1, h2, h3, _, L, rfl, ⟨rfl, N, _⟩, hq⟩ := rm0 l s _ hw tables_1 i0 i1 i2 i3 i4 i5 s.heap s.heap.size (Nat.le_refl _) S_MIN_NANOS p e ha hc hk s m _ below hf ((Spec.applies_iff_loose hf).mp happ).1 ⟨rfl, State.Warmed39.refl s, rfl⟩ trivial
  refine ⟨n, _, h1, h2, h3, hpost _ _ _ _ _ _ ⟨Cond.after_iff.mpr rfl, Cond.after_iff.mpr (eq_i res_at (Term.int_eval (1)) rfl), trivial⟩ ⟨hq.1, hq.2.1, (hq.2.2.sift fun y hy => Or.inr (N y hy)).mono (by decide) (by decide)⟩⟩
theorem main_1_1 : Claimed_1_1 := comes_1 fun _ _ _ _ _ _ h hF => ⟨h.1, hF⟩
theorem main_1_2 : Claimed_1_2 := comes_1 fun _ _ _ _ _ _ h hF => ⟨h.2.1, hF⟩
end Jvm.Pilot.@@N@@
namespace Jvm.Pilot.@@N@@
open Jvm Jvm.ClassFile Sem Op Lib Jvm.Free Jvm.Stand Jvm.Pilot.@@N@@.Jvm.D
/-! MADE BY PROGRAM (witnessworld.py) out of the Statement's table words and the real class files: 9 classes; the members and pool entries that the words name. The judged class is class 1, her method 1. -/
namespace start1
open Jvm.ClassFile
def u (s : String) : CpInfo := .utf8 (stringToUtf16 s)
/-- a pool by its gaps: so many unusable entries, then the entry; so many at the end -/
def gap : Nat → List CpInfo → List CpInfo
  | 0, r => r
  | n + 1, r => .unusable :: gap n r
def poolList (es : List (Nat × CpInfo)) (last : Nat) : List CpInfo := es.foldr (fun e r => gap e.1 (e.2 :: r)) (gap last [])
def pool (es : List (Nat × CpInfo)) (last : Nat) : Array CpInfo := ⟨poolList es last⟩
def fileOf (pool : Array CpInfo) (this : Nat) (attrs : Array Attribute := #[]) (ms : Array MethodInfo := #[]) (fl : Nat := 33) (sup : Nat := 0) (ifs : Array Nat := #[]) (fds : Array FieldInfo := #[]) : ClassFile where
  minorVersion := 0
  majorVersion := 65
  constantPool := pool
  accessFlags := fl
  thisClass := this
  superClass := sup
  interfaces := ifs
  fields := fds
  methods := ms
  attributes := attrs
def plain (name : String) (sup : Option ClassId) : Class where
  name := name
  kind := .ordinary
  loader := none
  accessFlags := 33
  super := sup
  interfaces := #[]
  cf := none
  fields := #[]
  methods := #[]
  instanceTypes := #[]
  staticTypes := #[]
  resolved := #[]
  callSites := []
  init := .initialized
  statics := none
  mirror := none

def pool0 : Array CpInfo := pool [(5, u "<init>"), (0, u "()V"), (1, .class_ 10), (1, u "java/lang/Object")] 113

def k0c0 : Code := { maxStack := 0, maxLocals := 1, code := object_method_1_code, exceptionTable := #[], attributes := #[] }
def k0m0 : Method := { name := "<init>", desc := "()V", sig := { parameters := [], returnType := none }, accessFlags := 1, code := some k0c0 }
/-- java/lang/Object -/
def k0 : Class := { plain "java/lang/Object" none with
  accessFlags := 33
  interfaces := #[]
  cf := some (fileOf pool0 8 #[] #[{ accessFlags := 1, nameIndex := 5, descriptorIndex := 6, attributes := #[] }] 33 0 #[] #[])
  fields := #[]
  methods := #[k0m0]
  instanceTypes := #[]
  staticTypes := #[]
  resolved := Array.replicate 124 none
  statics := none }

def pool1 : Array CpInfo := pool [(2, .class_ 4), (1, u "java/lang/Object"), (0, u "<init>"), (0, u "()V"), (0, .class_ 8), (0, u "com/example/ballast/ballast/database/CompactionPolicy"), (0, .methodref 7 10), (0, .nameAndType 5 11), (0, u "(JJ)V"), (0, .methodref 7 13), (0, .nameAndType 14 15), (0, u "written"), (0, u "(JJ)Z"), (0, .methodref 7 17), (0, .nameAndType 18 11), (0, u "compacted"), (0, .class_ 20), (0, u "com/example/ballast/ballast/database/CompactionPolicyCompactedPinLaw"), (2, u "law"), (0, u "(JJJJJJ)Z")] 3

def k1m0 : Method := { name := "<init>", desc := "()V", sig := { parameters := [], returnType := none }, accessFlags := 1, code := none }
def k1c1 : Code := { maxStack := 6, maxLocals := 18, code := code, exceptionTable := #[], attributes := #[] }
def k1m1 : Method := { name := "law", desc := "(JJJJJJ)Z", sig := { parameters := [.long, .long, .long, .long, .long, .long], returnType := some .boolean }, accessFlags := 9, code := some k1c1 }
/-- com/example/ballast/ballast/database/CompactionPolicyCompactedPinLaw -/
def k1 : Class := { plain "com/example/ballast/ballast/database/CompactionPolicyCompactedPinLaw" (some 0) with
  accessFlags := 49
  interfaces := #[]
  cf := some (fileOf pool1 19 #[] #[{ accessFlags := 1, nameIndex := 5, descriptorIndex := 6, attributes := #[] }, { accessFlags := 9, nameIndex := 23, descriptorIndex := 24, attributes := #[] }] 49 2 #[] #[])
  fields := #[]
  methods := #[k1m0, k1m1]
  instanceTypes := #[]
  staticTypes := #[]
  resolved := Array.replicate 28 none
  statics := none }

def pool2 : Array CpInfo := pool [(1, .methodref 2 3), (0, .class_ 4), (0, .nameAndType 5 6), (0, u "java/lang/Object"), (0, u "<init>"), (0, u "()V"), (0, .fieldref 8 9), (0, .class_ 10), (0, .nameAndType 11 12), (0, u "com/example/ballast/ballast/database/CompactionPolicy"), (0, u "baseBytes"), (0, u "J"), (0, .fieldref 8 14), (0, .nameAndType 15 12), (0, u "since"), (0, .fieldref 8 17), (0, .nameAndType 18 12), (0, u "transactions"), (0, .long 2), (1, .long 10485760), (1, .long 100), (1, .fieldref 8 26), (0, .nameAndType 27 12), (0, u "MIN_NANOS"), (2, u "MAX_NANOS"), (17, u "MIN_BYTES"), (1, u "GROWTH"), (0, u "MIN_TRANSACTIONS"), (0, u "(JJ)V"), (2, u "written"), (0, u "(JJ)Z"), (1, u "compacted")] 5

def k2c0 : Code := { maxStack := 3, maxLocals := 5, code := prog_7_method_1_code, exceptionTable := #[], attributes := #[] }
def k2m0 : Method := { name := "<init>", desc := "(JJ)V", sig := { parameters := [.long, .long], returnType := none }, accessFlags := 0, code := some k2c0 }
def k2c1 : Code := { maxStack := 6, maxLocals := 9, code := prog_7_method_2_code, exceptionTable := #[], attributes := #[] }
def k2m1 : Method := { name := "written", desc := "(JJ)Z", sig := { parameters := [.long, .long], returnType := some .boolean }, accessFlags := 0, code := some k2c1 }
def k2c2 : Code := { maxStack := 3, maxLocals := 5, code := prog_7_method_3_code, exceptionTable := #[], attributes := #[] }
def k2m2 : Method := { name := "compacted", desc := "(JJ)V", sig := { parameters := [.long, .long], returnType := none }, accessFlags := 0, code := some k2c2 }
/-- com/example/ballast/ballast/database/CompactionPolicy -/
def k2 : Class := { plain "com/example/ballast/ballast/database/CompactionPolicy" (some 0) with
  accessFlags := 48
  interfaces := #[]
  cf := some (fileOf pool2 8 #[] #[{ accessFlags := 0, nameIndex := 5, descriptorIndex := 52, attributes := #[] }, { accessFlags := 0, nameIndex := 55, descriptorIndex := 56, attributes := #[] }, { accessFlags := 0, nameIndex := 58, descriptorIndex := 52, attributes := #[] }] 48 2 #[] #[{ accessFlags := 24, nameIndex := 48, descriptorIndex := 12, attributes := #[] }, { accessFlags := 24, nameIndex := 50, descriptorIndex := 12, attributes := #[] }, { accessFlags := 24, nameIndex := 51, descriptorIndex := 12, attributes := #[] }, { accessFlags := 24, nameIndex := 27, descriptorIndex := 12, attributes := #[] }, { accessFlags := 24, nameIndex := 30, descriptorIndex := 12, attributes := #[] }, { accessFlags := 2, nameIndex := 11, descriptorIndex := 12, attributes := #[] }, { accessFlags := 2, nameIndex := 15, descriptorIndex := 12, attributes := #[] }, { accessFlags := 2, nameIndex := 18, descriptorIndex := 12, attributes := #[] }])
  fields := #[{ name := "MIN_BYTES", type := .long, accessFlags := 24, slot := 0, constantValue := 0 }, { name := "GROWTH", type := .long, accessFlags := 24, slot := 1, constantValue := 0 }, { name := "MIN_TRANSACTIONS", type := .long, accessFlags := 24, slot := 2, constantValue := 0 }, { name := "MIN_NANOS", type := .long, accessFlags := 24, slot := 3, constantValue := 0 }, { name := "MAX_NANOS", type := .long, accessFlags := 24, slot := 4, constantValue := 0 }, { name := "baseBytes", type := .long, accessFlags := 2, slot := 0, constantValue := 0 }, { name := "since", type := .long, accessFlags := 2, slot := 1, constantValue := 0 }, { name := "transactions", type := .long, accessFlags := 2, slot := 2, constantValue := 0 }]
  methods := #[k2m0, k2m1, k2m2]
  instanceTypes := #[.long, .long, .long]
  staticTypes := #[.long, .long, .long, .long, .long]
  resolved := Array.replicate 64 none
  statics := some 0 }

def pool3 : Array CpInfo := pool [(1, u "java/lang/Cloneable"), (0, .class_ 1), (0, u "java/lang/Object"), (0, .class_ 3)] 3

/-- java/lang/Cloneable -/
def k3 : Class := { plain "java/lang/Cloneable" (some 0) with
  accessFlags := 1537
  interfaces := #[]
  cf := some (fileOf pool3 2 #[] #[] 1537 4 #[] #[])
  fields := #[]
  methods := #[]
  instanceTypes := #[]
  staticTypes := #[]
  resolved := Array.replicate 8 none
  statics := none }

def pool4 : Array CpInfo := pool [(1, u "java/io/Serializable"), (0, .class_ 1), (0, u "java/lang/Object"), (0, .class_ 3)] 3

/-- java/io/Serializable -/
def k4 : Class := { plain "java/io/Serializable" (some 0) with
  accessFlags := 1537
  interfaces := #[]
  cf := some (fileOf pool4 2 #[] #[] 1537 4 #[] #[])
  fields := #[]
  methods := #[]
  instanceTypes := #[]
  staticTypes := #[]
  resolved := Array.replicate 8 none
  statics := none }

/-- the primitive byte -/
def k5 : Class := { plain "byte" none with kind := .primitive 'B', accessFlags := 0x411 }
/-- [B -/
def k6 : Class := { plain "[B" (some 0) with kind := .array 5 .byte, interfaces := #[3, 4], accessFlags := 1041 }

/-- the primitive int -/
def k7 : Class := { plain "int" none with kind := .primitive 'I', accessFlags := 0x411 }
/-- [I -/
def k8 : Class := { plain "[I" (some 0) with kind := .array 7 .int, interfaces := #[3, 4], accessFlags := 1041 }

def heap : Heap := #[{ cls := 2, slots := #[.long 0, .long 0, .long 0, .long 600000000000, .long 0], vm := .statics 2 }]
def classes : Array Class := #[k0, k1, k2, k3, k4, k5, k6, k7, k8]
def interned : List (Array UInt16 × Addr) := []
def slotsUsed : Nat := 5
def theMethod : MethodId := ⟨1, 1⟩
def args0 : Array Value := #[.long 5, .long 7, .long 5, .long 7, .long 5, .long 7]
def aboutOver (below : List Frame) : State where
  vm := { classes := classes, interned := interned.toArray }
  heap := heap
  slotsUsed := slotsUsed
  threads := #[{ frames := .invoking theMethod args0 :: below }]
def below0 : List Frame := [.native { method := ⟨0, 0⟩, args := #[] }]
def about1 : State := aboutOver below0
def p0 : Program := .bare "" "" ""
def e0 : Env := launch0.env 0 0 0
theorem w_frames : about1.frames = Frame.invoking theMethod args0 :: below0 := rfl
set_option maxRecDepth 65536 in
theorem w_args : argsFit about1.vm theMethod args0 = true := by decide +kernel
set_option maxRecDepth 65536 in
theorem w_heap : heapFits about1 = true := by decide +kernel
set_option maxRecDepth 65536 in
theorem w_runnable : about1.curStatus? = some .runnable := by decide +kernel
set_option maxRecDepth 65536 in
theorem w_alone : about1.alone = true := by decide +kernel
set_option maxRecDepth 65536 in
theorem w_named : about1.methodNamed? x = some theMethod := by decide +kernel
set_option maxRecDepth 65536 in
theorem w_hears : about1.hears theMethod below0 = true := by decide +kernel
set_option maxRecDepth 65536 in
theorem w_ripe : about1.ripe theMethod args0 below0 = true := by decide +kernel
theorem w_running : about1.status = .running := rfl
set_option maxRecDepth 65536 in
theorem w_room : about1.hasRoom e0.platform room_1 = true :=
  launch0.hasRoom_least _ room_1 (by decide +kernel) (by decide +kernel) (by decide +kernel) (by decide +kernel) (by decide +kernel) (by decide +kernel)
theorem allAtoms_all (ts : List Jvm.Cond) (a : Array Jvm.Value) (st : Jvm.State) : (allAtoms ts).before a st = ts.all (fun c => c.before a st) := by
  induction ts with
  | nil => rfl
  | cons c t ih =>
    show (Jvm.Cond.and c (allAtoms t)).before a st = _
    rw [Jvm.Cond.before_and, ih, List.all_cons]
def words1 : List Jvm.Cond := Jvm.Cond.code x code maxLocals ret :: tables_1
/-- a 'code' word, met by the world's own term for the bytes: nothing is compared byte by byte -/
theorem code_word {y : MethodName} {bytes : ByteArray} {mx : Nat} {rt : Option FieldType} {a : Array Value} {s : State} {m : MethodId} {meth : Method} {c : Code} (h1 : s.methodNamed? y = some m) (h2 : s.vm.method? m = some meth) (h3 : meth.code = some c) (h4 : c.code = bytes)
    (h5 : (c.maxLocals == mx && c.exceptionTable.isEmpty && decide (c.maxStack ≤ mostOperands) && decide (meth.sig.returnType = rt) && !meth.locks && decide (parseMethodDescriptor y.desc = some meth.sig)) = true) : (Jvm.Cond.code y bytes mx rt).before a s = true := by
  simp only [Bool.and_eq_true, beq_iff_eq, Bool.not_eq_true', decide_eq_true_eq] at h5
  obtain ⟨⟨⟨⟨⟨g1, g2⟩, g3⟩, g4⟩, g5⟩, g6⟩ := h5
  simp [Cond.before, Cond.holds, Cond.value, h1, h2, h3, h4, g1, g2, g3, g4, g5, g6]
def isCode : Jvm.Cond → Bool
  | .code _ _ _ _ => true
  | _ => false
theorem all_split {L : List Jvm.Cond} {P : Jvm.Cond → Bool} (h1 : L.all (fun c => isCode c || P c) = true) (h2 : ∀ c ∈ L.filter isCode, P c = true) : L.all P = true := by
  refine List.all_eq_true.mpr fun c hc => ?_
  have h := List.all_eq_true.mp h1 c hc
  rcases Bool.eq_false_or_eq_true (isCode c) with hi | hi
  · exact h2 c (List.mem_filter.mpr ⟨hc, hi⟩)
  · simpa [hi] using h
set_option maxRecDepth 65536 in
theorem w_c0 : (Jvm.Cond.code x code maxLocals ret).before args0 about1 = true := code_word (m := ⟨1, 1⟩) (meth := k1m1) (c := k1c1) (by decide +kernel) rfl rfl rfl (by decide +kernel)
set_option maxRecDepth 65536 in
theorem w_c1 : (Jvm.Cond.code ({ cls := "com/example/ballast/ballast/database/CompactionPolicy", name := "<init>", desc := "(JJ)V" } : Jvm.MethodName) prog_7_method_1_code (5 : Nat) (Option.none : Option Jvm.ClassFile.FieldType)).before args0 about1 = true := code_word (m := ⟨2, 0⟩) (meth := k2m0) (c := k2c0) (by decide +kernel) rfl rfl rfl (by decide +kernel)
set_option maxRecDepth 65536 in
theorem w_c2 : (Jvm.Cond.code ({ cls := "java/lang/Object", name := "<init>", desc := "()V" } : Jvm.MethodName) object_method_1_code (1 : Nat) (Option.none : Option Jvm.ClassFile.FieldType)).before args0 about1 = true := code_word (m := ⟨0, 0⟩) (meth := k0m0) (c := k0c0) (by decide +kernel) rfl rfl rfl (by decide +kernel)
set_option maxRecDepth 65536 in
theorem w_c3 : (Jvm.Cond.code ({ cls := "com/example/ballast/ballast/database/CompactionPolicy", name := "written", desc := "(JJ)Z" } : Jvm.MethodName) prog_7_method_2_code (9 : Nat) (Option.some Jvm.ClassFile.FieldType.boolean)).before args0 about1 = true := code_word (m := ⟨2, 1⟩) (meth := k2m1) (c := k2c1) (by decide +kernel) rfl rfl rfl (by decide +kernel)
set_option maxRecDepth 65536 in
theorem w_c4 : (Jvm.Cond.code ({ cls := "com/example/ballast/ballast/database/CompactionPolicy", name := "compacted", desc := "(JJ)V" } : Jvm.MethodName) prog_7_method_3_code (5 : Nat) (Option.none : Option Jvm.ClassFile.FieldType)).before args0 about1 = true := code_word (m := ⟨2, 2⟩) (meth := k2m2) (c := k2c2) (by decide +kernel) rfl rfl rfl (by decide +kernel)
def codes1 : List Jvm.Cond := [Jvm.Cond.code x code maxLocals ret, Jvm.Cond.code ({ cls := "com/example/ballast/ballast/database/CompactionPolicy", name := "<init>", desc := "(JJ)V" } : Jvm.MethodName) prog_7_method_1_code (5 : Nat) (Option.none : Option Jvm.ClassFile.FieldType), Jvm.Cond.code ({ cls := "java/lang/Object", name := "<init>", desc := "()V" } : Jvm.MethodName) object_method_1_code (1 : Nat) (Option.none : Option Jvm.ClassFile.FieldType), Jvm.Cond.code ({ cls := "com/example/ballast/ballast/database/CompactionPolicy", name := "written", desc := "(JJ)Z" } : Jvm.MethodName) prog_7_method_2_code (9 : Nat) (Option.some Jvm.ClassFile.FieldType.boolean), Jvm.Cond.code ({ cls := "com/example/ballast/ballast/database/CompactionPolicy", name := "compacted", desc := "(JJ)V" } : Jvm.MethodName) prog_7_method_3_code (5 : Nat) (Option.none : Option Jvm.ClassFile.FieldType)]
set_option maxRecDepth 65536 in
theorem codes_eq : words1.filter isCode = codes1 := rfl
theorem w_codes : ∀ c ∈ words1.filter isCode, c.before args0 about1 = true := by
  rw [codes_eq]
  intro c hc
  simp only [codes1, List.mem_cons, List.not_mem_nil, or_false] at hc
  rcases hc with rfl | rfl | rfl | rfl | rfl
  · exact w_c0
  · exact w_c1
  · exact w_c2
  · exact w_c3
  · exact w_c4
set_option maxRecDepth 65536 in
theorem w_t1 : (words1.take 24).all (fun c => isCode c || c.before args0 about1) = true := by decide +kernel
set_option maxRecDepth 65536 in
theorem w_t2 : (words1.drop 24).all (fun c => isCode c || c.before args0 about1) = true := by decide +kernel
theorem w_tables : (allAtoms (Jvm.Cond.code x code maxLocals ret :: tables_1)).before args0 about1 = true := by
  rw [allAtoms_all]
  show words1.all (fun c => c.before args0 about1) = true
  refine all_split ?_ w_codes
  rw [← List.take_append_drop 24 words1, List.all_append, w_t1, w_t2]
  rfl
set_option maxRecDepth 65536 in
theorem w_case : (Jvm.Cond.and given_1 narrow_1).before args0 about1 = true := by decide +kernel
theorem w_applies : (headSpec (Jvm.Cond.code x code maxLocals ret :: tables_1) room_1).applies x e0.platform about1 = true :=
  (Spec.applies_iff w_frames).mpr ⟨w_running, w_runnable, w_alone, w_named, w_hears, w_ripe, w_room, w_tables⟩
theorem atStart : AtStart classFile x code maxLocals ret World_1 tables_1 room_1 Calls_1 rest_1 Pre_1 launch0 p0 e0 about1 theMethod args0 below0 :=
  ⟨lists_1, trivial, launch0.admits_env _ _ _, launch0.least_env, fairChoices_fair.cas, fairChoices_fair.clock, w_frames, w_args, w_heap, w_applies, trivial, trivial, w_case⟩
end start1
theorem witness_1 : WitnessClaimed_1 := ⟨start1.p0, start1.e0, start1.about1, start1.theMethod, start1.args0, start1.below0, start1.atStart⟩
end Jvm.Pilot.@@N@@
